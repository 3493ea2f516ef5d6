import JvmDerived
import JvmDerived.Pilot.@@N@@Statement
import JvmDerived.Pilot.@@N@@Code
set_option linter.unusedVariables false
set_option linter.unusedSimpArgs false
namespace Jvm.RoadKit
open Sem ClassFile Op Lib Jvm.Stand Jvm.Free Jvm.LawKit
section New
variable {p : Program} {l : Launch} {e : Env} {R : Room} {s : State} {m : MethodId} {args : Array Value} {below : List Frame} {meth : Method} {c : Code} {T : State} {locs : List Loc} {cells slots : Nat}
theorem retI (X : Stand p l e R s m args below meth c T locs cells slots) (hx : p.tables.exec = Jvm.exec) {pc : Nat} {Ls : Array Slot} {z : Int32} {rest : List Value} (hret : meth.sig.returnType = some .int) (hd : decode c.code pc = .ok (.ireturn, 1)) {fs : List Frame}
    (hl : ∀ (f : JFrame) (acts : List Action), f.method = m → f.locked = none → f.entered = [] → (doReturn e (T.setTop f) acts (some (.int z))).1 = T.setFrames fs) : Steps p.tables e below (T.setTop (mkF m pc Ls (.int z :: rest))) (T.setFrames fs) := by
  have hm' : T.vm.method? m = some meth := X.method'
  have hn : narrow .int (.int z) = .int z := rfl
  show Steps p.tables e below (T.setTop { method := m, pc := pc, locals := Ls, stack := _ :: rest, locked := none }) _
  jvm_step X.here [X.here.top, hx, hd, hm', hret, hn]
  first | (intro acts; rw [hl _ acts rfl rfl rfl]) | rw [hl _ _ rfl rfl rfl]
  exact Steps.refl _
theorem retA (X : Stand p l e R s m args below meth c T locs cells slots) (hx : p.tables.exec = Jvm.exec) {pc : Nat} {Ls : Array Slot} {w : Value} {t : FieldType} {rest : List Value} (hret : meth.sig.returnType = some t) (ht : t.isReference = true) (hw : w.isRef = true) (hn : narrow t w = w) (hd : decode c.code pc = .ok (.areturn, 1)) {fs : List Frame}
    (hl : ∀ (f : JFrame) (acts : List Action), f.method = m → f.locked = none → f.entered = [] → (doReturn e (T.setTop f) acts (some w)).1 = T.setFrames fs) : Steps p.tables e below (T.setTop (mkF m pc Ls (w :: rest))) (T.setFrames fs) :=
  retOut X hx hret hn (Or.inr (Or.inr (Or.inr (Or.inr ⟨rfl, ht, hw⟩)))) hd hl
end New
/-- all that was there is there still: a write to a cell above -/
theorem own_ext_wr {h0 h h' : Heap} {a : Addr} {sl : Nat} {v : Value} (E : Ext h0 h) (W : Wr h h' a sl v) (q : h0.size ≤ a) : Ext h0 h' := by
  refine ⟨Nat.le_trans E.1 (Keep.of_wr W).1, fun x c hc => (Keep.of_wr W).2.1 x c (E.2 x c hc) fun hm => ?_⟩
  cases List.mem_singleton.mp hm
  exact absurd (Array.getElem?_eq_some_iff.mp hc).1 (Nat.not_lt.mpr q)
theorem own_ext_keep {h0 h h' : Heap} {ws : List Addr} (E : Ext h0 h) (K : Keep h h' ws) (q : ∀ x ∈ ws, h0.size ≤ x) : Ext h0 h' :=
  ⟨Nat.le_trans E.1 K.1, fun x c hc => K.2.1 x c (E.2 x c hc) fun hm => absurd (Array.getElem?_eq_some_iff.mp hc).1 (Nat.not_lt.mpr (q x hm))⟩
theorem own_ext_trans {h0 h h' : Heap} (E : Ext h0 h) (E' : Ext h h') : Ext h0 h' := ⟨Nat.le_trans E.1 E'.1, fun x c hc => E'.2 x c (E.2 x c hc)⟩
theorem own_ext_refl (h : Heap) : Ext h h := ⟨Nat.le_refl _, fun _ _ q => q⟩
/-- a static that holds an object of this very class -/
theorem own_sta {Z : State} {a0 : Array Value} {C n d K : String} (wi : (Cond.initialized C).before a0 Z = true) (wl : (Cond.laysStatic C n d).before a0 Z = true) (hx : (Cond.exactly (.static C n d) K).value a0 Z none Z [] = some true) :
    ∃ w, (Term.static C n d).eval a0 Z none [] Z = some (.ref w) ∧ Sta Z Z.heap C n d (.ref w) ∧ Exa Z Z.heap w K := by
  obtain ⟨w, ev⟩ := exa_v hx
  exact ⟨w, ev, Sta.start ev (Or.inr ⟨wi, wl⟩), Exa.start ev hx⟩
/-- a field of an object that a term names, by an 'eq' of ints -/
theorem own_fld {Z : State} {a0 : Array Value} {t : Term} {w : Addr} {C n d : String} {k : Int32} (ev : t.eval a0 Z none [] Z = some (.ref w)) (h : (Cond.eq (.field t C n d) (.int k)).value a0 Z none Z [] = some true) : Fld Z Z.heap w C n d (.int k) :=
  Fld.start ((fld_at ev).symm.trans (eqv_i (F := .int k) rfl h))
end Jvm.RoadKit
namespace Jvm.RoadKit
open Sem ClassFile Op Lib Jvm.Stand Jvm.Free Jvm.LawKit
theorem own_fldR {Z : State} {a0 : Array Value} {t u : Term} {w w' : Addr} {C n d : String} (ev : t.eval a0 Z none [] Z = some (.ref w)) (eu : u.eval a0 Z none [] Z = some (.ref w')) (h : (Cond.eq (.field t C n d) u).value a0 Z none Z [] = some true) : Fld Z Z.heap w C n d (.ref w') := by
  refine Fld.start ((fld_at ev).symm.trans ?_)
  obtain ⟨x, y, hx, hy, -, -⟩ := cmp_v (Or.inl h)
  cases eu.symm.trans hy
  simp only [Cond.value, hx, hy] at h
  cases x <;> simp at h
  rw [hx, h]
theorem own_staA {Z : State} {a0 : Array Value} {C n d : String} {ty : FieldType} (wi : (Cond.initialized C).before a0 Z = true) (wl : (Cond.laysStatic C n d).before a0 Z = true) (hx : (Cond.arrayOf (.static C n d) ty).value a0 Z none Z [] = some true) :
    ∃ w, (Term.static C n d).eval a0 Z none [] Z = some (.ref w) ∧ Sta Z Z.heap C n d (.ref w) ∧ ∃ c, Arr Z Z.heap w c ty := by
  obtain ⟨w, ev⟩ := arr_v hx
  exact ⟨w, ev, Sta.start ev (Or.inr ⟨wi, wl⟩), Arr.start ev hx⟩
theorem own_len {Z : State} {a0 : Array Value} {t : Term} {w : Addr} {c : Cell} {ty : FieldType} {k : Int32} {n : Nat} (ev : t.eval a0 Z none [] Z = some (.ref w)) (A : Arr Z Z.heap w c ty) (h : (Cond.eq (.length t) (.int k)).value a0 Z none Z [] = some true) (hk : k.toInt = n) : c.slots.size = n := by
  have e := eqv_i (F := .int k) rfl h
  have ha : Z.arrayAt? w = some c := Arr.fin (Vm.Alike.refl _) A
  simp only [Term.eval, ev, ha, Option.bind_eq_bind, Option.bind_some] at e
  split at e
  · rename_i hl
    have q : c.slots.size.toInt32 = k := by simpa using e
    have q2 := len_toInt hl
    rw [q, hk] at q2
    omega
  · cases e
theorem own_elem {Z : State} {a0 : Array Value} {t : Term} {w : Addr} {c : Cell} {ty : FieldType} {k : Int32} {n : Nat} {v : Value} (ev : t.eval a0 Z none [] Z = some (.ref w)) (A : Arr Z Z.heap w c ty) (h : (Term.elem t (.int k)).eval a0 Z none [] Z = some v) (hk : k.toNatClampNeg = n) : c.slots[n]? = some v := by
  have q := (elem_in h ev (j := k) rfl A.1).2
  rw [hk] at q; exact q
theorem own_elN {Z : State} {a0 : Array Value} {t : Term} {w : Addr} {c : Cell} {ty : FieldType} {k : Int32} {n : Nat} (ev : t.eval a0 Z none [] Z = some (.ref w)) (A : Arr Z Z.heap w c ty) (h : (Cond.eq (.elem t (.int k)) .null).value a0 Z none Z [] = some true) (hk : k.toNatClampNeg = n) : c.slots[n]? = some .null := own_elem ev A (null_v h) hk
theorem own_elI {Z : State} {a0 : Array Value} {t : Term} {w : Addr} {c : Cell} {ty : FieldType} {k i : Int32} {n : Nat} (ev : t.eval a0 Z none [] Z = some (.ref w)) (A : Arr Z Z.heap w c ty) (h : (Cond.eq (.elem t (.int k)) (.int i)).value a0 Z none Z [] = some true) (hk : k.toNatClampNeg = n) : c.slots[n]? = some (.int i) := own_elem ev A (eqv_i (F := .int i) rfl h) hk
theorem own_elR {Z : State} {a0 : Array Value} {t u : Term} {w w' : Addr} {c : Cell} {ty : FieldType} {k : Int32} {n : Nat} (ev : t.eval a0 Z none [] Z = some (.ref w)) (A : Arr Z Z.heap w c ty) (eu : u.eval a0 Z none [] Z = some (.ref w')) (h : (Cond.eq (.elem t (.int k)) u).value a0 Z none Z [] = some true) (hk : k.toNatClampNeg = n) : c.slots[n]? = some (.ref w') := by
  refine own_elem ev A ?_ hk
  obtain ⟨x, y, hx, hy, -, -⟩ := cmp_v (Or.inl h)
  cases eu.symm.trans hy
  simp only [Cond.value, hx, hy] at h
  cases x <;> simp at h
  rw [hx, h]
end Jvm.RoadKit
namespace Jvm.Pilot.@@N@@
open Jvm Jvm.ClassFile Sem Op Lib Jvm.Free Jvm.Stand Jvm.LawKit Jvm.RoadKit Bundle Jvm.Pilot.@@N@@.Jvm.D
def own_of (k : Int64) (w_STRING w_HASHED_STRING w_CLASS w_INSTANCE w_ROOTS w_OBJECT_ARRAY w_PRIMITIVE_ARRAY w_LEGACY : Addr) : Value := if k = (1 : Int64) then .ref w_STRING else if k = (2 : Int64) then .ref w_HASHED_STRING else if k = (3 : Int64) then .ref w_CLASS else if k = (4 : Int64) then .ref w_INSTANCE else if k = (5 : Int64) then .ref w_ROOTS else if k = (6 : Int64) then .ref w_OBJECT_ARRAY else if k = (7 : Int64) then .ref w_PRIMITIVE_ARRAY else if k = (8 : Int64) then .ref w_LEGACY else .null
theorem own_of_ref (k : Int64) (w_STRING w_HASHED_STRING w_CLASS w_INSTANCE w_ROOTS w_OBJECT_ARRAY w_PRIMITIVE_ARRAY w_LEGACY : Addr) : (own_of k w_STRING w_HASHED_STRING w_CLASS w_INSTANCE w_ROOTS w_OBJECT_ARRAY w_PRIMITIVE_ARRAY w_LEGACY).isRef = true := by
  unfold own_of
  repeat' split
  all_goals rfl
theorem own_of_out (k : Int64) (w_STRING w_HASHED_STRING w_CLASS w_INSTANCE w_ROOTS w_OBJECT_ARRAY w_PRIMITIVE_ARRAY w_LEGACY : Addr) (h : k < (1 : Int64) ∨ ((8 : Int32).toInt64) < k) : own_of k w_STRING w_HASHED_STRING w_CLASS w_INSTANCE w_ROOTS w_OBJECT_ARRAY w_PRIMITIVE_ARRAY w_LEGACY = .null := by
  unfold own_of
  repeat' split
  all_goals first | rfl | (subst_vars; exact absurd h (by decide))
theorem own_in (k : Int64) (h0 : ¬ k < (1 : Int64)) (h1 : ¬ ((8 : Int32).toInt64) < k) : k = (1 : Int64) ∨ k = (2 : Int64) ∨ k = (3 : Int64) ∨ k = (4 : Int64) ∨ k = (5 : Int64) ∨ k = (6 : Int64) ∨ k = (7 : Int64) ∨ k = (8 : Int64) := by
  rw [Int64.lt_iff_toInt_lt] at h0 h1
  have e0 : (1 : Int64).toInt = 1 := by decide
  have e1 : ((8 : Int32).toInt64).toInt = 8 := by decide
  rw [e0] at h0; rw [e1] at h1
  rcases (by omega : k.toInt = 1 ∨ k.toInt = 2 ∨ k.toInt = 3 ∨ k.toInt = 4 ∨ k.toInt = 5 ∨ k.toInt = 6 ∨ k.toInt = 7 ∨ k.toInt = 8) with h | h | h | h | h | h | h | h
  · exact Or.inl (Int64.toInt_inj.mp (h.trans (by decide)))
  · exact Or.inr (Or.inl (Int64.toInt_inj.mp (h.trans (by decide))))
  · exact Or.inr (Or.inr (Or.inl (Int64.toInt_inj.mp (h.trans (by decide)))))
  · exact Or.inr (Or.inr (Or.inr (Or.inl (Int64.toInt_inj.mp (h.trans (by decide))))))
  · exact Or.inr (Or.inr (Or.inr (Or.inr (Or.inl (Int64.toInt_inj.mp (h.trans (by decide)))))))
  · exact Or.inr (Or.inr (Or.inr (Or.inr (Or.inr (Or.inl (Int64.toInt_inj.mp (h.trans (by decide))))))))
  · exact Or.inr (Or.inr (Or.inr (Or.inr (Or.inr (Or.inr (Or.inl (Int64.toInt_inj.mp (h.trans (by decide)))))))))
  · exact Or.inr (Or.inr (Or.inr (Or.inr (Or.inr (Or.inr (Or.inr ((Int64.toInt_inj.mp (h.trans (by decide))))))))))
theorem own_tab {cl : Cell} (w_STRING w_HASHED_STRING w_CLASS w_INSTANCE w_ROOTS w_OBJECT_ARRAY w_PRIMITIVE_ARRAY w_LEGACY : Addr) (e0 : cl.slots[0]? = some (.ref w_STRING)) (e1 : cl.slots[1]? = some (.ref w_HASHED_STRING)) (e2 : cl.slots[2]? = some (.ref w_CLASS)) (e3 : cl.slots[3]? = some (.ref w_INSTANCE)) (e4 : cl.slots[4]? = some (.ref w_ROOTS)) (e5 : cl.slots[5]? = some (.ref w_OBJECT_ARRAY)) (e6 : cl.slots[6]? = some (.ref w_PRIMITIVE_ARRAY)) (e7 : cl.slots[7]? = some (.ref w_LEGACY)) : ∀ k : Int64, ¬ k < (1 : Int64) → ¬ ((8 : Int32).toInt64) < k → cl.slots[((k.toInt32) - (1 : Int32)).toNatClampNeg]? = some (own_of k w_STRING w_HASHED_STRING w_CLASS w_INSTANCE w_ROOTS w_OBJECT_ARRAY w_PRIMITIVE_ARRAY w_LEGACY) := by
  intro k h0 h1
  rcases own_in k h0 h1 with rfl | rfl | rfl | rfl | rfl | rfl | rfl | rfl
  · exact e0
  · exact e1
  · exact e2
  · exact e3
  · exact e4
  · exact e5
  · exact e6
  · exact e7
theorem own_ins (k : Int64) (h0 : ¬ k < (1 : Int64)) (h1 : ¬ ((8 : Int32).toInt64) < k) : ¬ ((k.toInt32) - (1 : Int32)) < (0 : Int32) ∧ ((k.toInt32) - (1 : Int32)) < (8 : Int32) := by
  rcases own_in k h0 h1 with rfl | rfl | rfl | rfl | rfl | rfl | rfl | rfl <;> decide
theorem ef_1 (m : MethodId) (k : Int64) : entryFrame m #[(.long k)] 2 = mkF m 0 #[.val (.long k), .second] [] := by first | (simp [entryFrame, mkF, argsToLocals, Value.category]; done) | rfl
def Q_1 (Z : State) (k : Int64) (w_STRING : Addr) (w_HASHED_STRING : Addr) (w_CLASS : Addr) (w_INSTANCE : Addr) (w_ROOTS : Addr) (w_OBJECT_ARRAY : Addr) (w_PRIMITIVE_ARRAY : Addr) (w_LEGACY : Addr) (w_BY_TAG : Addr) (cl_BY_TAG : Cell) (h0 : Heap) (n0 : Nat) (v : Option Value) (h : Heap) (L : List Loc) : Prop := v = some (own_of k w_STRING w_HASHED_STRING w_CLASS w_INSTANCE w_ROOTS w_OBJECT_ARRAY w_PRIMITIVE_ARRAY w_LEGACY) ∧ Fr n0 L ∧ h = h0
theorem pn_0 : plainName "com/example/heapscribe/heapscribe/Bmd$RecordKind" = true := by first | (simp [plainName, overriddenIn]; done) | decide +kernel
theorem d1_0 : decode prog_2_method_6_code 0 = .ok (.lload_n 0, 1) := by decide +kernel
theorem d1_1 : decode prog_2_method_6_code 1 = .ok (.lconst 1, 1) := by decide +kernel
theorem d1_2 : decode prog_2_method_6_code 2 = .ok (.lcmp, 1) := by decide +kernel
theorem d1_3 : decode prog_2_method_6_code 3 = .ok (.ifCond .lt 24, 3) := by decide +kernel
theorem d1_27 : decode prog_2_method_6_code 27 = .ok (.aconst_null, 1) := by decide +kernel
theorem d1_28 : decode prog_2_method_6_code 28 = .ok (.areturn, 1) := by decide +kernel
theorem d1_6 : decode prog_2_method_6_code 6 = .ok (.lload_n 0, 1) := by decide +kernel
theorem d1_7 : decode prog_2_method_6_code 7 = .ok (.getstatic 55, 3) := by decide +kernel
theorem d1_10 : decode prog_2_method_6_code 10 = .ok (.arraylength, 1) := by decide +kernel
theorem d1_11 : decode prog_2_method_6_code 11 = .ok (.i2l, 1) := by decide +kernel
theorem d1_12 : decode prog_2_method_6_code 12 = .ok (.lcmp, 1) := by decide +kernel
theorem d1_13 : decode prog_2_method_6_code 13 = .ok (.ifCond .gt 14, 3) := by decide +kernel
theorem d1_16 : decode prog_2_method_6_code 16 = .ok (.getstatic 55, 3) := by decide +kernel
theorem d1_19 : decode prog_2_method_6_code 19 = .ok (.lload_n 0, 1) := by decide +kernel
theorem d1_20 : decode prog_2_method_6_code 20 = .ok (.l2i, 1) := by decide +kernel
theorem d1_21 : decode prog_2_method_6_code 21 = .ok (.iconst 1, 1) := by decide +kernel
theorem d1_22 : decode prog_2_method_6_code 22 = .ok (.isub, 1) := by decide +kernel
theorem d1_23 : decode prog_2_method_6_code 23 = .ok (.aaload, 1) := by decide +kernel
theorem d1_24 : decode prog_2_method_6_code 24 = .ok (.goto 4, 3) := by decide +kernel
set_option maxRecDepth 65536 in
set_option maxHeartbeats 40000000 in
theorem rm_1 (l : Launch) (Z : State) (a0 : Array Value) (hw : ∀ d ∈ tables_1, d.before a0 Z = true) (ws : List Jvm.Cond) (k : Int64) (w_STRING : Addr) (w_HASHED_STRING : Addr) (w_CLASS : Addr) (w_INSTANCE : Addr) (w_ROOTS : Addr) (w_OBJECT_ARRAY : Addr) (w_PRIMITIVE_ARRAY : Addr) (w_LEGACY : Addr) (w_BY_TAG : Addr) (cl_BY_TAG : Cell) (h0 : Heap) (n0 : Nat) (Z0 : n0 ≤ h0.size) (S_BY_TAG : Sta Z h0 "com/example/heapscribe/heapscribe/Bmd$RecordKind" "BY_TAG" "[Lcom/example/heapscribe/heapscribe/Bmd$RecordKind;" (.ref w_BY_TAG)) (Ar_BY_TAG : Arr Z h0 w_BY_TAG cl_BY_TAG (.object "com/example/heapscribe/heapscribe/Bmd$RecordKind")) (Z_BY_TAG : cl_BY_TAG.slots.size = 8) (hat : ∀ k : Int64, ¬ k < (1 : Int64) → ¬ ((8 : Int32).toInt64) < k → cl_BY_TAG.slots[((k.toInt32) - (1 : Int32)).toNatClampNeg]? = some (own_of k w_STRING w_HASHED_STRING w_CLASS w_INSTANCE w_ROOTS w_OBJECT_ARRAY w_PRIMITIVE_ARRAY w_LEGACY)) :
    MetFree l (⟨"com/example/heapscribe/heapscribe/Bmd$RecordKind", "of", "(J)Lcom/example/heapscribe/heapscribe/Bmd$RecordKind;"⟩ : MethodName) (head1 (Jvm.Cond.code (⟨"com/example/heapscribe/heapscribe/Bmd$RecordKind", "of", "(J)Lcom/example/heapscribe/heapscribe/Bmd$RecordKind;"⟩ : MethodName) prog_2_method_6_code 2 (some (.object "com/example/heapscribe/heapscribe/Bmd$RecordKind")) :: ws) ({ frames := 0, cells := 0, slots := 0, locals := 0 } : Room)) (fun a_ U_ => a_ = #[(.long k)] ∧ Z.Warmed39 U_.vm ∧ U_.heap = h0) (fun _ _ _ _ _ => True) (fun _ U_ o_ V_ => ∃ v_ L_, o_ = .returned v_ ∧ Q_1 Z k w_STRING w_HASHED_STRING w_CLASS w_INSTANCE w_ROOTS w_OBJECT_ARRAY w_PRIMITIVE_ARRAY w_LEGACY w_BY_TAG cl_BY_TAG h0 n0 v_ V_.heap L_ ∧ FrameEnd U_ o_ V_ L_ ({ frames := 0, cells := 0, slots := 0, locals := 0 } : Room).cells ({ frames := 0, cells := 0, slots := 0, locals := 0 } : Room).slots) := by
  refine MetFree.of_bodySF (plainFor_of_name pn_0) hisR ?_
  intro p e s m args below meth c s₁ Bd hml0 hP hK
  obtain ⟨rfl, hZ, hh⟩ := hP
  have hx := Bd.exec
  have hby := Bd.bytes
  have hml : c.maxLocals = 2 := hml0
  have hown : s.vm.findClass "com/example/heapscribe/heapscribe/Bmd$RecordKind" = some m.cls := findClass_of_methodNamed Bd.named
  have hnm := (name_of_methodNamed Bd.named Bd.method).1
  have X0 : Stand p l e ({ frames := 0, cells := 0, slots := 0, locals := 0 } : Room) s m #[(.long k)] below meth c s₁ [] 0 0 := Stand.of_body Bd
  have e0 : s₁.heap = h0 := by rw [← hh, Bd.state]; rfl
  have N0 := Fr.nil n0
  have pre0 : ∀ t_, Steps p.tables e below (s₁.setTop (mkF m 0 #[.val (.long k), .second] [])) t_ → Steps p.tables e below (s₁.setTop (entryFrame m #[(.long k)] 2)) t_ := fun t_ k_ => castTop (ef_1 m k) k_
  have pre1 : ∀ t_, Steps p.tables e below (s₁.setTop (mkF m 3 #[.val (.long k), .second] [(.int (lcmpW k (1 : Int64)))])) t_ → Steps p.tables e below (s₁.setTop (entryFrame m #[(.long k)] 2)) t_ := fun t_ k_ => pre0 t_ (by
    show Steps p.tables e below (s₁.setTop (mkF m 0 #[.val (.long k), .second] [])) _
    refine XS.lloadN X0.here hx rfl (hb hby d1_0) rfl ?_
    show Steps p.tables e below (s₁.setTop (mkF m 1 #[.val (.long k), .second] [(.long k)])) _
    refine XS.lconst X0.here hx rfl (hb hby d1_1) ?_
    show Steps p.tables e below (s₁.setTop (mkF m 2 #[.val (.long k), .second] [(.long (1 : Int64)), (.long k)])) _
    refine XS.lcmp X0.here hx rfl (hb hby d1_2) rfl ?_
    show Steps p.tables e below (s₁.setTop (mkF m 3 #[.val (.long k), .second] [(.int (lcmpW k (1 : Int64)))])) _
    exact k_)
  by_cases hc3_2 : k < (1 : Int64)
  · have pre3 : ∀ t_, Steps p.tables e below (s₁.setTop (mkF m 28 #[.val (.long k), .second] [.null])) t_ → Steps p.tables e below (s₁.setTop (entryFrame m #[(.long k)] 2)) t_ := fun t_ k_ => pre1 t_ (by
      show Steps p.tables e below (s₁.setTop (mkF m 3 #[.val (.long k), .second] [(.int (lcmpW k (1 : Int64)))])) _
      refine XS.ifYes X0.here hx rfl (pc0 := 3) (pc' := 27) rfl (hb hby d1_3) rfl ((if0 _ _).trans (tlt ((lw_lt k (1 : Int64)).mpr hc3_2)).1) (by decide) (by decide) ?_
      show Steps p.tables e below (s₁.setTop (mkF m 27 #[.val (.long k), .second] [])) _
      refine XS.aconstNull X0.here hx rfl (hb hby d1_27) ?_
      show Steps p.tables e below (s₁.setTop (mkF m 28 #[.val (.long k), .second] [.null])) _
      exact k_)
    obtain ⟨fs, hr, hrun, hended, hW, hsame⟩ := X0.leave (v := some .null) (fun h => by rw [Bd.returns] at h; cases h)
    refine ⟨_, _, pre3 _ ?_, hrun, hended, _, _, rfl, ?_, ⟨_, rfl⟩, hW, hsame.mono (by decide) (by decide)⟩
    · show Steps p.tables e below (s₁.setTop (mkF m 28 #[.val (.long k), .second] [.null])) _
      exact retA X0 hx Bd.returns rfl rfl rfl (hb hby d1_28) hr
    · show Q_1 Z k w_STRING w_HASHED_STRING w_CLASS w_INSTANCE w_ROOTS w_OBJECT_ARRAY w_PRIMITIVE_ARRAY w_LEGACY w_BY_TAG cl_BY_TAG h0 n0 _ s₁.heap _
      rw [e0]
      exact ⟨congrArg some (own_of_out k w_STRING w_HASHED_STRING w_CLASS w_INSTANCE w_ROOTS w_OBJECT_ARRAY w_PRIMITIVE_ARRAY w_LEGACY (Or.inl hc3_2)).symm, N0, rfl⟩
  · obtain ⟨T4, X4, e4, st4⟩ := getS2 X0 hx hZ hown (host := "") (Or.inl (hw _ (List.mem_of_getElem? (i := 4) rfl))) Via.refl e0 S_BY_TAG (g := (mkF m 7 #[.val (.long k), .second] [(.long k)])) rfl (hb hby d1_7)
    have pre5 : ∀ t_, Steps p.tables e below (T4.setTop (mkF m 13 #[.val (.long k), .second] [(.int (lcmpW k ((8 : Int32).toInt64)))])) t_ → Steps p.tables e below (s₁.setTop (entryFrame m #[(.long k)] 2)) t_ := fun t_ k_ => pre1 t_ (by
      show Steps p.tables e below (s₁.setTop (mkF m 3 #[.val (.long k), .second] [(.int (lcmpW k (1 : Int64)))])) _
      refine XS.ifNo X0.here hx rfl (hb hby d1_3) rfl ((if0 _ _).trans (flt (fun q_ => hc3_2 ((lw_lt k (1 : Int64)).mp q_))).1) ?_
      show Steps p.tables e below (s₁.setTop (mkF m 6 #[.val (.long k), .second] [])) _
      refine XS.lloadN X0.here hx rfl (hb hby d1_6) rfl ?_
      show Steps p.tables e below (s₁.setTop (mkF m 7 #[.val (.long k), .second] [(.long k)])) _
      refine st4 _ ?_
      show Steps p.tables e below (T4.setTop (mkF m 10 #[.val (.long k), .second] [(.ref w_BY_TAG), (.long k)])) _
      refine X4.arraylength hx (by rw [e4]; exact Ar_BY_TAG.1) (State.isArrayOf_alike hZ.alike Ar_BY_TAG.2.1) (g := (mkF m 10 #[.val (.long k), .second] [(.ref w_BY_TAG), (.long k)])) rfl rfl (hb hby d1_10) _ ?_
      rw [len_of (show cl_BY_TAG.slots.size = (8 : Int32).toNatClampNeg from Z_BY_TAG) (by decide)]
      show Steps p.tables e below (T4.setTop (mkF m 11 #[.val (.long k), .second] [(.int (8 : Int32)), (.long k)])) _
      refine XS.i2l X4.here hx rfl (hb hby d1_11) rfl ?_
      show Steps p.tables e below (T4.setTop (mkF m 12 #[.val (.long k), .second] [(.long ((8 : Int32).toInt64)), (.long k)])) _
      refine XS.lcmp X4.here hx rfl (hb hby d1_12) rfl ?_
      show Steps p.tables e below (T4.setTop (mkF m 13 #[.val (.long k), .second] [(.int (lcmpW k ((8 : Int32).toInt64)))])) _
      exact k_)
    by_cases hc13_6 : ((8 : Int32).toInt64) < k
    · have pre7 : ∀ t_, Steps p.tables e below (T4.setTop (mkF m 28 #[.val (.long k), .second] [.null])) t_ → Steps p.tables e below (s₁.setTop (entryFrame m #[(.long k)] 2)) t_ := fun t_ k_ => pre5 t_ (by
        show Steps p.tables e below (T4.setTop (mkF m 13 #[.val (.long k), .second] [(.int (lcmpW k ((8 : Int32).toInt64)))])) _
        refine XS.ifYes X4.here hx rfl (pc0 := 13) (pc' := 27) rfl (hb hby d1_13) rfl ((if0 _ _).trans (tlt ((lw_gt k ((8 : Int32).toInt64)).mpr hc13_6)).2.2.1) (by decide) (by decide) ?_
        show Steps p.tables e below (T4.setTop (mkF m 27 #[.val (.long k), .second] [])) _
        refine XS.aconstNull X4.here hx rfl (hb hby d1_27) ?_
        show Steps p.tables e below (T4.setTop (mkF m 28 #[.val (.long k), .second] [.null])) _
        exact k_)
      obtain ⟨fs, hr, hrun, hended, hW, hsame⟩ := X4.leave (v := some .null) (fun h => by rw [Bd.returns] at h; cases h)
      refine ⟨_, _, pre7 _ ?_, hrun, hended, _, _, rfl, ?_, ⟨_, rfl⟩, hW, hsame.mono (by decide) (by decide)⟩
      · show Steps p.tables e below (T4.setTop (mkF m 28 #[.val (.long k), .second] [.null])) _
        exact retA X4 hx Bd.returns rfl rfl rfl (hb hby d1_28) hr
      · show Q_1 Z k w_STRING w_HASHED_STRING w_CLASS w_INSTANCE w_ROOTS w_OBJECT_ARRAY w_PRIMITIVE_ARRAY w_LEGACY w_BY_TAG cl_BY_TAG h0 n0 _ T4.heap _
        rw [e4]
        exact ⟨congrArg some (own_of_out k w_STRING w_HASHED_STRING w_CLASS w_INSTANCE w_ROOTS w_OBJECT_ARRAY w_PRIMITIVE_ARRAY w_LEGACY (Or.inr hc13_6)).symm, N0, rfl⟩
    · obtain ⟨T8, X8, e8, st8⟩ := getS2 X4 hx hZ hown (host := "") (Or.inl (hw _ (List.mem_of_getElem? (i := 4) rfl))) Via.refl e4 S_BY_TAG (g := (mkF m 16 #[.val (.long k), .second] [])) rfl (hb hby d1_16)
      have pre9 : ∀ t_, Steps p.tables e below (T8.setTop (mkF m 28 #[.val (.long k), .second] [(own_of k w_STRING w_HASHED_STRING w_CLASS w_INSTANCE w_ROOTS w_OBJECT_ARRAY w_PRIMITIVE_ARRAY w_LEGACY)])) t_ → Steps p.tables e below (s₁.setTop (entryFrame m #[(.long k)] 2)) t_ := fun t_ k_ => pre5 t_ (by
        show Steps p.tables e below (T4.setTop (mkF m 13 #[.val (.long k), .second] [(.int (lcmpW k ((8 : Int32).toInt64)))])) _
        refine XS.ifNo X4.here hx rfl (hb hby d1_13) rfl ((if0 _ _).trans (flt (fun q_ => hc13_6 ((lw_gt k ((8 : Int32).toInt64)).mp q_))).2.2.1) ?_
        show Steps p.tables e below (T4.setTop (mkF m 16 #[.val (.long k), .second] [])) _
        refine st8 _ ?_
        show Steps p.tables e below (T8.setTop (mkF m 19 #[.val (.long k), .second] [(.ref w_BY_TAG)])) _
        refine XS.lloadN X8.here hx rfl (hb hby d1_19) rfl ?_
        show Steps p.tables e below (T8.setTop (mkF m 20 #[.val (.long k), .second] [(.long k), (.ref w_BY_TAG)])) _
        refine XS.l2i X8.here hx rfl (hb hby d1_20) rfl ?_
        show Steps p.tables e below (T8.setTop (mkF m 21 #[.val (.long k), .second] [(.int (k.toInt32)), (.ref w_BY_TAG)])) _
        refine XS.iconst X8.here hx rfl (hb hby d1_21) ?_
        show Steps p.tables e below (T8.setTop (mkF m 22 #[.val (.long k), .second] [(.int (1 : Int32)), (.int (k.toInt32)), (.ref w_BY_TAG)])) _
        refine XS.isub X8.here hx rfl (hb hby d1_22) rfl ?_
        show Steps p.tables e below (T8.setTop (mkF m 23 #[.val (.long k), .second] [(.int ((k.toInt32) - (1 : Int32))), (.ref w_BY_TAG)])) _
        refine X8.aaload hx (j := ((k.toInt32) - (1 : Int32))) (v := (own_of k w_STRING w_HASHED_STRING w_CLASS w_INSTANCE w_ROOTS w_OBJECT_ARRAY w_PRIMITIVE_ARRAY w_LEGACY)) (by rw [e8]; exact Ar_BY_TAG.1) (State.isArrayOf_alike hZ.alike Ar_BY_TAG.2.1) rfl Ar_BY_TAG.2.2 (inb_of (show cl_BY_TAG.slots.size = (8 : Int32).toNatClampNeg from Z_BY_TAG) (own_ins k hc3_2 hc13_6)) (hat k hc3_2 hc13_6) (g := (mkF m 23 #[.val (.long k), .second] [(.int ((k.toInt32) - (1 : Int32))), (.ref w_BY_TAG)])) rfl rfl (hb hby d1_23) _ ?_
        show Steps p.tables e below (T8.setTop (mkF m 24 #[.val (.long k), .second] [(own_of k w_STRING w_HASHED_STRING w_CLASS w_INSTANCE w_ROOTS w_OBJECT_ARRAY w_PRIMITIVE_ARRAY w_LEGACY)])) _
        refine XS.goto X8.here hx rfl (pc0 := 24) (pc' := 28) rfl (hb hby d1_24) (by decide) (by decide) ?_
        show Steps p.tables e below (T8.setTop (mkF m 28 #[.val (.long k), .second] [(own_of k w_STRING w_HASHED_STRING w_CLASS w_INSTANCE w_ROOTS w_OBJECT_ARRAY w_PRIMITIVE_ARRAY w_LEGACY)])) _
        exact k_)
      obtain ⟨fs, hr, hrun, hended, hW, hsame⟩ := X8.leave (v := some (own_of k w_STRING w_HASHED_STRING w_CLASS w_INSTANCE w_ROOTS w_OBJECT_ARRAY w_PRIMITIVE_ARRAY w_LEGACY)) (fun h => by rw [Bd.returns] at h; cases h)
      refine ⟨_, _, pre9 _ ?_, hrun, hended, _, _, rfl, ?_, ⟨_, rfl⟩, hW, hsame.mono (by decide) (by decide)⟩
      · show Steps p.tables e below (T8.setTop (mkF m 28 #[.val (.long k), .second] [(own_of k w_STRING w_HASHED_STRING w_CLASS w_INSTANCE w_ROOTS w_OBJECT_ARRAY w_PRIMITIVE_ARRAY w_LEGACY)])) _
        exact retA X8 hx Bd.returns rfl (own_of_ref k w_STRING w_HASHED_STRING w_CLASS w_INSTANCE w_ROOTS w_OBJECT_ARRAY w_PRIMITIVE_ARRAY w_LEGACY) rfl (hb hby d1_28) hr
      · show Q_1 Z k w_STRING w_HASHED_STRING w_CLASS w_INSTANCE w_ROOTS w_OBJECT_ARRAY w_PRIMITIVE_ARRAY w_LEGACY w_BY_TAG cl_BY_TAG h0 n0 _ T8.heap _
        rw [e8]
        exact ⟨rfl, N0, rfl⟩
theorem ef_2 (m : MethodId) (k : Int64) : entryFrame m #[(.long k)] 2 = mkF m 0 #[.val (.long k), .second] [] := by first | (simp [entryFrame, mkF, argsToLocals, Value.category]; done) | rfl
def Q_2 (Z : State) (k : Int64) (w_STRING : Addr) (w_HASHED_STRING : Addr) (w_CLASS : Addr) (w_INSTANCE : Addr) (w_ROOTS : Addr) (w_OBJECT_ARRAY : Addr) (w_PRIMITIVE_ARRAY : Addr) (w_LEGACY : Addr) (h0 : Heap) (n0 : Nat) (v : Option Value) (h : Heap) (L : List Loc) : Prop := v = some (own_of k w_STRING w_HASHED_STRING w_CLASS w_INSTANCE w_ROOTS w_OBJECT_ARRAY w_PRIMITIVE_ARRAY w_LEGACY) ∧ Fr n0 L ∧ h = h0
theorem pn_1 : plainName "com/example/heapscribe/heapscribe/RecordKindOfPinLaw" = true := by first | (simp [plainName, overriddenIn]; done) | decide +kernel
theorem d2_0 : decode method_2_code 0 = .ok (.lload_n 0, 1) := by decide +kernel
theorem d2_1 : decode method_2_code 1 = .ok (.lconst 1, 1) := by decide +kernel
theorem d2_2 : decode method_2_code 2 = .ok (.lcmp, 1) := by decide +kernel
theorem d2_3 : decode method_2_code 3 = .ok (.ifCond .ne 7, 3) := by decide +kernel
theorem d2_6 : decode method_2_code 6 = .ok (.getstatic 7, 3) := by decide +kernel
theorem d2_9 : decode method_2_code 9 = .ok (.areturn, 1) := by decide +kernel
theorem d2_10 : decode method_2_code 10 = .ok (.lload_n 0, 1) := by decide +kernel
theorem d2_11 : decode method_2_code 11 = .ok (.ldc2_w 13, 3) := by decide +kernel
theorem d2_14 : decode method_2_code 14 = .ok (.lcmp, 1) := by decide +kernel
theorem d2_15 : decode method_2_code 15 = .ok (.ifCond .ne 7, 3) := by decide +kernel
theorem d2_18 : decode method_2_code 18 = .ok (.getstatic 15, 3) := by decide +kernel
theorem d2_21 : decode method_2_code 21 = .ok (.areturn, 1) := by decide +kernel
theorem d2_22 : decode method_2_code 22 = .ok (.lload_n 0, 1) := by decide +kernel
theorem d2_23 : decode method_2_code 23 = .ok (.ldc2_w 18, 3) := by decide +kernel
theorem d2_26 : decode method_2_code 26 = .ok (.lcmp, 1) := by decide +kernel
theorem d2_27 : decode method_2_code 27 = .ok (.ifCond .ne 7, 3) := by decide +kernel
theorem d2_30 : decode method_2_code 30 = .ok (.getstatic 20, 3) := by decide +kernel
theorem d2_33 : decode method_2_code 33 = .ok (.areturn, 1) := by decide +kernel
theorem d2_34 : decode method_2_code 34 = .ok (.lload_n 0, 1) := by decide +kernel
theorem d2_35 : decode method_2_code 35 = .ok (.ldc2_w 23, 3) := by decide +kernel
theorem d2_38 : decode method_2_code 38 = .ok (.lcmp, 1) := by decide +kernel
theorem d2_39 : decode method_2_code 39 = .ok (.ifCond .ne 7, 3) := by decide +kernel
theorem d2_42 : decode method_2_code 42 = .ok (.getstatic 25, 3) := by decide +kernel
theorem d2_45 : decode method_2_code 45 = .ok (.areturn, 1) := by decide +kernel
theorem d2_46 : decode method_2_code 46 = .ok (.lload_n 0, 1) := by decide +kernel
theorem d2_47 : decode method_2_code 47 = .ok (.ldc2_w 28, 3) := by decide +kernel
theorem d2_50 : decode method_2_code 50 = .ok (.lcmp, 1) := by decide +kernel
theorem d2_51 : decode method_2_code 51 = .ok (.ifCond .ne 7, 3) := by decide +kernel
theorem d2_54 : decode method_2_code 54 = .ok (.getstatic 30, 3) := by decide +kernel
theorem d2_57 : decode method_2_code 57 = .ok (.areturn, 1) := by decide +kernel
theorem d2_58 : decode method_2_code 58 = .ok (.lload_n 0, 1) := by decide +kernel
theorem d2_59 : decode method_2_code 59 = .ok (.ldc2_w 33, 3) := by decide +kernel
theorem d2_62 : decode method_2_code 62 = .ok (.lcmp, 1) := by decide +kernel
theorem d2_63 : decode method_2_code 63 = .ok (.ifCond .ne 7, 3) := by decide +kernel
theorem d2_66 : decode method_2_code 66 = .ok (.getstatic 35, 3) := by decide +kernel
theorem d2_69 : decode method_2_code 69 = .ok (.areturn, 1) := by decide +kernel
theorem d2_70 : decode method_2_code 70 = .ok (.lload_n 0, 1) := by decide +kernel
theorem d2_71 : decode method_2_code 71 = .ok (.ldc2_w 38, 3) := by decide +kernel
theorem d2_74 : decode method_2_code 74 = .ok (.lcmp, 1) := by decide +kernel
theorem d2_75 : decode method_2_code 75 = .ok (.ifCond .ne 7, 3) := by decide +kernel
theorem d2_78 : decode method_2_code 78 = .ok (.getstatic 40, 3) := by decide +kernel
theorem d2_81 : decode method_2_code 81 = .ok (.areturn, 1) := by decide +kernel
theorem d2_82 : decode method_2_code 82 = .ok (.lload_n 0, 1) := by decide +kernel
theorem d2_83 : decode method_2_code 83 = .ok (.ldc2_w 43, 3) := by decide +kernel
theorem d2_86 : decode method_2_code 86 = .ok (.lcmp, 1) := by decide +kernel
theorem d2_87 : decode method_2_code 87 = .ok (.ifCond .ne 7, 3) := by decide +kernel
theorem d2_90 : decode method_2_code 90 = .ok (.getstatic 45, 3) := by decide +kernel
theorem d2_93 : decode method_2_code 93 = .ok (.areturn, 1) := by decide +kernel
theorem d2_94 : decode method_2_code 94 = .ok (.aconst_null, 1) := by decide +kernel
theorem d2_95 : decode method_2_code 95 = .ok (.areturn, 1) := by decide +kernel
set_option maxRecDepth 65536 in
set_option maxHeartbeats 40000000 in
theorem rm_2 (l : Launch) (Z : State) (a0 : Array Value) (hw : ∀ d ∈ tables_1, d.before a0 Z = true) (ws : List Jvm.Cond) (k : Int64) (w_STRING : Addr) (w_HASHED_STRING : Addr) (w_CLASS : Addr) (w_INSTANCE : Addr) (w_ROOTS : Addr) (w_OBJECT_ARRAY : Addr) (w_PRIMITIVE_ARRAY : Addr) (w_LEGACY : Addr) (h0 : Heap) (n0 : Nat) (Z0 : n0 ≤ h0.size) (S_STRING : Sta Z h0 "com/example/heapscribe/heapscribe/Bmd$RecordKind" "STRING" "Lcom/example/heapscribe/heapscribe/Bmd$RecordKind;" (.ref w_STRING)) (S_HASHED_STRING : Sta Z h0 "com/example/heapscribe/heapscribe/Bmd$RecordKind" "HASHED_STRING" "Lcom/example/heapscribe/heapscribe/Bmd$RecordKind;" (.ref w_HASHED_STRING)) (S_CLASS : Sta Z h0 "com/example/heapscribe/heapscribe/Bmd$RecordKind" "CLASS" "Lcom/example/heapscribe/heapscribe/Bmd$RecordKind;" (.ref w_CLASS)) (S_INSTANCE : Sta Z h0 "com/example/heapscribe/heapscribe/Bmd$RecordKind" "INSTANCE" "Lcom/example/heapscribe/heapscribe/Bmd$RecordKind;" (.ref w_INSTANCE)) (S_ROOTS : Sta Z h0 "com/example/heapscribe/heapscribe/Bmd$RecordKind" "ROOTS" "Lcom/example/heapscribe/heapscribe/Bmd$RecordKind;" (.ref w_ROOTS)) (S_OBJECT_ARRAY : Sta Z h0 "com/example/heapscribe/heapscribe/Bmd$RecordKind" "OBJECT_ARRAY" "Lcom/example/heapscribe/heapscribe/Bmd$RecordKind;" (.ref w_OBJECT_ARRAY)) (S_PRIMITIVE_ARRAY : Sta Z h0 "com/example/heapscribe/heapscribe/Bmd$RecordKind" "PRIMITIVE_ARRAY" "Lcom/example/heapscribe/heapscribe/Bmd$RecordKind;" (.ref w_PRIMITIVE_ARRAY)) (S_LEGACY : Sta Z h0 "com/example/heapscribe/heapscribe/Bmd$RecordKind" "LEGACY" "Lcom/example/heapscribe/heapscribe/Bmd$RecordKind;" (.ref w_LEGACY)) :
    MetFree l (⟨"com/example/heapscribe/heapscribe/RecordKindOfPinLaw", "expected", "(J)Lcom/example/heapscribe/heapscribe/Bmd$RecordKind;"⟩ : MethodName) (head1 (Jvm.Cond.code (⟨"com/example/heapscribe/heapscribe/RecordKindOfPinLaw", "expected", "(J)Lcom/example/heapscribe/heapscribe/Bmd$RecordKind;"⟩ : MethodName) method_2_code 2 (some (.object "com/example/heapscribe/heapscribe/Bmd$RecordKind")) :: ws) ({ frames := 0, cells := 0, slots := 0, locals := 0 } : Room)) (fun a_ U_ => a_ = #[(.long k)] ∧ Z.Warmed39 U_.vm ∧ U_.heap = h0) (fun _ _ _ _ _ => True) (fun _ U_ o_ V_ => ∃ v_ L_, o_ = .returned v_ ∧ Q_2 Z k w_STRING w_HASHED_STRING w_CLASS w_INSTANCE w_ROOTS w_OBJECT_ARRAY w_PRIMITIVE_ARRAY w_LEGACY h0 n0 v_ V_.heap L_ ∧ FrameEnd U_ o_ V_ L_ ({ frames := 0, cells := 0, slots := 0, locals := 0 } : Room).cells ({ frames := 0, cells := 0, slots := 0, locals := 0 } : Room).slots) := by
  refine MetFree.of_bodySF (plainFor_of_name pn_1) hisR ?_
  intro p e s m args below meth c s₁ Bd hml0 hP hK
  obtain ⟨rfl, hZ, hh⟩ := hP
  have hx := Bd.exec
  have hby := Bd.bytes
  have hml : c.maxLocals = 2 := hml0
  have hown : s.vm.findClass "com/example/heapscribe/heapscribe/RecordKindOfPinLaw" = some m.cls := findClass_of_methodNamed Bd.named
  have hnm := (name_of_methodNamed Bd.named Bd.method).1
  have X0 : Stand p l e ({ frames := 0, cells := 0, slots := 0, locals := 0 } : Room) s m #[(.long k)] below meth c s₁ [] 0 0 := Stand.of_body Bd
  have e0 : s₁.heap = h0 := by rw [← hh, Bd.state]; rfl
  have N0 := Fr.nil n0
  have pre0 : ∀ t_, Steps p.tables e below (s₁.setTop (mkF m 0 #[.val (.long k), .second] [])) t_ → Steps p.tables e below (s₁.setTop (entryFrame m #[(.long k)] 2)) t_ := fun t_ k_ => castTop (ef_2 m k) k_
  have pre10 : ∀ t_, Steps p.tables e below (s₁.setTop (mkF m 3 #[.val (.long k), .second] [(.int (lcmpW k (1 : Int64)))])) t_ → Steps p.tables e below (s₁.setTop (entryFrame m #[(.long k)] 2)) t_ := fun t_ k_ => pre0 t_ (by
    show Steps p.tables e below (s₁.setTop (mkF m 0 #[.val (.long k), .second] [])) _
    refine XS.lloadN X0.here hx rfl (hb hby d2_0) rfl ?_
    show Steps p.tables e below (s₁.setTop (mkF m 1 #[.val (.long k), .second] [(.long k)])) _
    refine XS.lconst X0.here hx rfl (hb hby d2_1) ?_
    show Steps p.tables e below (s₁.setTop (mkF m 2 #[.val (.long k), .second] [(.long (1 : Int64)), (.long k)])) _
    refine XS.lcmp X0.here hx rfl (hb hby d2_2) rfl ?_
    show Steps p.tables e below (s₁.setTop (mkF m 3 #[.val (.long k), .second] [(.int (lcmpW k (1 : Int64)))])) _
    exact k_)
  by_cases hc3_11 : k = (1 : Int64)
  · obtain ⟨T12, X12, e12, st12⟩ := getS2 X0 hx hZ hown (host := "") (Or.inl (hw _ (List.mem_of_getElem? (i := 28) rfl))) Via.refl e0 S_STRING (g := (mkF m 6 #[.val (.long k), .second] [])) rfl (hb hby d2_6)
    have pre13 : ∀ t_, Steps p.tables e below (T12.setTop (mkF m 9 #[.val (.long k), .second] [(.ref w_STRING)])) t_ → Steps p.tables e below (s₁.setTop (entryFrame m #[(.long k)] 2)) t_ := fun t_ k_ => pre10 t_ (by
      show Steps p.tables e below (s₁.setTop (mkF m 3 #[.val (.long k), .second] [(.int (lcmpW k (1 : Int64)))])) _
      refine XS.ifNo X0.here hx rfl (hb hby d2_3) rfl ((if0 _ _).trans (teq ((lw_eq k (1 : Int64)).mpr hc3_11)).2) ?_
      show Steps p.tables e below (s₁.setTop (mkF m 6 #[.val (.long k), .second] [])) _
      refine st12 _ ?_
      show Steps p.tables e below (T12.setTop (mkF m 9 #[.val (.long k), .second] [(.ref w_STRING)])) _
      exact k_)
    obtain ⟨fs, hr, hrun, hended, hW, hsame⟩ := X12.leave (v := some (.ref w_STRING)) (fun h => by rw [Bd.returns] at h; cases h)
    refine ⟨_, _, pre13 _ ?_, hrun, hended, _, _, rfl, ?_, ⟨_, rfl⟩, hW, hsame.mono (by decide) (by decide)⟩
    · show Steps p.tables e below (T12.setTop (mkF m 9 #[.val (.long k), .second] [(.ref w_STRING)])) _
      exact retA X12 hx Bd.returns rfl rfl rfl (hb hby d2_9) hr
    · show Q_2 Z k w_STRING w_HASHED_STRING w_CLASS w_INSTANCE w_ROOTS w_OBJECT_ARRAY w_PRIMITIVE_ARRAY w_LEGACY h0 n0 _ T12.heap _
      rw [e12]
      exact ⟨by rw [own_of, if_pos hc3_11], N0, rfl⟩
  · have pre14 : ∀ t_, Steps p.tables e below (s₁.setTop (mkF m 15 #[.val (.long k), .second] [(.int (lcmpW k (2 : Int64)))])) t_ → Steps p.tables e below (s₁.setTop (entryFrame m #[(.long k)] 2)) t_ := fun t_ k_ => pre10 t_ (by
      show Steps p.tables e below (s₁.setTop (mkF m 3 #[.val (.long k), .second] [(.int (lcmpW k (1 : Int64)))])) _
      refine XS.ifYes X0.here hx rfl (pc0 := 3) (pc' := 10) rfl (hb hby d2_3) rfl ((if0 _ _).trans (feq (fun q_ => hc3_11 ((lw_eq k (1 : Int64)).mp q_))).2) (by decide) (by decide) ?_
      show Steps p.tables e below (s₁.setTop (mkF m 10 #[.val (.long k), .second] [])) _
      refine XS.lloadN X0.here hx rfl (hb hby d2_10) rfl ?_
      show Steps p.tables e below (s₁.setTop (mkF m 11 #[.val (.long k), .second] [(.long k)])) _
      refine X0.ldc2Long hx hown (mvT hZ (hw _ (List.mem_of_getElem? (i := 11) rfl))) (g := (mkF m 11 #[.val (.long k), .second] [(.long k)])) rfl (hb hby d2_11) _ ?_
      show Steps p.tables e below (s₁.setTop (mkF m 14 #[.val (.long k), .second] [(.long (2 : Int64)), (.long k)])) _
      refine XS.lcmp X0.here hx rfl (hb hby d2_14) rfl ?_
      show Steps p.tables e below (s₁.setTop (mkF m 15 #[.val (.long k), .second] [(.int (lcmpW k (2 : Int64)))])) _
      exact k_)
    by_cases hc15_15 : k = (2 : Int64)
    · obtain ⟨T16, X16, e16, st16⟩ := getS2 X0 hx hZ hown (host := "") (Or.inl (hw _ (List.mem_of_getElem? (i := 32) rfl))) Via.refl e0 S_HASHED_STRING (g := (mkF m 18 #[.val (.long k), .second] [])) rfl (hb hby d2_18)
      have pre17 : ∀ t_, Steps p.tables e below (T16.setTop (mkF m 21 #[.val (.long k), .second] [(.ref w_HASHED_STRING)])) t_ → Steps p.tables e below (s₁.setTop (entryFrame m #[(.long k)] 2)) t_ := fun t_ k_ => pre14 t_ (by
        show Steps p.tables e below (s₁.setTop (mkF m 15 #[.val (.long k), .second] [(.int (lcmpW k (2 : Int64)))])) _
        refine XS.ifNo X0.here hx rfl (hb hby d2_15) rfl ((if0 _ _).trans (teq ((lw_eq k (2 : Int64)).mpr hc15_15)).2) ?_
        show Steps p.tables e below (s₁.setTop (mkF m 18 #[.val (.long k), .second] [])) _
        refine st16 _ ?_
        show Steps p.tables e below (T16.setTop (mkF m 21 #[.val (.long k), .second] [(.ref w_HASHED_STRING)])) _
        exact k_)
      obtain ⟨fs, hr, hrun, hended, hW, hsame⟩ := X16.leave (v := some (.ref w_HASHED_STRING)) (fun h => by rw [Bd.returns] at h; cases h)
      refine ⟨_, _, pre17 _ ?_, hrun, hended, _, _, rfl, ?_, ⟨_, rfl⟩, hW, hsame.mono (by decide) (by decide)⟩
      · show Steps p.tables e below (T16.setTop (mkF m 21 #[.val (.long k), .second] [(.ref w_HASHED_STRING)])) _
        exact retA X16 hx Bd.returns rfl rfl rfl (hb hby d2_21) hr
      · show Q_2 Z k w_STRING w_HASHED_STRING w_CLASS w_INSTANCE w_ROOTS w_OBJECT_ARRAY w_PRIMITIVE_ARRAY w_LEGACY h0 n0 _ T16.heap _
        rw [e16]
        exact ⟨by rw [own_of, if_neg hc3_11, if_pos hc15_15], N0, rfl⟩
    · have pre18 : ∀ t_, Steps p.tables e below (s₁.setTop (mkF m 27 #[.val (.long k), .second] [(.int (lcmpW k (3 : Int64)))])) t_ → Steps p.tables e below (s₁.setTop (entryFrame m #[(.long k)] 2)) t_ := fun t_ k_ => pre14 t_ (by
        show Steps p.tables e below (s₁.setTop (mkF m 15 #[.val (.long k), .second] [(.int (lcmpW k (2 : Int64)))])) _
        refine XS.ifYes X0.here hx rfl (pc0 := 15) (pc' := 22) rfl (hb hby d2_15) rfl ((if0 _ _).trans (feq (fun q_ => hc15_15 ((lw_eq k (2 : Int64)).mp q_))).2) (by decide) (by decide) ?_
        show Steps p.tables e below (s₁.setTop (mkF m 22 #[.val (.long k), .second] [])) _
        refine XS.lloadN X0.here hx rfl (hb hby d2_22) rfl ?_
        show Steps p.tables e below (s₁.setTop (mkF m 23 #[.val (.long k), .second] [(.long k)])) _
        refine X0.ldc2Long hx hown (mvT hZ (hw _ (List.mem_of_getElem? (i := 12) rfl))) (g := (mkF m 23 #[.val (.long k), .second] [(.long k)])) rfl (hb hby d2_23) _ ?_
        show Steps p.tables e below (s₁.setTop (mkF m 26 #[.val (.long k), .second] [(.long (3 : Int64)), (.long k)])) _
        refine XS.lcmp X0.here hx rfl (hb hby d2_26) rfl ?_
        show Steps p.tables e below (s₁.setTop (mkF m 27 #[.val (.long k), .second] [(.int (lcmpW k (3 : Int64)))])) _
        exact k_)
      by_cases hc27_19 : k = (3 : Int64)
      · obtain ⟨T20, X20, e20, st20⟩ := getS2 X0 hx hZ hown (host := "") (Or.inl (hw _ (List.mem_of_getElem? (i := 13) rfl))) Via.refl e0 S_CLASS (g := (mkF m 30 #[.val (.long k), .second] [])) rfl (hb hby d2_30)
        have pre21 : ∀ t_, Steps p.tables e below (T20.setTop (mkF m 33 #[.val (.long k), .second] [(.ref w_CLASS)])) t_ → Steps p.tables e below (s₁.setTop (entryFrame m #[(.long k)] 2)) t_ := fun t_ k_ => pre18 t_ (by
          show Steps p.tables e below (s₁.setTop (mkF m 27 #[.val (.long k), .second] [(.int (lcmpW k (3 : Int64)))])) _
          refine XS.ifNo X0.here hx rfl (hb hby d2_27) rfl ((if0 _ _).trans (teq ((lw_eq k (3 : Int64)).mpr hc27_19)).2) ?_
          show Steps p.tables e below (s₁.setTop (mkF m 30 #[.val (.long k), .second] [])) _
          refine st20 _ ?_
          show Steps p.tables e below (T20.setTop (mkF m 33 #[.val (.long k), .second] [(.ref w_CLASS)])) _
          exact k_)
        obtain ⟨fs, hr, hrun, hended, hW, hsame⟩ := X20.leave (v := some (.ref w_CLASS)) (fun h => by rw [Bd.returns] at h; cases h)
        refine ⟨_, _, pre21 _ ?_, hrun, hended, _, _, rfl, ?_, ⟨_, rfl⟩, hW, hsame.mono (by decide) (by decide)⟩
        · show Steps p.tables e below (T20.setTop (mkF m 33 #[.val (.long k), .second] [(.ref w_CLASS)])) _
          exact retA X20 hx Bd.returns rfl rfl rfl (hb hby d2_33) hr
        · show Q_2 Z k w_STRING w_HASHED_STRING w_CLASS w_INSTANCE w_ROOTS w_OBJECT_ARRAY w_PRIMITIVE_ARRAY w_LEGACY h0 n0 _ T20.heap _
          rw [e20]
          exact ⟨by rw [own_of, if_neg hc3_11, if_neg hc15_15, if_pos hc27_19], N0, rfl⟩
      · have pre22 : ∀ t_, Steps p.tables e below (s₁.setTop (mkF m 39 #[.val (.long k), .second] [(.int (lcmpW k (4 : Int64)))])) t_ → Steps p.tables e below (s₁.setTop (entryFrame m #[(.long k)] 2)) t_ := fun t_ k_ => pre18 t_ (by
          show Steps p.tables e below (s₁.setTop (mkF m 27 #[.val (.long k), .second] [(.int (lcmpW k (3 : Int64)))])) _
          refine XS.ifYes X0.here hx rfl (pc0 := 27) (pc' := 34) rfl (hb hby d2_27) rfl ((if0 _ _).trans (feq (fun q_ => hc27_19 ((lw_eq k (3 : Int64)).mp q_))).2) (by decide) (by decide) ?_
          show Steps p.tables e below (s₁.setTop (mkF m 34 #[.val (.long k), .second] [])) _
          refine XS.lloadN X0.here hx rfl (hb hby d2_34) rfl ?_
          show Steps p.tables e below (s₁.setTop (mkF m 35 #[.val (.long k), .second] [(.long k)])) _
          refine X0.ldc2Long hx hown (mvT hZ (hw _ (List.mem_of_getElem? (i := 21) rfl))) (g := (mkF m 35 #[.val (.long k), .second] [(.long k)])) rfl (hb hby d2_35) _ ?_
          show Steps p.tables e below (s₁.setTop (mkF m 38 #[.val (.long k), .second] [(.long (4 : Int64)), (.long k)])) _
          refine XS.lcmp X0.here hx rfl (hb hby d2_38) rfl ?_
          show Steps p.tables e below (s₁.setTop (mkF m 39 #[.val (.long k), .second] [(.int (lcmpW k (4 : Int64)))])) _
          exact k_)
        by_cases hc39_23 : k = (4 : Int64)
        · obtain ⟨T24, X24, e24, st24⟩ := getS2 X0 hx hZ hown (host := "") (Or.inl (hw _ (List.mem_of_getElem? (i := 40) rfl))) Via.refl e0 S_INSTANCE (g := (mkF m 42 #[.val (.long k), .second] [])) rfl (hb hby d2_42)
          have pre25 : ∀ t_, Steps p.tables e below (T24.setTop (mkF m 45 #[.val (.long k), .second] [(.ref w_INSTANCE)])) t_ → Steps p.tables e below (s₁.setTop (entryFrame m #[(.long k)] 2)) t_ := fun t_ k_ => pre22 t_ (by
            show Steps p.tables e below (s₁.setTop (mkF m 39 #[.val (.long k), .second] [(.int (lcmpW k (4 : Int64)))])) _
            refine XS.ifNo X0.here hx rfl (hb hby d2_39) rfl ((if0 _ _).trans (teq ((lw_eq k (4 : Int64)).mpr hc39_23)).2) ?_
            show Steps p.tables e below (s₁.setTop (mkF m 42 #[.val (.long k), .second] [])) _
            refine st24 _ ?_
            show Steps p.tables e below (T24.setTop (mkF m 45 #[.val (.long k), .second] [(.ref w_INSTANCE)])) _
            exact k_)
          obtain ⟨fs, hr, hrun, hended, hW, hsame⟩ := X24.leave (v := some (.ref w_INSTANCE)) (fun h => by rw [Bd.returns] at h; cases h)
          refine ⟨_, _, pre25 _ ?_, hrun, hended, _, _, rfl, ?_, ⟨_, rfl⟩, hW, hsame.mono (by decide) (by decide)⟩
          · show Steps p.tables e below (T24.setTop (mkF m 45 #[.val (.long k), .second] [(.ref w_INSTANCE)])) _
            exact retA X24 hx Bd.returns rfl rfl rfl (hb hby d2_45) hr
          · show Q_2 Z k w_STRING w_HASHED_STRING w_CLASS w_INSTANCE w_ROOTS w_OBJECT_ARRAY w_PRIMITIVE_ARRAY w_LEGACY h0 n0 _ T24.heap _
            rw [e24]
            exact ⟨by rw [own_of, if_neg hc3_11, if_neg hc15_15, if_neg hc27_19, if_pos hc39_23], N0, rfl⟩
        · have pre26 : ∀ t_, Steps p.tables e below (s₁.setTop (mkF m 51 #[.val (.long k), .second] [(.int (lcmpW k (5 : Int64)))])) t_ → Steps p.tables e below (s₁.setTop (entryFrame m #[(.long k)] 2)) t_ := fun t_ k_ => pre22 t_ (by
            show Steps p.tables e below (s₁.setTop (mkF m 39 #[.val (.long k), .second] [(.int (lcmpW k (4 : Int64)))])) _
            refine XS.ifYes X0.here hx rfl (pc0 := 39) (pc' := 46) rfl (hb hby d2_39) rfl ((if0 _ _).trans (feq (fun q_ => hc39_23 ((lw_eq k (4 : Int64)).mp q_))).2) (by decide) (by decide) ?_
            show Steps p.tables e below (s₁.setTop (mkF m 46 #[.val (.long k), .second] [])) _
            refine XS.lloadN X0.here hx rfl (hb hby d2_46) rfl ?_
            show Steps p.tables e below (s₁.setTop (mkF m 47 #[.val (.long k), .second] [(.long k)])) _
            refine X0.ldc2Long hx hown (mvT hZ (hw _ (List.mem_of_getElem? (i := 22) rfl))) (g := (mkF m 47 #[.val (.long k), .second] [(.long k)])) rfl (hb hby d2_47) _ ?_
            show Steps p.tables e below (s₁.setTop (mkF m 50 #[.val (.long k), .second] [(.long (5 : Int64)), (.long k)])) _
            refine XS.lcmp X0.here hx rfl (hb hby d2_50) rfl ?_
            show Steps p.tables e below (s₁.setTop (mkF m 51 #[.val (.long k), .second] [(.int (lcmpW k (5 : Int64)))])) _
            exact k_)
          by_cases hc51_27 : k = (5 : Int64)
          · obtain ⟨T28, X28, e28, st28⟩ := getS2 X0 hx hZ hown (host := "") (Or.inl (hw _ (List.mem_of_getElem? (i := 30) rfl))) Via.refl e0 S_ROOTS (g := (mkF m 54 #[.val (.long k), .second] [])) rfl (hb hby d2_54)
            have pre29 : ∀ t_, Steps p.tables e below (T28.setTop (mkF m 57 #[.val (.long k), .second] [(.ref w_ROOTS)])) t_ → Steps p.tables e below (s₁.setTop (entryFrame m #[(.long k)] 2)) t_ := fun t_ k_ => pre26 t_ (by
              show Steps p.tables e below (s₁.setTop (mkF m 51 #[.val (.long k), .second] [(.int (lcmpW k (5 : Int64)))])) _
              refine XS.ifNo X0.here hx rfl (hb hby d2_51) rfl ((if0 _ _).trans (teq ((lw_eq k (5 : Int64)).mpr hc51_27)).2) ?_
              show Steps p.tables e below (s₁.setTop (mkF m 54 #[.val (.long k), .second] [])) _
              refine st28 _ ?_
              show Steps p.tables e below (T28.setTop (mkF m 57 #[.val (.long k), .second] [(.ref w_ROOTS)])) _
              exact k_)
            obtain ⟨fs, hr, hrun, hended, hW, hsame⟩ := X28.leave (v := some (.ref w_ROOTS)) (fun h => by rw [Bd.returns] at h; cases h)
            refine ⟨_, _, pre29 _ ?_, hrun, hended, _, _, rfl, ?_, ⟨_, rfl⟩, hW, hsame.mono (by decide) (by decide)⟩
            · show Steps p.tables e below (T28.setTop (mkF m 57 #[.val (.long k), .second] [(.ref w_ROOTS)])) _
              exact retA X28 hx Bd.returns rfl rfl rfl (hb hby d2_57) hr
            · show Q_2 Z k w_STRING w_HASHED_STRING w_CLASS w_INSTANCE w_ROOTS w_OBJECT_ARRAY w_PRIMITIVE_ARRAY w_LEGACY h0 n0 _ T28.heap _
              rw [e28]
              exact ⟨by rw [own_of, if_neg hc3_11, if_neg hc15_15, if_neg hc27_19, if_neg hc39_23, if_pos hc51_27], N0, rfl⟩
          · have pre30 : ∀ t_, Steps p.tables e below (s₁.setTop (mkF m 63 #[.val (.long k), .second] [(.int (lcmpW k (6 : Int64)))])) t_ → Steps p.tables e below (s₁.setTop (entryFrame m #[(.long k)] 2)) t_ := fun t_ k_ => pre26 t_ (by
              show Steps p.tables e below (s₁.setTop (mkF m 51 #[.val (.long k), .second] [(.int (lcmpW k (5 : Int64)))])) _
              refine XS.ifYes X0.here hx rfl (pc0 := 51) (pc' := 58) rfl (hb hby d2_51) rfl ((if0 _ _).trans (feq (fun q_ => hc51_27 ((lw_eq k (5 : Int64)).mp q_))).2) (by decide) (by decide) ?_
              show Steps p.tables e below (s₁.setTop (mkF m 58 #[.val (.long k), .second] [])) _
              refine XS.lloadN X0.here hx rfl (hb hby d2_58) rfl ?_
              show Steps p.tables e below (s₁.setTop (mkF m 59 #[.val (.long k), .second] [(.long k)])) _
              refine X0.ldc2Long hx hown (mvT hZ (hw _ (List.mem_of_getElem? (i := 23) rfl))) (g := (mkF m 59 #[.val (.long k), .second] [(.long k)])) rfl (hb hby d2_59) _ ?_
              show Steps p.tables e below (s₁.setTop (mkF m 62 #[.val (.long k), .second] [(.long (6 : Int64)), (.long k)])) _
              refine XS.lcmp X0.here hx rfl (hb hby d2_62) rfl ?_
              show Steps p.tables e below (s₁.setTop (mkF m 63 #[.val (.long k), .second] [(.int (lcmpW k (6 : Int64)))])) _
              exact k_)
            by_cases hc63_31 : k = (6 : Int64)
            · obtain ⟨T32, X32, e32, st32⟩ := getS2 X0 hx hZ hown (host := "") (Or.inl (hw _ (List.mem_of_getElem? (i := 36) rfl))) Via.refl e0 S_OBJECT_ARRAY (g := (mkF m 66 #[.val (.long k), .second] [])) rfl (hb hby d2_66)
              have pre33 : ∀ t_, Steps p.tables e below (T32.setTop (mkF m 69 #[.val (.long k), .second] [(.ref w_OBJECT_ARRAY)])) t_ → Steps p.tables e below (s₁.setTop (entryFrame m #[(.long k)] 2)) t_ := fun t_ k_ => pre30 t_ (by
                show Steps p.tables e below (s₁.setTop (mkF m 63 #[.val (.long k), .second] [(.int (lcmpW k (6 : Int64)))])) _
                refine XS.ifNo X0.here hx rfl (hb hby d2_63) rfl ((if0 _ _).trans (teq ((lw_eq k (6 : Int64)).mpr hc63_31)).2) ?_
                show Steps p.tables e below (s₁.setTop (mkF m 66 #[.val (.long k), .second] [])) _
                refine st32 _ ?_
                show Steps p.tables e below (T32.setTop (mkF m 69 #[.val (.long k), .second] [(.ref w_OBJECT_ARRAY)])) _
                exact k_)
              obtain ⟨fs, hr, hrun, hended, hW, hsame⟩ := X32.leave (v := some (.ref w_OBJECT_ARRAY)) (fun h => by rw [Bd.returns] at h; cases h)
              refine ⟨_, _, pre33 _ ?_, hrun, hended, _, _, rfl, ?_, ⟨_, rfl⟩, hW, hsame.mono (by decide) (by decide)⟩
              · show Steps p.tables e below (T32.setTop (mkF m 69 #[.val (.long k), .second] [(.ref w_OBJECT_ARRAY)])) _
                exact retA X32 hx Bd.returns rfl rfl rfl (hb hby d2_69) hr
              · show Q_2 Z k w_STRING w_HASHED_STRING w_CLASS w_INSTANCE w_ROOTS w_OBJECT_ARRAY w_PRIMITIVE_ARRAY w_LEGACY h0 n0 _ T32.heap _
                rw [e32]
                exact ⟨by rw [own_of, if_neg hc3_11, if_neg hc15_15, if_neg hc27_19, if_neg hc39_23, if_neg hc51_27, if_pos hc63_31], N0, rfl⟩
            · have pre34 : ∀ t_, Steps p.tables e below (s₁.setTop (mkF m 75 #[.val (.long k), .second] [(.int (lcmpW k (7 : Int64)))])) t_ → Steps p.tables e below (s₁.setTop (entryFrame m #[(.long k)] 2)) t_ := fun t_ k_ => pre30 t_ (by
                show Steps p.tables e below (s₁.setTop (mkF m 63 #[.val (.long k), .second] [(.int (lcmpW k (6 : Int64)))])) _
                refine XS.ifYes X0.here hx rfl (pc0 := 63) (pc' := 70) rfl (hb hby d2_63) rfl ((if0 _ _).trans (feq (fun q_ => hc63_31 ((lw_eq k (6 : Int64)).mp q_))).2) (by decide) (by decide) ?_
                show Steps p.tables e below (s₁.setTop (mkF m 70 #[.val (.long k), .second] [])) _
                refine XS.lloadN X0.here hx rfl (hb hby d2_70) rfl ?_
                show Steps p.tables e below (s₁.setTop (mkF m 71 #[.val (.long k), .second] [(.long k)])) _
                refine X0.ldc2Long hx hown (mvT hZ (hw _ (List.mem_of_getElem? (i := 24) rfl))) (g := (mkF m 71 #[.val (.long k), .second] [(.long k)])) rfl (hb hby d2_71) _ ?_
                show Steps p.tables e below (s₁.setTop (mkF m 74 #[.val (.long k), .second] [(.long (7 : Int64)), (.long k)])) _
                refine XS.lcmp X0.here hx rfl (hb hby d2_74) rfl ?_
                show Steps p.tables e below (s₁.setTop (mkF m 75 #[.val (.long k), .second] [(.int (lcmpW k (7 : Int64)))])) _
                exact k_)
              by_cases hc75_35 : k = (7 : Int64)
              · obtain ⟨T36, X36, e36, st36⟩ := getS2 X0 hx hZ hown (host := "") (Or.inl (hw _ (List.mem_of_getElem? (i := 34) rfl))) Via.refl e0 S_PRIMITIVE_ARRAY (g := (mkF m 78 #[.val (.long k), .second] [])) rfl (hb hby d2_78)
                have pre37 : ∀ t_, Steps p.tables e below (T36.setTop (mkF m 81 #[.val (.long k), .second] [(.ref w_PRIMITIVE_ARRAY)])) t_ → Steps p.tables e below (s₁.setTop (entryFrame m #[(.long k)] 2)) t_ := fun t_ k_ => pre34 t_ (by
                  show Steps p.tables e below (s₁.setTop (mkF m 75 #[.val (.long k), .second] [(.int (lcmpW k (7 : Int64)))])) _
                  refine XS.ifNo X0.here hx rfl (hb hby d2_75) rfl ((if0 _ _).trans (teq ((lw_eq k (7 : Int64)).mpr hc75_35)).2) ?_
                  show Steps p.tables e below (s₁.setTop (mkF m 78 #[.val (.long k), .second] [])) _
                  refine st36 _ ?_
                  show Steps p.tables e below (T36.setTop (mkF m 81 #[.val (.long k), .second] [(.ref w_PRIMITIVE_ARRAY)])) _
                  exact k_)
                obtain ⟨fs, hr, hrun, hended, hW, hsame⟩ := X36.leave (v := some (.ref w_PRIMITIVE_ARRAY)) (fun h => by rw [Bd.returns] at h; cases h)
                refine ⟨_, _, pre37 _ ?_, hrun, hended, _, _, rfl, ?_, ⟨_, rfl⟩, hW, hsame.mono (by decide) (by decide)⟩
                · show Steps p.tables e below (T36.setTop (mkF m 81 #[.val (.long k), .second] [(.ref w_PRIMITIVE_ARRAY)])) _
                  exact retA X36 hx Bd.returns rfl rfl rfl (hb hby d2_81) hr
                · show Q_2 Z k w_STRING w_HASHED_STRING w_CLASS w_INSTANCE w_ROOTS w_OBJECT_ARRAY w_PRIMITIVE_ARRAY w_LEGACY h0 n0 _ T36.heap _
                  rw [e36]
                  exact ⟨by rw [own_of, if_neg hc3_11, if_neg hc15_15, if_neg hc27_19, if_neg hc39_23, if_neg hc51_27, if_neg hc63_31, if_pos hc75_35], N0, rfl⟩
              · have pre38 : ∀ t_, Steps p.tables e below (s₁.setTop (mkF m 87 #[.val (.long k), .second] [(.int (lcmpW k (8 : Int64)))])) t_ → Steps p.tables e below (s₁.setTop (entryFrame m #[(.long k)] 2)) t_ := fun t_ k_ => pre34 t_ (by
                  show Steps p.tables e below (s₁.setTop (mkF m 75 #[.val (.long k), .second] [(.int (lcmpW k (7 : Int64)))])) _
                  refine XS.ifYes X0.here hx rfl (pc0 := 75) (pc' := 82) rfl (hb hby d2_75) rfl ((if0 _ _).trans (feq (fun q_ => hc75_35 ((lw_eq k (7 : Int64)).mp q_))).2) (by decide) (by decide) ?_
                  show Steps p.tables e below (s₁.setTop (mkF m 82 #[.val (.long k), .second] [])) _
                  refine XS.lloadN X0.here hx rfl (hb hby d2_82) rfl ?_
                  show Steps p.tables e below (s₁.setTop (mkF m 83 #[.val (.long k), .second] [(.long k)])) _
                  refine X0.ldc2Long hx hown (mvT hZ (hw _ (List.mem_of_getElem? (i := 25) rfl))) (g := (mkF m 83 #[.val (.long k), .second] [(.long k)])) rfl (hb hby d2_83) _ ?_
                  show Steps p.tables e below (s₁.setTop (mkF m 86 #[.val (.long k), .second] [(.long (8 : Int64)), (.long k)])) _
                  refine XS.lcmp X0.here hx rfl (hb hby d2_86) rfl ?_
                  show Steps p.tables e below (s₁.setTop (mkF m 87 #[.val (.long k), .second] [(.int (lcmpW k (8 : Int64)))])) _
                  exact k_)
                by_cases hc87_39 : k = (8 : Int64)
                · obtain ⟨T40, X40, e40, st40⟩ := getS2 X0 hx hZ hown (host := "") (Or.inl (hw _ (List.mem_of_getElem? (i := 38) rfl))) Via.refl e0 S_LEGACY (g := (mkF m 90 #[.val (.long k), .second] [])) rfl (hb hby d2_90)
                  have pre41 : ∀ t_, Steps p.tables e below (T40.setTop (mkF m 93 #[.val (.long k), .second] [(.ref w_LEGACY)])) t_ → Steps p.tables e below (s₁.setTop (entryFrame m #[(.long k)] 2)) t_ := fun t_ k_ => pre38 t_ (by
                    show Steps p.tables e below (s₁.setTop (mkF m 87 #[.val (.long k), .second] [(.int (lcmpW k (8 : Int64)))])) _
                    refine XS.ifNo X0.here hx rfl (hb hby d2_87) rfl ((if0 _ _).trans (teq ((lw_eq k (8 : Int64)).mpr hc87_39)).2) ?_
                    show Steps p.tables e below (s₁.setTop (mkF m 90 #[.val (.long k), .second] [])) _
                    refine st40 _ ?_
                    show Steps p.tables e below (T40.setTop (mkF m 93 #[.val (.long k), .second] [(.ref w_LEGACY)])) _
                    exact k_)
                  obtain ⟨fs, hr, hrun, hended, hW, hsame⟩ := X40.leave (v := some (.ref w_LEGACY)) (fun h => by rw [Bd.returns] at h; cases h)
                  refine ⟨_, _, pre41 _ ?_, hrun, hended, _, _, rfl, ?_, ⟨_, rfl⟩, hW, hsame.mono (by decide) (by decide)⟩
                  · show Steps p.tables e below (T40.setTop (mkF m 93 #[.val (.long k), .second] [(.ref w_LEGACY)])) _
                    exact retA X40 hx Bd.returns rfl rfl rfl (hb hby d2_93) hr
                  · show Q_2 Z k w_STRING w_HASHED_STRING w_CLASS w_INSTANCE w_ROOTS w_OBJECT_ARRAY w_PRIMITIVE_ARRAY w_LEGACY h0 n0 _ T40.heap _
                    rw [e40]
                    exact ⟨by rw [own_of, if_neg hc3_11, if_neg hc15_15, if_neg hc27_19, if_neg hc39_23, if_neg hc51_27, if_neg hc63_31, if_neg hc75_35, if_pos hc87_39], N0, rfl⟩
                · have pre42 : ∀ t_, Steps p.tables e below (s₁.setTop (mkF m 95 #[.val (.long k), .second] [.null])) t_ → Steps p.tables e below (s₁.setTop (entryFrame m #[(.long k)] 2)) t_ := fun t_ k_ => pre38 t_ (by
                    show Steps p.tables e below (s₁.setTop (mkF m 87 #[.val (.long k), .second] [(.int (lcmpW k (8 : Int64)))])) _
                    refine XS.ifYes X0.here hx rfl (pc0 := 87) (pc' := 94) rfl (hb hby d2_87) rfl ((if0 _ _).trans (feq (fun q_ => hc87_39 ((lw_eq k (8 : Int64)).mp q_))).2) (by decide) (by decide) ?_
                    show Steps p.tables e below (s₁.setTop (mkF m 94 #[.val (.long k), .second] [])) _
                    refine XS.aconstNull X0.here hx rfl (hb hby d2_94) ?_
                    show Steps p.tables e below (s₁.setTop (mkF m 95 #[.val (.long k), .second] [.null])) _
                    exact k_)
                  obtain ⟨fs, hr, hrun, hended, hW, hsame⟩ := X0.leave (v := some .null) (fun h => by rw [Bd.returns] at h; cases h)
                  refine ⟨_, _, pre42 _ ?_, hrun, hended, _, _, rfl, ?_, ⟨_, rfl⟩, hW, hsame.mono (by decide) (by decide)⟩
                  · show Steps p.tables e below (s₁.setTop (mkF m 95 #[.val (.long k), .second] [.null])) _
                    exact retA X0 hx Bd.returns rfl rfl rfl (hb hby d2_95) hr
                  · show Q_2 Z k w_STRING w_HASHED_STRING w_CLASS w_INSTANCE w_ROOTS w_OBJECT_ARRAY w_PRIMITIVE_ARRAY w_LEGACY h0 n0 _ s₁.heap _
                    rw [e0]
                    exact ⟨by rw [own_of, if_neg hc3_11, if_neg hc15_15, if_neg hc27_19, if_neg hc39_23, if_neg hc51_27, if_neg hc63_31, if_neg hc75_35, if_neg hc87_39], N0, rfl⟩
theorem ef_3 (m : MethodId) (a : Addr) : entryFrame m #[(.ref a)] 1 = mkF m 0 #[.val (.ref a)] [] := by first | (simp [entryFrame, mkF, argsToLocals, Value.category]; done) | rfl
def Q_3 (Z : State) (a : Addr) (t : Int32) (h0 : Heap) (n0 : Nat) (v : Option Value) (h : Heap) (L : List Loc) : Prop := v = some (.int t) ∧ Fr n0 L ∧ h = h0
theorem d3_0 : decode prog_2_method_4_code 0 = .ok (.aload_n 0, 1) := by decide +kernel
theorem d3_1 : decode prog_2_method_4_code 1 = .ok (.getfield 47, 3) := by decide +kernel
theorem d3_4 : decode prog_2_method_4_code 4 = .ok (.ireturn, 1) := by decide +kernel
set_option maxRecDepth 65536 in
set_option maxHeartbeats 40000000 in
theorem rm_3 (l : Launch) (Z : State) (a0 : Array Value) (hw : ∀ d ∈ tables_1, d.before a0 Z = true) (ws : List Jvm.Cond) (a : Addr) (t : Int32) (h0 : Heap) (n0 : Nat) (Z0 : n0 ≤ h0.size) (Ft : Fld Z h0 a "com/example/heapscribe/heapscribe/Bmd$RecordKind" "tag" "I" (.int t)) :
    MetFree l (⟨"com/example/heapscribe/heapscribe/Bmd$RecordKind", "tag", "()I"⟩ : MethodName) (head1 (Jvm.Cond.code (⟨"com/example/heapscribe/heapscribe/Bmd$RecordKind", "tag", "()I"⟩ : MethodName) prog_2_method_4_code 1 (some .int) :: ws) ({ frames := 0, cells := 0, slots := 0, locals := 0 } : Room)) (fun a_ U_ => a_ = #[(.ref a)] ∧ Z.Warmed39 U_.vm ∧ U_.heap = h0) (fun _ _ _ _ _ => True) (fun _ U_ o_ V_ => ∃ v_ L_, o_ = .returned v_ ∧ Q_3 Z a t h0 n0 v_ V_.heap L_ ∧ FrameEnd U_ o_ V_ L_ ({ frames := 0, cells := 0, slots := 0, locals := 0 } : Room).cells ({ frames := 0, cells := 0, slots := 0, locals := 0 } : Room).slots) := by
  refine MetFree.of_bodySF (plainFor_of_name pn_0) hisR ?_
  intro p e s m args below meth c s₁ Bd hml0 hP hK
  obtain ⟨rfl, hZ, hh⟩ := hP
  have hx := Bd.exec
  have hby := Bd.bytes
  have hml : c.maxLocals = 1 := hml0
  have hown : s.vm.findClass "com/example/heapscribe/heapscribe/Bmd$RecordKind" = some m.cls := findClass_of_methodNamed Bd.named
  have hnm := (name_of_methodNamed Bd.named Bd.method).1
  have X0 : Stand p l e ({ frames := 0, cells := 0, slots := 0, locals := 0 } : Room) s m #[(.ref a)] below meth c s₁ [] 0 0 := Stand.of_body Bd
  have e0 : s₁.heap = h0 := by rw [← hh, Bd.state]; rfl
  have N0 := Fr.nil n0
  have pre0 : ∀ t_, Steps p.tables e below (s₁.setTop (mkF m 0 #[.val (.ref a)] [])) t_ → Steps p.tables e below (s₁.setTop (entryFrame m #[(.ref a)] 1)) t_ := fun t_ k_ => castTop (ef_3 m a) k_
  obtain ⟨T43, X43, e43, st43⟩ := getF X0 hx hZ hown (host := "") (Or.inl (hw _ (List.mem_of_getElem? (i := 19) rfl))) Via.refl e0 Ft (g := (mkF m 1 #[.val (.ref a)] [(.ref a)])) rfl rfl (hb hby d3_1)
  have pre44 : ∀ t_, Steps p.tables e below (T43.setTop (mkF m 4 #[.val (.ref a)] [(.int t)])) t_ → Steps p.tables e below (s₁.setTop (entryFrame m #[(.ref a)] 1)) t_ := fun t_ k_ => pre0 t_ (by
    show Steps p.tables e below (s₁.setTop (mkF m 0 #[.val (.ref a)] [])) _
    refine XS.aloadN X0.here hx rfl (hb hby d3_0) rfl rfl ?_
    show Steps p.tables e below (s₁.setTop (mkF m 1 #[.val (.ref a)] [(.ref a)])) _
    refine st43 _ ?_
    show Steps p.tables e below (T43.setTop (mkF m 4 #[.val (.ref a)] [(.int t)])) _
    exact k_)
  obtain ⟨fs, hr, hrun, hended, hW, hsame⟩ := X43.leave (v := some (.int t)) (fun h => by rw [Bd.returns] at h; cases h)
  refine ⟨_, _, pre44 _ ?_, hrun, hended, _, _, rfl, ?_, ⟨_, rfl⟩, hW, hsame.mono (by decide) (by decide)⟩
  · show Steps p.tables e below (T43.setTop (mkF m 4 #[.val (.ref a)] [(.int t)])) _
    exact retI X43 hx Bd.returns (hb hby d3_4) hr
  · show Q_3 Z a t h0 n0 _ T43.heap _
    rw [e43]
    exact ⟨rfl, N0, rfl⟩
theorem ef_0 (m : MethodId) (j0 : Int64) (k0 : Int32) : entryFrame m #[(.long j0), (.int k0)] maxLocals = mkF m 0 #[.val (.long j0), .second, .val (.int k0), .unset, .unset, .unset, .unset, .unset, .unset, .unset] [] := by first | (simp [entryFrame, mkF, argsToLocals, Value.category, maxLocals]; done) | rfl
def Q_0 (Z : State) (j0 : Int64) (k0 : Int32) (w_STRING : Addr) (w_HASHED_STRING : Addr) (w_CLASS : Addr) (w_INSTANCE : Addr) (w_ROOTS : Addr) (w_OBJECT_ARRAY : Addr) (w_PRIMITIVE_ARRAY : Addr) (w_LEGACY : Addr) (w_BY_TAG : Addr) (cl_BY_TAG : Cell) (h0 : Heap) (n0 : Nat) (v : Option Value) (h : Heap) (L : List Loc) : Prop := v = some (.int (1 : Int32)) ∧ Fr n0 L
theorem pd_0 : parseMethodDescriptor "(J)Lcom/example/heapscribe/heapscribe/Bmd$RecordKind;" = some ⟨[.long], some (.object "com/example/heapscribe/heapscribe/Bmd$RecordKind")⟩ := by decide +kernel
theorem pd_1 : parseMethodDescriptor "()I" = some ⟨[], some .int⟩ := by decide +kernel
set_option maxRecDepth 65536 in
set_option maxHeartbeats 40000000 in
theorem rm_0 (l : Launch) (Z : State) (a0 : Array Value) (hw : ∀ d ∈ tables_1, d.before a0 Z = true) (ws : List Jvm.Cond) (j0 : Int64) (k0 : Int32) (w_STRING : Addr) (w_HASHED_STRING : Addr) (w_CLASS : Addr) (w_INSTANCE : Addr) (w_ROOTS : Addr) (w_OBJECT_ARRAY : Addr) (w_PRIMITIVE_ARRAY : Addr) (w_LEGACY : Addr) (w_BY_TAG : Addr) (cl_BY_TAG : Cell) (h0 : Heap) (n0 : Nat) (Z0 : n0 ≤ h0.size) (S_STRING : Sta Z h0 "com/example/heapscribe/heapscribe/Bmd$RecordKind" "STRING" "Lcom/example/heapscribe/heapscribe/Bmd$RecordKind;" (.ref w_STRING)) (S_HASHED_STRING : Sta Z h0 "com/example/heapscribe/heapscribe/Bmd$RecordKind" "HASHED_STRING" "Lcom/example/heapscribe/heapscribe/Bmd$RecordKind;" (.ref w_HASHED_STRING)) (S_CLASS : Sta Z h0 "com/example/heapscribe/heapscribe/Bmd$RecordKind" "CLASS" "Lcom/example/heapscribe/heapscribe/Bmd$RecordKind;" (.ref w_CLASS)) (S_INSTANCE : Sta Z h0 "com/example/heapscribe/heapscribe/Bmd$RecordKind" "INSTANCE" "Lcom/example/heapscribe/heapscribe/Bmd$RecordKind;" (.ref w_INSTANCE)) (S_ROOTS : Sta Z h0 "com/example/heapscribe/heapscribe/Bmd$RecordKind" "ROOTS" "Lcom/example/heapscribe/heapscribe/Bmd$RecordKind;" (.ref w_ROOTS)) (S_OBJECT_ARRAY : Sta Z h0 "com/example/heapscribe/heapscribe/Bmd$RecordKind" "OBJECT_ARRAY" "Lcom/example/heapscribe/heapscribe/Bmd$RecordKind;" (.ref w_OBJECT_ARRAY)) (S_PRIMITIVE_ARRAY : Sta Z h0 "com/example/heapscribe/heapscribe/Bmd$RecordKind" "PRIMITIVE_ARRAY" "Lcom/example/heapscribe/heapscribe/Bmd$RecordKind;" (.ref w_PRIMITIVE_ARRAY)) (S_LEGACY : Sta Z h0 "com/example/heapscribe/heapscribe/Bmd$RecordKind" "LEGACY" "Lcom/example/heapscribe/heapscribe/Bmd$RecordKind;" (.ref w_LEGACY)) (S_BY_TAG : Sta Z h0 "com/example/heapscribe/heapscribe/Bmd$RecordKind" "BY_TAG" "[Lcom/example/heapscribe/heapscribe/Bmd$RecordKind;" (.ref w_BY_TAG)) (Ar_BY_TAG : Arr Z h0 w_BY_TAG cl_BY_TAG (.object "com/example/heapscribe/heapscribe/Bmd$RecordKind")) (Z_BY_TAG : cl_BY_TAG.slots.size = 8) (hat : ∀ k : Int64, ¬ k < (1 : Int64) → ¬ ((8 : Int32).toInt64) < k → cl_BY_TAG.slots[((k.toInt32) - (1 : Int32)).toNatClampNeg]? = some (own_of k w_STRING w_HASHED_STRING w_CLASS w_INSTANCE w_ROOTS w_OBJECT_ARRAY w_PRIMITIVE_ARRAY w_LEGACY)) (E_STRING : Exa Z h0 w_STRING "com/example/heapscribe/heapscribe/Bmd$RecordKind") (E_HASHED_STRING : Exa Z h0 w_HASHED_STRING "com/example/heapscribe/heapscribe/Bmd$RecordKind") (E_CLASS : Exa Z h0 w_CLASS "com/example/heapscribe/heapscribe/Bmd$RecordKind") (E_INSTANCE : Exa Z h0 w_INSTANCE "com/example/heapscribe/heapscribe/Bmd$RecordKind") (E_ROOTS : Exa Z h0 w_ROOTS "com/example/heapscribe/heapscribe/Bmd$RecordKind") (E_OBJECT_ARRAY : Exa Z h0 w_OBJECT_ARRAY "com/example/heapscribe/heapscribe/Bmd$RecordKind") (E_PRIMITIVE_ARRAY : Exa Z h0 w_PRIMITIVE_ARRAY "com/example/heapscribe/heapscribe/Bmd$RecordKind") (E_LEGACY : Exa Z h0 w_LEGACY "com/example/heapscribe/heapscribe/Bmd$RecordKind") (F_STRING_tag : Fld Z h0 w_STRING "com/example/heapscribe/heapscribe/Bmd$RecordKind" "tag" "I" (.int (1 : Int32))) (F_HASHED_STRING_tag : Fld Z h0 w_HASHED_STRING "com/example/heapscribe/heapscribe/Bmd$RecordKind" "tag" "I" (.int (2 : Int32))) (F_CLASS_tag : Fld Z h0 w_CLASS "com/example/heapscribe/heapscribe/Bmd$RecordKind" "tag" "I" (.int (3 : Int32))) (F_INSTANCE_tag : Fld Z h0 w_INSTANCE "com/example/heapscribe/heapscribe/Bmd$RecordKind" "tag" "I" (.int (4 : Int32))) (F_ROOTS_tag : Fld Z h0 w_ROOTS "com/example/heapscribe/heapscribe/Bmd$RecordKind" "tag" "I" (.int (5 : Int32))) (F_OBJECT_ARRAY_tag : Fld Z h0 w_OBJECT_ARRAY "com/example/heapscribe/heapscribe/Bmd$RecordKind" "tag" "I" (.int (6 : Int32))) (F_PRIMITIVE_ARRAY_tag : Fld Z h0 w_PRIMITIVE_ARRAY "com/example/heapscribe/heapscribe/Bmd$RecordKind" "tag" "I" (.int (7 : Int32))) (F_LEGACY_tag : Fld Z h0 w_LEGACY "com/example/heapscribe/heapscribe/Bmd$RecordKind" "tag" "I" (.int (8 : Int32))) :
    MetFree l x (head1 (Jvm.Cond.code x code maxLocals ret :: ws) room_1) (fun a_ U_ => a_ = #[(.long j0), (.int k0)] ∧ Z.Warmed39 U_.vm ∧ U_.heap = h0) (fun _ _ _ _ _ => True) (fun _ U_ o_ V_ => ∃ v_ L_, o_ = .returned v_ ∧ Q_0 Z j0 k0 w_STRING w_HASHED_STRING w_CLASS w_INSTANCE w_ROOTS w_OBJECT_ARRAY w_PRIMITIVE_ARRAY w_LEGACY w_BY_TAG cl_BY_TAG h0 n0 v_ V_.heap L_ ∧ FrameEnd U_ o_ V_ L_ room_1.cells room_1.slots) := by
  refine MetFree.of_bodySF (plainFor_of_name pn_1) hisR ?_
  intro p e s m args below meth c s₁ Bd hml0 hP hK
  obtain ⟨rfl, hZ, hh⟩ := hP
  have hx := Bd.exec
  have hby := Bd.bytes
  have hml : c.maxLocals = 10 := hml0
  have hown : s.vm.findClass "com/example/heapscribe/heapscribe/RecordKindOfPinLaw" = some m.cls := findClass_of_methodNamed Bd.named
  have hnm := (name_of_methodNamed Bd.named Bd.method).1
  have X0 : Stand p l e room_1 s m #[(.long j0), (.int k0)] below meth c s₁ [] 0 0 := Stand.of_body Bd
  have e0 : s₁.heap = h0 := by rw [← hh, Bd.state]; rfl
  have N0 := Fr.nil n0
  have pre0 : ∀ t_, Steps p.tables e below (s₁.setTop (mkF m 0 #[.val (.long j0), .second, .val (.int k0), .unset, .unset, .unset, .unset, .unset, .unset, .unset] [])) t_ → Steps p.tables e below (s₁.setTop (entryFrame m #[(.long j0), (.int k0)] maxLocals)) t_ := fun t_ k_ => castTop (ef_0 m j0 k0) k_
  have pre45 : ∀ t_, Steps p.tables e below (s₁.setTop (mkF m 18 #[.val (.long j0), .second, .val (.int k0), .val (.long (((((k0.toUInt32 >>> ((2 : Int32) &&& 31).toUInt32).toInt32) % (12 : Int32)) - (2 : Int32)).toInt64)), .second, .val (.int (k0 &&& (3 : Int32))), .unset, .unset, .unset, .unset] [(.int (2 : Int32)), (.int (k0 &&& (3 : Int32)))])) t_ → Steps p.tables e below (s₁.setTop (entryFrame m #[(.long j0), (.int k0)] maxLocals)) t_ := fun t_ k_ => pre0 t_ (by
    show Steps p.tables e below (s₁.setTop (mkF m 0 #[.val (.long j0), .second, .val (.int k0), .unset, .unset, .unset, .unset, .unset, .unset, .unset] [])) _
    refine XS.iloadN X0.here hx rfl (hb hby at_0) rfl ?_
    show Steps p.tables e below (s₁.setTop (mkF m 1 #[.val (.long j0), .second, .val (.int k0), .unset, .unset, .unset, .unset, .unset, .unset, .unset] [(.int k0)])) _
    refine XS.iconst X0.here hx rfl (hb hby at_1) ?_
    show Steps p.tables e below (s₁.setTop (mkF m 2 #[.val (.long j0), .second, .val (.int k0), .unset, .unset, .unset, .unset, .unset, .unset, .unset] [(.int (2 : Int32)), (.int k0)])) _
    refine XS.iushr X0.here hx rfl (hb hby at_2) rfl ?_
    show Steps p.tables e below (s₁.setTop (mkF m 3 #[.val (.long j0), .second, .val (.int k0), .unset, .unset, .unset, .unset, .unset, .unset, .unset] [(.int ((k0.toUInt32 >>> ((2 : Int32) &&& 31).toUInt32).toInt32))])) _
    refine XS.bipush X0.here hx rfl (hb hby at_3) ?_
    show Steps p.tables e below (s₁.setTop (mkF m 5 #[.val (.long j0), .second, .val (.int k0), .unset, .unset, .unset, .unset, .unset, .unset, .unset] [(.int (12 : Int32)), (.int ((k0.toUInt32 >>> ((2 : Int32) &&& 31).toUInt32).toInt32))])) _
    refine iremM X0 hx rfl (hb hby at_5) rfl (by decide) ?_
    show Steps p.tables e below (s₁.setTop (mkF m 6 #[.val (.long j0), .second, .val (.int k0), .unset, .unset, .unset, .unset, .unset, .unset, .unset] [(.int (((k0.toUInt32 >>> ((2 : Int32) &&& 31).toUInt32).toInt32) % (12 : Int32)))])) _
    refine XS.iconst X0.here hx rfl (hb hby at_6) ?_
    show Steps p.tables e below (s₁.setTop (mkF m 7 #[.val (.long j0), .second, .val (.int k0), .unset, .unset, .unset, .unset, .unset, .unset, .unset] [(.int (2 : Int32)), (.int (((k0.toUInt32 >>> ((2 : Int32) &&& 31).toUInt32).toInt32) % (12 : Int32)))])) _
    refine XS.isub X0.here hx rfl (hb hby at_7) rfl ?_
    show Steps p.tables e below (s₁.setTop (mkF m 8 #[.val (.long j0), .second, .val (.int k0), .unset, .unset, .unset, .unset, .unset, .unset, .unset] [(.int ((((k0.toUInt32 >>> ((2 : Int32) &&& 31).toUInt32).toInt32) % (12 : Int32)) - (2 : Int32)))])) _
    refine XS.i2l X0.here hx rfl (hb hby at_8) rfl ?_
    show Steps p.tables e below (s₁.setTop (mkF m 9 #[.val (.long j0), .second, .val (.int k0), .unset, .unset, .unset, .unset, .unset, .unset, .unset] [(.long (((((k0.toUInt32 >>> ((2 : Int32) &&& 31).toUInt32).toInt32) % (12 : Int32)) - (2 : Int32)).toInt64))])) _
    refine XS.lstoreN X0.here hx rfl (hb hby at_9) rfl (l' := #[.val (.long j0), .second, .val (.int k0), .val (.long (((((k0.toUInt32 >>> ((2 : Int32) &&& 31).toUInt32).toInt32) % (12 : Int32)) - (2 : Int32)).toInt64)), .second, .unset, .unset, .unset, .unset, .unset]) rfl ?_
    show Steps p.tables e below (s₁.setTop (mkF m 10 #[.val (.long j0), .second, .val (.int k0), .val (.long (((((k0.toUInt32 >>> ((2 : Int32) &&& 31).toUInt32).toInt32) % (12 : Int32)) - (2 : Int32)).toInt64)), .second, .unset, .unset, .unset, .unset, .unset] [])) _
    refine XS.iloadN X0.here hx rfl (hb hby at_10) rfl ?_
    show Steps p.tables e below (s₁.setTop (mkF m 11 #[.val (.long j0), .second, .val (.int k0), .val (.long (((((k0.toUInt32 >>> ((2 : Int32) &&& 31).toUInt32).toInt32) % (12 : Int32)) - (2 : Int32)).toInt64)), .second, .unset, .unset, .unset, .unset, .unset] [(.int k0)])) _
    refine XS.iconst X0.here hx rfl (hb hby at_11) ?_
    show Steps p.tables e below (s₁.setTop (mkF m 12 #[.val (.long j0), .second, .val (.int k0), .val (.long (((((k0.toUInt32 >>> ((2 : Int32) &&& 31).toUInt32).toInt32) % (12 : Int32)) - (2 : Int32)).toInt64)), .second, .unset, .unset, .unset, .unset, .unset] [(.int (3 : Int32)), (.int k0)])) _
    refine XS.iand X0.here hx rfl (hb hby at_12) rfl ?_
    show Steps p.tables e below (s₁.setTop (mkF m 13 #[.val (.long j0), .second, .val (.int k0), .val (.long (((((k0.toUInt32 >>> ((2 : Int32) &&& 31).toUInt32).toInt32) % (12 : Int32)) - (2 : Int32)).toInt64)), .second, .unset, .unset, .unset, .unset, .unset] [(.int (k0 &&& (3 : Int32)))])) _
    refine XS.istore X0.here hx rfl (hb hby at_13) rfl (l' := #[.val (.long j0), .second, .val (.int k0), .val (.long (((((k0.toUInt32 >>> ((2 : Int32) &&& 31).toUInt32).toInt32) % (12 : Int32)) - (2 : Int32)).toInt64)), .second, .val (.int (k0 &&& (3 : Int32))), .unset, .unset, .unset, .unset]) rfl ?_
    show Steps p.tables e below (s₁.setTop (mkF m 15 #[.val (.long j0), .second, .val (.int k0), .val (.long (((((k0.toUInt32 >>> ((2 : Int32) &&& 31).toUInt32).toInt32) % (12 : Int32)) - (2 : Int32)).toInt64)), .second, .val (.int (k0 &&& (3 : Int32))), .unset, .unset, .unset, .unset] [])) _
    refine XS.iload X0.here hx rfl (hb hby at_15) rfl ?_
    show Steps p.tables e below (s₁.setTop (mkF m 17 #[.val (.long j0), .second, .val (.int k0), .val (.long (((((k0.toUInt32 >>> ((2 : Int32) &&& 31).toUInt32).toInt32) % (12 : Int32)) - (2 : Int32)).toInt64)), .second, .val (.int (k0 &&& (3 : Int32))), .unset, .unset, .unset, .unset] [(.int (k0 &&& (3 : Int32)))])) _
    refine XS.iconst X0.here hx rfl (hb hby at_17) ?_
    show Steps p.tables e below (s₁.setTop (mkF m 18 #[.val (.long j0), .second, .val (.int k0), .val (.long (((((k0.toUInt32 >>> ((2 : Int32) &&& 31).toUInt32).toInt32) % (12 : Int32)) - (2 : Int32)).toInt64)), .second, .val (.int (k0 &&& (3 : Int32))), .unset, .unset, .unset, .unset] [(.int (2 : Int32)), (.int (k0 &&& (3 : Int32)))])) _
    exact k_)
  by_cases hc18_46 : (k0 &&& (3 : Int32)) = (2 : Int32)
  · obtain ⟨v47, _, ⟨T47, L47, k47, n47⟩, -, X47, ⟨Lc47, hQ47, l47, y47, z47⟩, st47⟩ := Jvm.LawKit.callS X0 hx (y := (⟨"com/example/heapscribe/heapscribe/Bmd$RecordKind", "of", "(J)Lcom/example/heapscribe/heapscribe/Bmd$RecordKind;"⟩ : MethodName)) hown (mvT hZ (hw _ (List.mem_of_getElem? (i := 0) rfl))) (mvT hZ (hw _ (List.mem_of_getElem? (i := 1) rfl))) (mvT hZ (hw _ (List.mem_of_getElem? (i := 2) rfl))) (mvT hZ (hw _ (List.mem_of_getElem? (i := 3) rfl))) (by decide) (backOf (W := 0) (rm_1 l Z a0 hw [] j0 w_STRING w_HASHED_STRING w_CLASS w_INSTANCE w_ROOTS w_OBJECT_ARRAY w_PRIMITIVE_ARRAY w_LEGACY w_BY_TAG cl_BY_TAG h0 n0 Z0 S_BY_TAG Ar_BY_TAG Z_BY_TAG hat) hZ (hw _ (List.mem_of_getElem? (i := 3) rfl)) (hw _ (List.mem_of_getElem? (i := 2) rfl)) (by decide) (by decide)) (g := (mkF m 53 #[.val (.long j0), .second, .val (.int k0), .val (.long (((((k0.toUInt32 >>> ((2 : Int32) &&& 31).toUInt32).toInt32) % (12 : Int32)) - (2 : Int32)).toInt64)), .second, .val (.int (k0 &&& (3 : Int32))), .val (.long j0), .second, .unset, .unset] [(.long j0)])) rfl (by rw [hml]; rfl) (argsL := [(.long j0)]) (rest := []) (lenOf pd_0 rfl) rfl (by show 2 * 0 + _ ≤ _; exact Nat.le_of_eq rfl) (hb hby at_53) (fun _ _ => ⟨rfl, e0, (by decide : 0 + 0 ≤ _), (by decide : 0 + 0 ≤ _)⟩)
    dsimp only [Pt.U, Pt.locs, Pt.cells, Pt.slots] at X47 l47 y47 z47 st47 hQ47
    subst l47 y47 z47
    obtain ⟨hv47, N47q, e47⟩ := hQ47
    have N47 := Fr.app N0 N47q
    subst hv47
    obtain ⟨v48, _, ⟨T48, L48, k48, n48⟩, -, X48, ⟨Lc48, hQ48, l48, y48, z48⟩, st48⟩ := Jvm.LawKit.callS X47 hx (y := (⟨"com/example/heapscribe/heapscribe/RecordKindOfPinLaw", "expected", "(J)Lcom/example/heapscribe/heapscribe/Bmd$RecordKind;"⟩ : MethodName)) hown (mvT hZ (hw _ (List.mem_of_getElem? (i := 7) rfl))) (mvT hZ (hw _ (List.mem_of_getElem? (i := 8) rfl))) (mvT hZ (hw _ (List.mem_of_getElem? (i := 9) rfl))) (mvT hZ (hw _ (List.mem_of_getElem? (i := 10) rfl))) (by decide) (backOf (W := 0) (rm_2 l Z a0 hw [] j0 w_STRING w_HASHED_STRING w_CLASS w_INSTANCE w_ROOTS w_OBJECT_ARRAY w_PRIMITIVE_ARRAY w_LEGACY h0 n0 Z0 S_STRING S_HASHED_STRING S_CLASS S_INSTANCE S_ROOTS S_OBJECT_ARRAY S_PRIMITIVE_ARRAY S_LEGACY) hZ (hw _ (List.mem_of_getElem? (i := 10) rfl)) (hw _ (List.mem_of_getElem? (i := 9) rfl)) (by decide) (by decide)) (g := (mkF m 60 #[.val (.long j0), .second, .val (.int k0), .val (.long (((((k0.toUInt32 >>> ((2 : Int32) &&& 31).toUInt32).toInt32) % (12 : Int32)) - (2 : Int32)).toInt64)), .second, .val (.int (k0 &&& (3 : Int32))), .val (.long j0), .second, .val (own_of j0 w_STRING w_HASHED_STRING w_CLASS w_INSTANCE w_ROOTS w_OBJECT_ARRAY w_PRIMITIVE_ARRAY w_LEGACY), .unset] [(.long j0)])) rfl (by rw [hml]; rfl) (argsL := [(.long j0)]) (rest := []) (lenOf pd_0 rfl) rfl (by show 2 * 0 + _ ≤ _; exact Nat.le_of_eq rfl) (hb hby at_60) (fun _ _ => ⟨rfl, e47, (by decide : 0 + 0 ≤ _), (by decide : 0 + 0 ≤ _)⟩)
    dsimp only [Pt.U, Pt.locs, Pt.cells, Pt.slots] at X48 l48 y48 z48 st48 hQ48
    subst l48 y48 z48
    obtain ⟨hv48, N48q, e48⟩ := hQ48
    have N48 := Fr.app N47 N48q
    subst hv48
    have pre49 : ∀ t_, Steps p.tables e below (T48.setTop (mkF m 74 #[.val (.long j0), .second, .val (.int k0), .val (.long (((((k0.toUInt32 >>> ((2 : Int32) &&& 31).toUInt32).toInt32) % (12 : Int32)) - (2 : Int32)).toInt64)), .second, .val (.int (k0 &&& (3 : Int32))), .val (.long j0), .second, .val (own_of j0 w_STRING w_HASHED_STRING w_CLASS w_INSTANCE w_ROOTS w_OBJECT_ARRAY w_PRIMITIVE_ARRAY w_LEGACY), .val (own_of j0 w_STRING w_HASHED_STRING w_CLASS w_INSTANCE w_ROOTS w_OBJECT_ARRAY w_PRIMITIVE_ARRAY w_LEGACY)] [])) t_ → Steps p.tables e below (s₁.setTop (entryFrame m #[(.long j0), (.int k0)] maxLocals)) t_ := fun t_ k_ => pre45 t_ (by
      show Steps p.tables e below (s₁.setTop (mkF m 18 #[.val (.long j0), .second, .val (.int k0), .val (.long (((((k0.toUInt32 >>> ((2 : Int32) &&& 31).toUInt32).toInt32) % (12 : Int32)) - (2 : Int32)).toInt64)), .second, .val (.int (k0 &&& (3 : Int32))), .unset, .unset, .unset, .unset] [(.int (2 : Int32)), (.int (k0 &&& (3 : Int32)))])) _
      refine XS.icmpNo X0.here hx rfl (hb hby at_18) rfl (teq hc18_46).2 ?_
      show Steps p.tables e below (s₁.setTop (mkF m 21 #[.val (.long j0), .second, .val (.int k0), .val (.long (((((k0.toUInt32 >>> ((2 : Int32) &&& 31).toUInt32).toInt32) % (12 : Int32)) - (2 : Int32)).toInt64)), .second, .val (.int (k0 &&& (3 : Int32))), .unset, .unset, .unset, .unset] [])) _
      refine XS.lloadN X0.here hx rfl (hb hby at_21) rfl ?_
      show Steps p.tables e below (s₁.setTop (mkF m 22 #[.val (.long j0), .second, .val (.int k0), .val (.long (((((k0.toUInt32 >>> ((2 : Int32) &&& 31).toUInt32).toInt32) % (12 : Int32)) - (2 : Int32)).toInt64)), .second, .val (.int (k0 &&& (3 : Int32))), .unset, .unset, .unset, .unset] [(.long j0)])) _
      refine XS.lstore X0.here hx rfl (hb hby at_22) rfl (l' := #[.val (.long j0), .second, .val (.int k0), .val (.long (((((k0.toUInt32 >>> ((2 : Int32) &&& 31).toUInt32).toInt32) % (12 : Int32)) - (2 : Int32)).toInt64)), .second, .val (.int (k0 &&& (3 : Int32))), .val (.long j0), .second, .unset, .unset]) rfl ?_
      show Steps p.tables e below (s₁.setTop (mkF m 24 #[.val (.long j0), .second, .val (.int k0), .val (.long (((((k0.toUInt32 >>> ((2 : Int32) &&& 31).toUInt32).toInt32) % (12 : Int32)) - (2 : Int32)).toInt64)), .second, .val (.int (k0 &&& (3 : Int32))), .val (.long j0), .second, .unset, .unset] [])) _
      refine XS.goto X0.here hx rfl (pc0 := 24) (pc' := 51) rfl (hb hby at_24) (by decide) (by decide) ?_
      show Steps p.tables e below (s₁.setTop (mkF m 51 #[.val (.long j0), .second, .val (.int k0), .val (.long (((((k0.toUInt32 >>> ((2 : Int32) &&& 31).toUInt32).toInt32) % (12 : Int32)) - (2 : Int32)).toInt64)), .second, .val (.int (k0 &&& (3 : Int32))), .val (.long j0), .second, .unset, .unset] [])) _
      refine XS.lload X0.here hx rfl (hb hby at_51) rfl ?_
      show Steps p.tables e below (s₁.setTop (mkF m 53 #[.val (.long j0), .second, .val (.int k0), .val (.long (((((k0.toUInt32 >>> ((2 : Int32) &&& 31).toUInt32).toInt32) % (12 : Int32)) - (2 : Int32)).toInt64)), .second, .val (.int (k0 &&& (3 : Int32))), .val (.long j0), .second, .unset, .unset] [(.long j0)])) _
      refine st47 _ ?_
      show Steps p.tables e below (T47.setTop (mkF m 56 #[.val (.long j0), .second, .val (.int k0), .val (.long (((((k0.toUInt32 >>> ((2 : Int32) &&& 31).toUInt32).toInt32) % (12 : Int32)) - (2 : Int32)).toInt64)), .second, .val (.int (k0 &&& (3 : Int32))), .val (.long j0), .second, .unset, .unset] [(own_of j0 w_STRING w_HASHED_STRING w_CLASS w_INSTANCE w_ROOTS w_OBJECT_ARRAY w_PRIMITIVE_ARRAY w_LEGACY)])) _
      refine XS.astoreS X47.here hx rfl (hb hby at_56) rfl (own_of_ref j0 w_STRING w_HASHED_STRING w_CLASS w_INSTANCE w_ROOTS w_OBJECT_ARRAY w_PRIMITIVE_ARRAY w_LEGACY) (Jvm.Free.XT.cat1 (own_of_ref j0 w_STRING w_HASHED_STRING w_CLASS w_INSTANCE w_ROOTS w_OBJECT_ARRAY w_PRIMITIVE_ARRAY w_LEGACY)) rfl (Or.inl rfl) ?_
      show Steps p.tables e below (T47.setTop (mkF m 58 #[.val (.long j0), .second, .val (.int k0), .val (.long (((((k0.toUInt32 >>> ((2 : Int32) &&& 31).toUInt32).toInt32) % (12 : Int32)) - (2 : Int32)).toInt64)), .second, .val (.int (k0 &&& (3 : Int32))), .val (.long j0), .second, .val (own_of j0 w_STRING w_HASHED_STRING w_CLASS w_INSTANCE w_ROOTS w_OBJECT_ARRAY w_PRIMITIVE_ARRAY w_LEGACY), .unset] [])) _
      refine XS.lload X47.here hx rfl (hb hby at_58) rfl ?_
      show Steps p.tables e below (T47.setTop (mkF m 60 #[.val (.long j0), .second, .val (.int k0), .val (.long (((((k0.toUInt32 >>> ((2 : Int32) &&& 31).toUInt32).toInt32) % (12 : Int32)) - (2 : Int32)).toInt64)), .second, .val (.int (k0 &&& (3 : Int32))), .val (.long j0), .second, .val (own_of j0 w_STRING w_HASHED_STRING w_CLASS w_INSTANCE w_ROOTS w_OBJECT_ARRAY w_PRIMITIVE_ARRAY w_LEGACY), .unset] [(.long j0)])) _
      refine st48 _ ?_
      show Steps p.tables e below (T48.setTop (mkF m 63 #[.val (.long j0), .second, .val (.int k0), .val (.long (((((k0.toUInt32 >>> ((2 : Int32) &&& 31).toUInt32).toInt32) % (12 : Int32)) - (2 : Int32)).toInt64)), .second, .val (.int (k0 &&& (3 : Int32))), .val (.long j0), .second, .val (own_of j0 w_STRING w_HASHED_STRING w_CLASS w_INSTANCE w_ROOTS w_OBJECT_ARRAY w_PRIMITIVE_ARRAY w_LEGACY), .unset] [(own_of j0 w_STRING w_HASHED_STRING w_CLASS w_INSTANCE w_ROOTS w_OBJECT_ARRAY w_PRIMITIVE_ARRAY w_LEGACY)])) _
      refine XS.astoreS X48.here hx rfl (hb hby at_63) rfl (own_of_ref j0 w_STRING w_HASHED_STRING w_CLASS w_INSTANCE w_ROOTS w_OBJECT_ARRAY w_PRIMITIVE_ARRAY w_LEGACY) (Jvm.Free.XT.cat1 (own_of_ref j0 w_STRING w_HASHED_STRING w_CLASS w_INSTANCE w_ROOTS w_OBJECT_ARRAY w_PRIMITIVE_ARRAY w_LEGACY)) rfl (Or.inl rfl) ?_
      show Steps p.tables e below (T48.setTop (mkF m 65 #[.val (.long j0), .second, .val (.int k0), .val (.long (((((k0.toUInt32 >>> ((2 : Int32) &&& 31).toUInt32).toInt32) % (12 : Int32)) - (2 : Int32)).toInt64)), .second, .val (.int (k0 &&& (3 : Int32))), .val (.long j0), .second, .val (own_of j0 w_STRING w_HASHED_STRING w_CLASS w_INSTANCE w_ROOTS w_OBJECT_ARRAY w_PRIMITIVE_ARRAY w_LEGACY), .val (own_of j0 w_STRING w_HASHED_STRING w_CLASS w_INSTANCE w_ROOTS w_OBJECT_ARRAY w_PRIMITIVE_ARRAY w_LEGACY)] [])) _
      refine XS.aload X48.here hx rfl (hb hby at_65) rfl (own_of_ref j0 w_STRING w_HASHED_STRING w_CLASS w_INSTANCE w_ROOTS w_OBJECT_ARRAY w_PRIMITIVE_ARRAY w_LEGACY) ?_
      show Steps p.tables e below (T48.setTop (mkF m 67 #[.val (.long j0), .second, .val (.int k0), .val (.long (((((k0.toUInt32 >>> ((2 : Int32) &&& 31).toUInt32).toInt32) % (12 : Int32)) - (2 : Int32)).toInt64)), .second, .val (.int (k0 &&& (3 : Int32))), .val (.long j0), .second, .val (own_of j0 w_STRING w_HASHED_STRING w_CLASS w_INSTANCE w_ROOTS w_OBJECT_ARRAY w_PRIMITIVE_ARRAY w_LEGACY), .val (own_of j0 w_STRING w_HASHED_STRING w_CLASS w_INSTANCE w_ROOTS w_OBJECT_ARRAY w_PRIMITIVE_ARRAY w_LEGACY)] [(own_of j0 w_STRING w_HASHED_STRING w_CLASS w_INSTANCE w_ROOTS w_OBJECT_ARRAY w_PRIMITIVE_ARRAY w_LEGACY)])) _
      refine XS.aload X48.here hx rfl (hb hby at_67) rfl (own_of_ref j0 w_STRING w_HASHED_STRING w_CLASS w_INSTANCE w_ROOTS w_OBJECT_ARRAY w_PRIMITIVE_ARRAY w_LEGACY) ?_
      show Steps p.tables e below (T48.setTop (mkF m 69 #[.val (.long j0), .second, .val (.int k0), .val (.long (((((k0.toUInt32 >>> ((2 : Int32) &&& 31).toUInt32).toInt32) % (12 : Int32)) - (2 : Int32)).toInt64)), .second, .val (.int (k0 &&& (3 : Int32))), .val (.long j0), .second, .val (own_of j0 w_STRING w_HASHED_STRING w_CLASS w_INSTANCE w_ROOTS w_OBJECT_ARRAY w_PRIMITIVE_ARRAY w_LEGACY), .val (own_of j0 w_STRING w_HASHED_STRING w_CLASS w_INSTANCE w_ROOTS w_OBJECT_ARRAY w_PRIMITIVE_ARRAY w_LEGACY)] [(own_of j0 w_STRING w_HASHED_STRING w_CLASS w_INSTANCE w_ROOTS w_OBJECT_ARRAY w_PRIMITIVE_ARRAY w_LEGACY), (own_of j0 w_STRING w_HASHED_STRING w_CLASS w_INSTANCE w_ROOTS w_OBJECT_ARRAY w_PRIMITIVE_ARRAY w_LEGACY)])) _
      refine Jvm.RoadKit.acmp (g := (mkF m 69 #[.val (.long j0), .second, .val (.int k0), .val (.long (((((k0.toUInt32 >>> ((2 : Int32) &&& 31).toUInt32).toInt32) % (12 : Int32)) - (2 : Int32)).toInt64)), .second, .val (.int (k0 &&& (3 : Int32))), .val (.long j0), .second, .val (own_of j0 w_STRING w_HASHED_STRING w_CLASS w_INSTANCE w_ROOTS w_OBJECT_ARRAY w_PRIMITIVE_ARRAY w_LEGACY), .val (own_of j0 w_STRING w_HASHED_STRING w_CLASS w_INSTANCE w_ROOTS w_OBJECT_ARRAY w_PRIMITIVE_ARRAY w_LEGACY)] [(own_of j0 w_STRING w_HASHED_STRING w_CLASS w_INSTANCE w_ROOTS w_OBJECT_ARRAY w_PRIMITIVE_ARRAY w_LEGACY), (own_of j0 w_STRING w_HASHED_STRING w_CLASS w_INSTANCE w_ROOTS w_OBJECT_ARRAY w_PRIMITIVE_ARRAY w_LEGACY)])) X48 hx rfl (own_of_ref j0 w_STRING w_HASHED_STRING w_CLASS w_INSTANCE w_ROOTS w_OBJECT_ARRAY w_PRIMITIVE_ARRAY w_LEGACY) (own_of_ref j0 w_STRING w_HASHED_STRING w_CLASS w_INSTANCE w_ROOTS w_OBJECT_ARRAY w_PRIMITIVE_ARRAY w_LEGACY) (pc0 := 69) (pc' := 74) (same := true) rfl (hb hby at_69) rfl (decide_eq_true rfl) (by decide) (by decide) ?_
      show Steps p.tables e below (T48.setTop (mkF m 74 #[.val (.long j0), .second, .val (.int k0), .val (.long (((((k0.toUInt32 >>> ((2 : Int32) &&& 31).toUInt32).toInt32) % (12 : Int32)) - (2 : Int32)).toInt64)), .second, .val (.int (k0 &&& (3 : Int32))), .val (.long j0), .second, .val (own_of j0 w_STRING w_HASHED_STRING w_CLASS w_INSTANCE w_ROOTS w_OBJECT_ARRAY w_PRIMITIVE_ARRAY w_LEGACY), .val (own_of j0 w_STRING w_HASHED_STRING w_CLASS w_INSTANCE w_ROOTS w_OBJECT_ARRAY w_PRIMITIVE_ARRAY w_LEGACY)] [])) _
      exact k_)
    by_cases ht1 : j0 = (1 : Int64)
    · have hq : (own_of j0 w_STRING w_HASHED_STRING w_CLASS w_INSTANCE w_ROOTS w_OBJECT_ARRAY w_PRIMITIVE_ARRAY w_LEGACY) = .ref w_STRING := by rw [own_of, if_pos ht1]
      rw [hq] at pre49
      obtain ⟨cq50, kq50, q50a, q50b, q50c⟩ := isOf hZ e48 E_STRING
      obtain ⟨v50, _, ⟨T50, L50, k50, n50⟩, -, X50, ⟨Lc50, hQ50, l50, y50, z50⟩, st50⟩ := X48.virtualBack hx (y := (⟨"com/example/heapscribe/heapscribe/Bmd$RecordKind", "tag", "()I"⟩ : MethodName)) (z := (⟨"com/example/heapscribe/heapscribe/Bmd$RecordKind", "tag", "()I"⟩ : MethodName)) hown (mvT hZ (hw _ (List.mem_of_getElem? (i := 14) rfl))) (mvT hZ (hw _ (List.mem_of_getElem? (i := 15) rfl))) (notFace_of_selects (args := #[]) (mvT hZ (hw _ (List.mem_of_getElem? (i := 17) rfl)))) (mvT hZ (hw _ (List.mem_of_getElem? (i := 17) rfl))) (mvT hZ (hw _ (List.mem_of_getElem? (i := 16) rfl))) (by decide) (backOf (W := 0) (rm_3 l Z a0 hw [] w_STRING (1 : Int32) h0 n0 Z0 F_STRING_tag) hZ (hw _ (List.mem_of_getElem? (i := 18) rfl)) (hw _ (List.mem_of_getElem? (i := 2) rfl)) (by decide) (by decide)) q50a q50c (g := (mkF m 81 #[.val (.long j0), .second, .val (.int k0), .val (.long (((((k0.toUInt32 >>> ((2 : Int32) &&& 31).toUInt32).toInt32) % (12 : Int32)) - (2 : Int32)).toInt64)), .second, .val (.int (k0 &&& (3 : Int32))), .val (.long j0), .second, .val (.ref w_STRING), .val (.ref w_STRING)] [(.ref w_STRING)])) rfl (by rw [hml]; rfl) (Steps.refl _) (argsL := []) (rest := []) (lenOf pd_1 rfl) rfl (by show 2 * 0 + _ ≤ _; exact Nat.le_of_eq rfl) (hb hby at_81) (fun _ _ => ⟨rfl, e48, (by decide : 0 + 0 ≤ _), (by decide : 0 + 0 ≤ _)⟩)
      dsimp only [Pt.U, Pt.locs, Pt.cells, Pt.slots] at X50 l50 y50 z50 st50 hQ50
      subst l50 y50 z50
      obtain ⟨hv50, N50q, e50⟩ := hQ50
      have N50 := Fr.app N48 N50q
      subst hv50
      have pre51 : ∀ t_, Steps p.tables e below (T50.setTop (mkF m 94 #[.val (.long j0), .second, .val (.int k0), .val (.long (((((k0.toUInt32 >>> ((2 : Int32) &&& 31).toUInt32).toInt32) % (12 : Int32)) - (2 : Int32)).toInt64)), .second, .val (.int (k0 &&& (3 : Int32))), .val (.long j0), .second, .val (.ref w_STRING), .val (.ref w_STRING)] [(.int (1 : Int32))])) t_ → Steps p.tables e below (s₁.setTop (entryFrame m #[(.long j0), (.int k0)] maxLocals)) t_ := fun t_ k_ => pre49 t_ (by
        show Steps p.tables e below (T48.setTop (mkF m 74 #[.val (.long j0), .second, .val (.int k0), .val (.long (((((k0.toUInt32 >>> ((2 : Int32) &&& 31).toUInt32).toInt32) % (12 : Int32)) - (2 : Int32)).toInt64)), .second, .val (.int (k0 &&& (3 : Int32))), .val (.long j0), .second, .val (.ref w_STRING), .val (.ref w_STRING)] [])) _
        refine XS.aload X48.here hx rfl (hb hby at_74) rfl rfl ?_
        show Steps p.tables e below (T48.setTop (mkF m 76 #[.val (.long j0), .second, .val (.int k0), .val (.long (((((k0.toUInt32 >>> ((2 : Int32) &&& 31).toUInt32).toInt32) % (12 : Int32)) - (2 : Int32)).toInt64)), .second, .val (.int (k0 &&& (3 : Int32))), .val (.long j0), .second, .val (.ref w_STRING), .val (.ref w_STRING)] [(.ref w_STRING)])) _
        refine XS.ifnullNo X48.here hx rfl (hb hby at_76) rfl ?_
        show Steps p.tables e below (T48.setTop (mkF m 79 #[.val (.long j0), .second, .val (.int k0), .val (.long (((((k0.toUInt32 >>> ((2 : Int32) &&& 31).toUInt32).toInt32) % (12 : Int32)) - (2 : Int32)).toInt64)), .second, .val (.int (k0 &&& (3 : Int32))), .val (.long j0), .second, .val (.ref w_STRING), .val (.ref w_STRING)] [])) _
        refine XS.aload X48.here hx rfl (hb hby at_79) rfl rfl ?_
        show Steps p.tables e below (T48.setTop (mkF m 81 #[.val (.long j0), .second, .val (.int k0), .val (.long (((((k0.toUInt32 >>> ((2 : Int32) &&& 31).toUInt32).toInt32) % (12 : Int32)) - (2 : Int32)).toInt64)), .second, .val (.int (k0 &&& (3 : Int32))), .val (.long j0), .second, .val (.ref w_STRING), .val (.ref w_STRING)] [(.ref w_STRING)])) _
        refine st50.trans ?_
        show Steps p.tables e below (T50.setTop (mkF m 84 #[.val (.long j0), .second, .val (.int k0), .val (.long (((((k0.toUInt32 >>> ((2 : Int32) &&& 31).toUInt32).toInt32) % (12 : Int32)) - (2 : Int32)).toInt64)), .second, .val (.int (k0 &&& (3 : Int32))), .val (.long j0), .second, .val (.ref w_STRING), .val (.ref w_STRING)] [(.int (1 : Int32))])) _
        refine XS.i2l X50.here hx rfl (hb hby at_84) rfl ?_
        show Steps p.tables e below (T50.setTop (mkF m 85 #[.val (.long j0), .second, .val (.int k0), .val (.long (((((k0.toUInt32 >>> ((2 : Int32) &&& 31).toUInt32).toInt32) % (12 : Int32)) - (2 : Int32)).toInt64)), .second, .val (.int (k0 &&& (3 : Int32))), .val (.long j0), .second, .val (.ref w_STRING), .val (.ref w_STRING)] [(.long ((1 : Int32).toInt64))])) _
        refine XS.lload X50.here hx rfl (hb hby at_85) rfl ?_
        show Steps p.tables e below (T50.setTop (mkF m 87 #[.val (.long j0), .second, .val (.int k0), .val (.long (((((k0.toUInt32 >>> ((2 : Int32) &&& 31).toUInt32).toInt32) % (12 : Int32)) - (2 : Int32)).toInt64)), .second, .val (.int (k0 &&& (3 : Int32))), .val (.long j0), .second, .val (.ref w_STRING), .val (.ref w_STRING)] [(.long j0), (.long ((1 : Int32).toInt64))])) _
        refine XS.lcmp X50.here hx rfl (hb hby at_87) rfl ?_
        show Steps p.tables e below (T50.setTop (mkF m 88 #[.val (.long j0), .second, .val (.int k0), .val (.long (((((k0.toUInt32 >>> ((2 : Int32) &&& 31).toUInt32).toInt32) % (12 : Int32)) - (2 : Int32)).toInt64)), .second, .val (.int (k0 &&& (3 : Int32))), .val (.long j0), .second, .val (.ref w_STRING), .val (.ref w_STRING)] [(.int (lcmpW ((1 : Int32).toInt64) j0))])) _
        refine XS.ifYes X50.here hx rfl (pc0 := 88) (pc' := 93) rfl (hb hby at_88) rfl ((if0 _ _).trans (teq ((lw_eq ((1 : Int32).toInt64) j0).mpr (Eq.trans (by decide) ht1.symm))).1) (by decide) (by decide) ?_
        show Steps p.tables e below (T50.setTop (mkF m 93 #[.val (.long j0), .second, .val (.int k0), .val (.long (((((k0.toUInt32 >>> ((2 : Int32) &&& 31).toUInt32).toInt32) % (12 : Int32)) - (2 : Int32)).toInt64)), .second, .val (.int (k0 &&& (3 : Int32))), .val (.long j0), .second, .val (.ref w_STRING), .val (.ref w_STRING)] [])) _
        refine XS.iconst X50.here hx rfl (hb hby at_93) ?_
        show Steps p.tables e below (T50.setTop (mkF m 94 #[.val (.long j0), .second, .val (.int k0), .val (.long (((((k0.toUInt32 >>> ((2 : Int32) &&& 31).toUInt32).toInt32) % (12 : Int32)) - (2 : Int32)).toInt64)), .second, .val (.int (k0 &&& (3 : Int32))), .val (.long j0), .second, .val (.ref w_STRING), .val (.ref w_STRING)] [(.int (1 : Int32))])) _
        exact k_)
      obtain ⟨fs, hr, hrun, hended, hW, hsame⟩ := X50.leave (v := some (.int (1 : Int32))) (fun h => by rw [Bd.returns] at h; cases h)
      refine ⟨_, _, pre51 _ ?_, hrun, hended, _, _, rfl, ?_, ⟨_, rfl⟩, hW, hsame.mono (by decide) (by decide)⟩
      · show Steps p.tables e below (T50.setTop (mkF m 94 #[.val (.long j0), .second, .val (.int k0), .val (.long (((((k0.toUInt32 >>> ((2 : Int32) &&& 31).toUInt32).toInt32) % (12 : Int32)) - (2 : Int32)).toInt64)), .second, .val (.int (k0 &&& (3 : Int32))), .val (.long j0), .second, .val (.ref w_STRING), .val (.ref w_STRING)] [(.int (1 : Int32))])) _
        exact retN X50 hx (t := .boolean) Bd.returns (by simp) (hb hby at_94) hr
      · show Q_0 Z j0 k0 w_STRING w_HASHED_STRING w_CLASS w_INSTANCE w_ROOTS w_OBJECT_ARRAY w_PRIMITIVE_ARRAY w_LEGACY w_BY_TAG cl_BY_TAG h0 n0 _ T50.heap _
        rw [e50]
        exact ⟨rfl, N50⟩
    by_cases ht2 : j0 = (2 : Int64)
    · have hq : (own_of j0 w_STRING w_HASHED_STRING w_CLASS w_INSTANCE w_ROOTS w_OBJECT_ARRAY w_PRIMITIVE_ARRAY w_LEGACY) = .ref w_HASHED_STRING := by rw [own_of, if_neg ht1, if_pos ht2]
      rw [hq] at pre49
      obtain ⟨cq52, kq52, q52a, q52b, q52c⟩ := isOf hZ e48 E_HASHED_STRING
      obtain ⟨v52, _, ⟨T52, L52, k52, n52⟩, -, X52, ⟨Lc52, hQ52, l52, y52, z52⟩, st52⟩ := X48.virtualBack hx (y := (⟨"com/example/heapscribe/heapscribe/Bmd$RecordKind", "tag", "()I"⟩ : MethodName)) (z := (⟨"com/example/heapscribe/heapscribe/Bmd$RecordKind", "tag", "()I"⟩ : MethodName)) hown (mvT hZ (hw _ (List.mem_of_getElem? (i := 14) rfl))) (mvT hZ (hw _ (List.mem_of_getElem? (i := 15) rfl))) (notFace_of_selects (args := #[]) (mvT hZ (hw _ (List.mem_of_getElem? (i := 17) rfl)))) (mvT hZ (hw _ (List.mem_of_getElem? (i := 17) rfl))) (mvT hZ (hw _ (List.mem_of_getElem? (i := 16) rfl))) (by decide) (backOf (W := 0) (rm_3 l Z a0 hw [] w_HASHED_STRING (2 : Int32) h0 n0 Z0 F_HASHED_STRING_tag) hZ (hw _ (List.mem_of_getElem? (i := 18) rfl)) (hw _ (List.mem_of_getElem? (i := 2) rfl)) (by decide) (by decide)) q52a q52c (g := (mkF m 81 #[.val (.long j0), .second, .val (.int k0), .val (.long (((((k0.toUInt32 >>> ((2 : Int32) &&& 31).toUInt32).toInt32) % (12 : Int32)) - (2 : Int32)).toInt64)), .second, .val (.int (k0 &&& (3 : Int32))), .val (.long j0), .second, .val (.ref w_HASHED_STRING), .val (.ref w_HASHED_STRING)] [(.ref w_HASHED_STRING)])) rfl (by rw [hml]; rfl) (Steps.refl _) (argsL := []) (rest := []) (lenOf pd_1 rfl) rfl (by show 2 * 0 + _ ≤ _; exact Nat.le_of_eq rfl) (hb hby at_81) (fun _ _ => ⟨rfl, e48, (by decide : 0 + 0 ≤ _), (by decide : 0 + 0 ≤ _)⟩)
      dsimp only [Pt.U, Pt.locs, Pt.cells, Pt.slots] at X52 l52 y52 z52 st52 hQ52
      subst l52 y52 z52
      obtain ⟨hv52, N52q, e52⟩ := hQ52
      have N52 := Fr.app N48 N52q
      subst hv52
      have pre53 : ∀ t_, Steps p.tables e below (T52.setTop (mkF m 94 #[.val (.long j0), .second, .val (.int k0), .val (.long (((((k0.toUInt32 >>> ((2 : Int32) &&& 31).toUInt32).toInt32) % (12 : Int32)) - (2 : Int32)).toInt64)), .second, .val (.int (k0 &&& (3 : Int32))), .val (.long j0), .second, .val (.ref w_HASHED_STRING), .val (.ref w_HASHED_STRING)] [(.int (1 : Int32))])) t_ → Steps p.tables e below (s₁.setTop (entryFrame m #[(.long j0), (.int k0)] maxLocals)) t_ := fun t_ k_ => pre49 t_ (by
        show Steps p.tables e below (T48.setTop (mkF m 74 #[.val (.long j0), .second, .val (.int k0), .val (.long (((((k0.toUInt32 >>> ((2 : Int32) &&& 31).toUInt32).toInt32) % (12 : Int32)) - (2 : Int32)).toInt64)), .second, .val (.int (k0 &&& (3 : Int32))), .val (.long j0), .second, .val (.ref w_HASHED_STRING), .val (.ref w_HASHED_STRING)] [])) _
        refine XS.aload X48.here hx rfl (hb hby at_74) rfl rfl ?_
        show Steps p.tables e below (T48.setTop (mkF m 76 #[.val (.long j0), .second, .val (.int k0), .val (.long (((((k0.toUInt32 >>> ((2 : Int32) &&& 31).toUInt32).toInt32) % (12 : Int32)) - (2 : Int32)).toInt64)), .second, .val (.int (k0 &&& (3 : Int32))), .val (.long j0), .second, .val (.ref w_HASHED_STRING), .val (.ref w_HASHED_STRING)] [(.ref w_HASHED_STRING)])) _
        refine XS.ifnullNo X48.here hx rfl (hb hby at_76) rfl ?_
        show Steps p.tables e below (T48.setTop (mkF m 79 #[.val (.long j0), .second, .val (.int k0), .val (.long (((((k0.toUInt32 >>> ((2 : Int32) &&& 31).toUInt32).toInt32) % (12 : Int32)) - (2 : Int32)).toInt64)), .second, .val (.int (k0 &&& (3 : Int32))), .val (.long j0), .second, .val (.ref w_HASHED_STRING), .val (.ref w_HASHED_STRING)] [])) _
        refine XS.aload X48.here hx rfl (hb hby at_79) rfl rfl ?_
        show Steps p.tables e below (T48.setTop (mkF m 81 #[.val (.long j0), .second, .val (.int k0), .val (.long (((((k0.toUInt32 >>> ((2 : Int32) &&& 31).toUInt32).toInt32) % (12 : Int32)) - (2 : Int32)).toInt64)), .second, .val (.int (k0 &&& (3 : Int32))), .val (.long j0), .second, .val (.ref w_HASHED_STRING), .val (.ref w_HASHED_STRING)] [(.ref w_HASHED_STRING)])) _
        refine st52.trans ?_
        show Steps p.tables e below (T52.setTop (mkF m 84 #[.val (.long j0), .second, .val (.int k0), .val (.long (((((k0.toUInt32 >>> ((2 : Int32) &&& 31).toUInt32).toInt32) % (12 : Int32)) - (2 : Int32)).toInt64)), .second, .val (.int (k0 &&& (3 : Int32))), .val (.long j0), .second, .val (.ref w_HASHED_STRING), .val (.ref w_HASHED_STRING)] [(.int (2 : Int32))])) _
        refine XS.i2l X52.here hx rfl (hb hby at_84) rfl ?_
        show Steps p.tables e below (T52.setTop (mkF m 85 #[.val (.long j0), .second, .val (.int k0), .val (.long (((((k0.toUInt32 >>> ((2 : Int32) &&& 31).toUInt32).toInt32) % (12 : Int32)) - (2 : Int32)).toInt64)), .second, .val (.int (k0 &&& (3 : Int32))), .val (.long j0), .second, .val (.ref w_HASHED_STRING), .val (.ref w_HASHED_STRING)] [(.long ((2 : Int32).toInt64))])) _
        refine XS.lload X52.here hx rfl (hb hby at_85) rfl ?_
        show Steps p.tables e below (T52.setTop (mkF m 87 #[.val (.long j0), .second, .val (.int k0), .val (.long (((((k0.toUInt32 >>> ((2 : Int32) &&& 31).toUInt32).toInt32) % (12 : Int32)) - (2 : Int32)).toInt64)), .second, .val (.int (k0 &&& (3 : Int32))), .val (.long j0), .second, .val (.ref w_HASHED_STRING), .val (.ref w_HASHED_STRING)] [(.long j0), (.long ((2 : Int32).toInt64))])) _
        refine XS.lcmp X52.here hx rfl (hb hby at_87) rfl ?_
        show Steps p.tables e below (T52.setTop (mkF m 88 #[.val (.long j0), .second, .val (.int k0), .val (.long (((((k0.toUInt32 >>> ((2 : Int32) &&& 31).toUInt32).toInt32) % (12 : Int32)) - (2 : Int32)).toInt64)), .second, .val (.int (k0 &&& (3 : Int32))), .val (.long j0), .second, .val (.ref w_HASHED_STRING), .val (.ref w_HASHED_STRING)] [(.int (lcmpW ((2 : Int32).toInt64) j0))])) _
        refine XS.ifYes X52.here hx rfl (pc0 := 88) (pc' := 93) rfl (hb hby at_88) rfl ((if0 _ _).trans (teq ((lw_eq ((2 : Int32).toInt64) j0).mpr (Eq.trans (by decide) ht2.symm))).1) (by decide) (by decide) ?_
        show Steps p.tables e below (T52.setTop (mkF m 93 #[.val (.long j0), .second, .val (.int k0), .val (.long (((((k0.toUInt32 >>> ((2 : Int32) &&& 31).toUInt32).toInt32) % (12 : Int32)) - (2 : Int32)).toInt64)), .second, .val (.int (k0 &&& (3 : Int32))), .val (.long j0), .second, .val (.ref w_HASHED_STRING), .val (.ref w_HASHED_STRING)] [])) _
        refine XS.iconst X52.here hx rfl (hb hby at_93) ?_
        show Steps p.tables e below (T52.setTop (mkF m 94 #[.val (.long j0), .second, .val (.int k0), .val (.long (((((k0.toUInt32 >>> ((2 : Int32) &&& 31).toUInt32).toInt32) % (12 : Int32)) - (2 : Int32)).toInt64)), .second, .val (.int (k0 &&& (3 : Int32))), .val (.long j0), .second, .val (.ref w_HASHED_STRING), .val (.ref w_HASHED_STRING)] [(.int (1 : Int32))])) _
        exact k_)
      obtain ⟨fs, hr, hrun, hended, hW, hsame⟩ := X52.leave (v := some (.int (1 : Int32))) (fun h => by rw [Bd.returns] at h; cases h)
      refine ⟨_, _, pre53 _ ?_, hrun, hended, _, _, rfl, ?_, ⟨_, rfl⟩, hW, hsame.mono (by decide) (by decide)⟩
      · show Steps p.tables e below (T52.setTop (mkF m 94 #[.val (.long j0), .second, .val (.int k0), .val (.long (((((k0.toUInt32 >>> ((2 : Int32) &&& 31).toUInt32).toInt32) % (12 : Int32)) - (2 : Int32)).toInt64)), .second, .val (.int (k0 &&& (3 : Int32))), .val (.long j0), .second, .val (.ref w_HASHED_STRING), .val (.ref w_HASHED_STRING)] [(.int (1 : Int32))])) _
        exact retN X52 hx (t := .boolean) Bd.returns (by simp) (hb hby at_94) hr
      · show Q_0 Z j0 k0 w_STRING w_HASHED_STRING w_CLASS w_INSTANCE w_ROOTS w_OBJECT_ARRAY w_PRIMITIVE_ARRAY w_LEGACY w_BY_TAG cl_BY_TAG h0 n0 _ T52.heap _
        rw [e52]
        exact ⟨rfl, N52⟩
    by_cases ht3 : j0 = (3 : Int64)
    · have hq : (own_of j0 w_STRING w_HASHED_STRING w_CLASS w_INSTANCE w_ROOTS w_OBJECT_ARRAY w_PRIMITIVE_ARRAY w_LEGACY) = .ref w_CLASS := by rw [own_of, if_neg ht1, if_neg ht2, if_pos ht3]
      rw [hq] at pre49
      obtain ⟨cq54, kq54, q54a, q54b, q54c⟩ := isOf hZ e48 E_CLASS
      obtain ⟨v54, _, ⟨T54, L54, k54, n54⟩, -, X54, ⟨Lc54, hQ54, l54, y54, z54⟩, st54⟩ := X48.virtualBack hx (y := (⟨"com/example/heapscribe/heapscribe/Bmd$RecordKind", "tag", "()I"⟩ : MethodName)) (z := (⟨"com/example/heapscribe/heapscribe/Bmd$RecordKind", "tag", "()I"⟩ : MethodName)) hown (mvT hZ (hw _ (List.mem_of_getElem? (i := 14) rfl))) (mvT hZ (hw _ (List.mem_of_getElem? (i := 15) rfl))) (notFace_of_selects (args := #[]) (mvT hZ (hw _ (List.mem_of_getElem? (i := 17) rfl)))) (mvT hZ (hw _ (List.mem_of_getElem? (i := 17) rfl))) (mvT hZ (hw _ (List.mem_of_getElem? (i := 16) rfl))) (by decide) (backOf (W := 0) (rm_3 l Z a0 hw [] w_CLASS (3 : Int32) h0 n0 Z0 F_CLASS_tag) hZ (hw _ (List.mem_of_getElem? (i := 18) rfl)) (hw _ (List.mem_of_getElem? (i := 2) rfl)) (by decide) (by decide)) q54a q54c (g := (mkF m 81 #[.val (.long j0), .second, .val (.int k0), .val (.long (((((k0.toUInt32 >>> ((2 : Int32) &&& 31).toUInt32).toInt32) % (12 : Int32)) - (2 : Int32)).toInt64)), .second, .val (.int (k0 &&& (3 : Int32))), .val (.long j0), .second, .val (.ref w_CLASS), .val (.ref w_CLASS)] [(.ref w_CLASS)])) rfl (by rw [hml]; rfl) (Steps.refl _) (argsL := []) (rest := []) (lenOf pd_1 rfl) rfl (by show 2 * 0 + _ ≤ _; exact Nat.le_of_eq rfl) (hb hby at_81) (fun _ _ => ⟨rfl, e48, (by decide : 0 + 0 ≤ _), (by decide : 0 + 0 ≤ _)⟩)
      dsimp only [Pt.U, Pt.locs, Pt.cells, Pt.slots] at X54 l54 y54 z54 st54 hQ54
      subst l54 y54 z54
      obtain ⟨hv54, N54q, e54⟩ := hQ54
      have N54 := Fr.app N48 N54q
      subst hv54
      have pre55 : ∀ t_, Steps p.tables e below (T54.setTop (mkF m 94 #[.val (.long j0), .second, .val (.int k0), .val (.long (((((k0.toUInt32 >>> ((2 : Int32) &&& 31).toUInt32).toInt32) % (12 : Int32)) - (2 : Int32)).toInt64)), .second, .val (.int (k0 &&& (3 : Int32))), .val (.long j0), .second, .val (.ref w_CLASS), .val (.ref w_CLASS)] [(.int (1 : Int32))])) t_ → Steps p.tables e below (s₁.setTop (entryFrame m #[(.long j0), (.int k0)] maxLocals)) t_ := fun t_ k_ => pre49 t_ (by
        show Steps p.tables e below (T48.setTop (mkF m 74 #[.val (.long j0), .second, .val (.int k0), .val (.long (((((k0.toUInt32 >>> ((2 : Int32) &&& 31).toUInt32).toInt32) % (12 : Int32)) - (2 : Int32)).toInt64)), .second, .val (.int (k0 &&& (3 : Int32))), .val (.long j0), .second, .val (.ref w_CLASS), .val (.ref w_CLASS)] [])) _
        refine XS.aload X48.here hx rfl (hb hby at_74) rfl rfl ?_
        show Steps p.tables e below (T48.setTop (mkF m 76 #[.val (.long j0), .second, .val (.int k0), .val (.long (((((k0.toUInt32 >>> ((2 : Int32) &&& 31).toUInt32).toInt32) % (12 : Int32)) - (2 : Int32)).toInt64)), .second, .val (.int (k0 &&& (3 : Int32))), .val (.long j0), .second, .val (.ref w_CLASS), .val (.ref w_CLASS)] [(.ref w_CLASS)])) _
        refine XS.ifnullNo X48.here hx rfl (hb hby at_76) rfl ?_
        show Steps p.tables e below (T48.setTop (mkF m 79 #[.val (.long j0), .second, .val (.int k0), .val (.long (((((k0.toUInt32 >>> ((2 : Int32) &&& 31).toUInt32).toInt32) % (12 : Int32)) - (2 : Int32)).toInt64)), .second, .val (.int (k0 &&& (3 : Int32))), .val (.long j0), .second, .val (.ref w_CLASS), .val (.ref w_CLASS)] [])) _
        refine XS.aload X48.here hx rfl (hb hby at_79) rfl rfl ?_
        show Steps p.tables e below (T48.setTop (mkF m 81 #[.val (.long j0), .second, .val (.int k0), .val (.long (((((k0.toUInt32 >>> ((2 : Int32) &&& 31).toUInt32).toInt32) % (12 : Int32)) - (2 : Int32)).toInt64)), .second, .val (.int (k0 &&& (3 : Int32))), .val (.long j0), .second, .val (.ref w_CLASS), .val (.ref w_CLASS)] [(.ref w_CLASS)])) _
        refine st54.trans ?_
        show Steps p.tables e below (T54.setTop (mkF m 84 #[.val (.long j0), .second, .val (.int k0), .val (.long (((((k0.toUInt32 >>> ((2 : Int32) &&& 31).toUInt32).toInt32) % (12 : Int32)) - (2 : Int32)).toInt64)), .second, .val (.int (k0 &&& (3 : Int32))), .val (.long j0), .second, .val (.ref w_CLASS), .val (.ref w_CLASS)] [(.int (3 : Int32))])) _
        refine XS.i2l X54.here hx rfl (hb hby at_84) rfl ?_
        show Steps p.tables e below (T54.setTop (mkF m 85 #[.val (.long j0), .second, .val (.int k0), .val (.long (((((k0.toUInt32 >>> ((2 : Int32) &&& 31).toUInt32).toInt32) % (12 : Int32)) - (2 : Int32)).toInt64)), .second, .val (.int (k0 &&& (3 : Int32))), .val (.long j0), .second, .val (.ref w_CLASS), .val (.ref w_CLASS)] [(.long ((3 : Int32).toInt64))])) _
        refine XS.lload X54.here hx rfl (hb hby at_85) rfl ?_
        show Steps p.tables e below (T54.setTop (mkF m 87 #[.val (.long j0), .second, .val (.int k0), .val (.long (((((k0.toUInt32 >>> ((2 : Int32) &&& 31).toUInt32).toInt32) % (12 : Int32)) - (2 : Int32)).toInt64)), .second, .val (.int (k0 &&& (3 : Int32))), .val (.long j0), .second, .val (.ref w_CLASS), .val (.ref w_CLASS)] [(.long j0), (.long ((3 : Int32).toInt64))])) _
        refine XS.lcmp X54.here hx rfl (hb hby at_87) rfl ?_
        show Steps p.tables e below (T54.setTop (mkF m 88 #[.val (.long j0), .second, .val (.int k0), .val (.long (((((k0.toUInt32 >>> ((2 : Int32) &&& 31).toUInt32).toInt32) % (12 : Int32)) - (2 : Int32)).toInt64)), .second, .val (.int (k0 &&& (3 : Int32))), .val (.long j0), .second, .val (.ref w_CLASS), .val (.ref w_CLASS)] [(.int (lcmpW ((3 : Int32).toInt64) j0))])) _
        refine XS.ifYes X54.here hx rfl (pc0 := 88) (pc' := 93) rfl (hb hby at_88) rfl ((if0 _ _).trans (teq ((lw_eq ((3 : Int32).toInt64) j0).mpr (Eq.trans (by decide) ht3.symm))).1) (by decide) (by decide) ?_
        show Steps p.tables e below (T54.setTop (mkF m 93 #[.val (.long j0), .second, .val (.int k0), .val (.long (((((k0.toUInt32 >>> ((2 : Int32) &&& 31).toUInt32).toInt32) % (12 : Int32)) - (2 : Int32)).toInt64)), .second, .val (.int (k0 &&& (3 : Int32))), .val (.long j0), .second, .val (.ref w_CLASS), .val (.ref w_CLASS)] [])) _
        refine XS.iconst X54.here hx rfl (hb hby at_93) ?_
        show Steps p.tables e below (T54.setTop (mkF m 94 #[.val (.long j0), .second, .val (.int k0), .val (.long (((((k0.toUInt32 >>> ((2 : Int32) &&& 31).toUInt32).toInt32) % (12 : Int32)) - (2 : Int32)).toInt64)), .second, .val (.int (k0 &&& (3 : Int32))), .val (.long j0), .second, .val (.ref w_CLASS), .val (.ref w_CLASS)] [(.int (1 : Int32))])) _
        exact k_)
      obtain ⟨fs, hr, hrun, hended, hW, hsame⟩ := X54.leave (v := some (.int (1 : Int32))) (fun h => by rw [Bd.returns] at h; cases h)
      refine ⟨_, _, pre55 _ ?_, hrun, hended, _, _, rfl, ?_, ⟨_, rfl⟩, hW, hsame.mono (by decide) (by decide)⟩
      · show Steps p.tables e below (T54.setTop (mkF m 94 #[.val (.long j0), .second, .val (.int k0), .val (.long (((((k0.toUInt32 >>> ((2 : Int32) &&& 31).toUInt32).toInt32) % (12 : Int32)) - (2 : Int32)).toInt64)), .second, .val (.int (k0 &&& (3 : Int32))), .val (.long j0), .second, .val (.ref w_CLASS), .val (.ref w_CLASS)] [(.int (1 : Int32))])) _
        exact retN X54 hx (t := .boolean) Bd.returns (by simp) (hb hby at_94) hr
      · show Q_0 Z j0 k0 w_STRING w_HASHED_STRING w_CLASS w_INSTANCE w_ROOTS w_OBJECT_ARRAY w_PRIMITIVE_ARRAY w_LEGACY w_BY_TAG cl_BY_TAG h0 n0 _ T54.heap _
        rw [e54]
        exact ⟨rfl, N54⟩
    by_cases ht4 : j0 = (4 : Int64)
    · have hq : (own_of j0 w_STRING w_HASHED_STRING w_CLASS w_INSTANCE w_ROOTS w_OBJECT_ARRAY w_PRIMITIVE_ARRAY w_LEGACY) = .ref w_INSTANCE := by rw [own_of, if_neg ht1, if_neg ht2, if_neg ht3, if_pos ht4]
      rw [hq] at pre49
      obtain ⟨cq56, kq56, q56a, q56b, q56c⟩ := isOf hZ e48 E_INSTANCE
      obtain ⟨v56, _, ⟨T56, L56, k56, n56⟩, -, X56, ⟨Lc56, hQ56, l56, y56, z56⟩, st56⟩ := X48.virtualBack hx (y := (⟨"com/example/heapscribe/heapscribe/Bmd$RecordKind", "tag", "()I"⟩ : MethodName)) (z := (⟨"com/example/heapscribe/heapscribe/Bmd$RecordKind", "tag", "()I"⟩ : MethodName)) hown (mvT hZ (hw _ (List.mem_of_getElem? (i := 14) rfl))) (mvT hZ (hw _ (List.mem_of_getElem? (i := 15) rfl))) (notFace_of_selects (args := #[]) (mvT hZ (hw _ (List.mem_of_getElem? (i := 17) rfl)))) (mvT hZ (hw _ (List.mem_of_getElem? (i := 17) rfl))) (mvT hZ (hw _ (List.mem_of_getElem? (i := 16) rfl))) (by decide) (backOf (W := 0) (rm_3 l Z a0 hw [] w_INSTANCE (4 : Int32) h0 n0 Z0 F_INSTANCE_tag) hZ (hw _ (List.mem_of_getElem? (i := 18) rfl)) (hw _ (List.mem_of_getElem? (i := 2) rfl)) (by decide) (by decide)) q56a q56c (g := (mkF m 81 #[.val (.long j0), .second, .val (.int k0), .val (.long (((((k0.toUInt32 >>> ((2 : Int32) &&& 31).toUInt32).toInt32) % (12 : Int32)) - (2 : Int32)).toInt64)), .second, .val (.int (k0 &&& (3 : Int32))), .val (.long j0), .second, .val (.ref w_INSTANCE), .val (.ref w_INSTANCE)] [(.ref w_INSTANCE)])) rfl (by rw [hml]; rfl) (Steps.refl _) (argsL := []) (rest := []) (lenOf pd_1 rfl) rfl (by show 2 * 0 + _ ≤ _; exact Nat.le_of_eq rfl) (hb hby at_81) (fun _ _ => ⟨rfl, e48, (by decide : 0 + 0 ≤ _), (by decide : 0 + 0 ≤ _)⟩)
      dsimp only [Pt.U, Pt.locs, Pt.cells, Pt.slots] at X56 l56 y56 z56 st56 hQ56
      subst l56 y56 z56
      obtain ⟨hv56, N56q, e56⟩ := hQ56
      have N56 := Fr.app N48 N56q
      subst hv56
      have pre57 : ∀ t_, Steps p.tables e below (T56.setTop (mkF m 94 #[.val (.long j0), .second, .val (.int k0), .val (.long (((((k0.toUInt32 >>> ((2 : Int32) &&& 31).toUInt32).toInt32) % (12 : Int32)) - (2 : Int32)).toInt64)), .second, .val (.int (k0 &&& (3 : Int32))), .val (.long j0), .second, .val (.ref w_INSTANCE), .val (.ref w_INSTANCE)] [(.int (1 : Int32))])) t_ → Steps p.tables e below (s₁.setTop (entryFrame m #[(.long j0), (.int k0)] maxLocals)) t_ := fun t_ k_ => pre49 t_ (by
        show Steps p.tables e below (T48.setTop (mkF m 74 #[.val (.long j0), .second, .val (.int k0), .val (.long (((((k0.toUInt32 >>> ((2 : Int32) &&& 31).toUInt32).toInt32) % (12 : Int32)) - (2 : Int32)).toInt64)), .second, .val (.int (k0 &&& (3 : Int32))), .val (.long j0), .second, .val (.ref w_INSTANCE), .val (.ref w_INSTANCE)] [])) _
        refine XS.aload X48.here hx rfl (hb hby at_74) rfl rfl ?_
        show Steps p.tables e below (T48.setTop (mkF m 76 #[.val (.long j0), .second, .val (.int k0), .val (.long (((((k0.toUInt32 >>> ((2 : Int32) &&& 31).toUInt32).toInt32) % (12 : Int32)) - (2 : Int32)).toInt64)), .second, .val (.int (k0 &&& (3 : Int32))), .val (.long j0), .second, .val (.ref w_INSTANCE), .val (.ref w_INSTANCE)] [(.ref w_INSTANCE)])) _
        refine XS.ifnullNo X48.here hx rfl (hb hby at_76) rfl ?_
        show Steps p.tables e below (T48.setTop (mkF m 79 #[.val (.long j0), .second, .val (.int k0), .val (.long (((((k0.toUInt32 >>> ((2 : Int32) &&& 31).toUInt32).toInt32) % (12 : Int32)) - (2 : Int32)).toInt64)), .second, .val (.int (k0 &&& (3 : Int32))), .val (.long j0), .second, .val (.ref w_INSTANCE), .val (.ref w_INSTANCE)] [])) _
        refine XS.aload X48.here hx rfl (hb hby at_79) rfl rfl ?_
        show Steps p.tables e below (T48.setTop (mkF m 81 #[.val (.long j0), .second, .val (.int k0), .val (.long (((((k0.toUInt32 >>> ((2 : Int32) &&& 31).toUInt32).toInt32) % (12 : Int32)) - (2 : Int32)).toInt64)), .second, .val (.int (k0 &&& (3 : Int32))), .val (.long j0), .second, .val (.ref w_INSTANCE), .val (.ref w_INSTANCE)] [(.ref w_INSTANCE)])) _
        refine st56.trans ?_
        show Steps p.tables e below (T56.setTop (mkF m 84 #[.val (.long j0), .second, .val (.int k0), .val (.long (((((k0.toUInt32 >>> ((2 : Int32) &&& 31).toUInt32).toInt32) % (12 : Int32)) - (2 : Int32)).toInt64)), .second, .val (.int (k0 &&& (3 : Int32))), .val (.long j0), .second, .val (.ref w_INSTANCE), .val (.ref w_INSTANCE)] [(.int (4 : Int32))])) _
        refine XS.i2l X56.here hx rfl (hb hby at_84) rfl ?_
        show Steps p.tables e below (T56.setTop (mkF m 85 #[.val (.long j0), .second, .val (.int k0), .val (.long (((((k0.toUInt32 >>> ((2 : Int32) &&& 31).toUInt32).toInt32) % (12 : Int32)) - (2 : Int32)).toInt64)), .second, .val (.int (k0 &&& (3 : Int32))), .val (.long j0), .second, .val (.ref w_INSTANCE), .val (.ref w_INSTANCE)] [(.long ((4 : Int32).toInt64))])) _
        refine XS.lload X56.here hx rfl (hb hby at_85) rfl ?_
        show Steps p.tables e below (T56.setTop (mkF m 87 #[.val (.long j0), .second, .val (.int k0), .val (.long (((((k0.toUInt32 >>> ((2 : Int32) &&& 31).toUInt32).toInt32) % (12 : Int32)) - (2 : Int32)).toInt64)), .second, .val (.int (k0 &&& (3 : Int32))), .val (.long j0), .second, .val (.ref w_INSTANCE), .val (.ref w_INSTANCE)] [(.long j0), (.long ((4 : Int32).toInt64))])) _
        refine XS.lcmp X56.here hx rfl (hb hby at_87) rfl ?_
        show Steps p.tables e below (T56.setTop (mkF m 88 #[.val (.long j0), .second, .val (.int k0), .val (.long (((((k0.toUInt32 >>> ((2 : Int32) &&& 31).toUInt32).toInt32) % (12 : Int32)) - (2 : Int32)).toInt64)), .second, .val (.int (k0 &&& (3 : Int32))), .val (.long j0), .second, .val (.ref w_INSTANCE), .val (.ref w_INSTANCE)] [(.int (lcmpW ((4 : Int32).toInt64) j0))])) _
        refine XS.ifYes X56.here hx rfl (pc0 := 88) (pc' := 93) rfl (hb hby at_88) rfl ((if0 _ _).trans (teq ((lw_eq ((4 : Int32).toInt64) j0).mpr (Eq.trans (by decide) ht4.symm))).1) (by decide) (by decide) ?_
        show Steps p.tables e below (T56.setTop (mkF m 93 #[.val (.long j0), .second, .val (.int k0), .val (.long (((((k0.toUInt32 >>> ((2 : Int32) &&& 31).toUInt32).toInt32) % (12 : Int32)) - (2 : Int32)).toInt64)), .second, .val (.int (k0 &&& (3 : Int32))), .val (.long j0), .second, .val (.ref w_INSTANCE), .val (.ref w_INSTANCE)] [])) _
        refine XS.iconst X56.here hx rfl (hb hby at_93) ?_
        show Steps p.tables e below (T56.setTop (mkF m 94 #[.val (.long j0), .second, .val (.int k0), .val (.long (((((k0.toUInt32 >>> ((2 : Int32) &&& 31).toUInt32).toInt32) % (12 : Int32)) - (2 : Int32)).toInt64)), .second, .val (.int (k0 &&& (3 : Int32))), .val (.long j0), .second, .val (.ref w_INSTANCE), .val (.ref w_INSTANCE)] [(.int (1 : Int32))])) _
        exact k_)
      obtain ⟨fs, hr, hrun, hended, hW, hsame⟩ := X56.leave (v := some (.int (1 : Int32))) (fun h => by rw [Bd.returns] at h; cases h)
      refine ⟨_, _, pre57 _ ?_, hrun, hended, _, _, rfl, ?_, ⟨_, rfl⟩, hW, hsame.mono (by decide) (by decide)⟩
      · show Steps p.tables e below (T56.setTop (mkF m 94 #[.val (.long j0), .second, .val (.int k0), .val (.long (((((k0.toUInt32 >>> ((2 : Int32) &&& 31).toUInt32).toInt32) % (12 : Int32)) - (2 : Int32)).toInt64)), .second, .val (.int (k0 &&& (3 : Int32))), .val (.long j0), .second, .val (.ref w_INSTANCE), .val (.ref w_INSTANCE)] [(.int (1 : Int32))])) _
        exact retN X56 hx (t := .boolean) Bd.returns (by simp) (hb hby at_94) hr
      · show Q_0 Z j0 k0 w_STRING w_HASHED_STRING w_CLASS w_INSTANCE w_ROOTS w_OBJECT_ARRAY w_PRIMITIVE_ARRAY w_LEGACY w_BY_TAG cl_BY_TAG h0 n0 _ T56.heap _
        rw [e56]
        exact ⟨rfl, N56⟩
    by_cases ht5 : j0 = (5 : Int64)
    · have hq : (own_of j0 w_STRING w_HASHED_STRING w_CLASS w_INSTANCE w_ROOTS w_OBJECT_ARRAY w_PRIMITIVE_ARRAY w_LEGACY) = .ref w_ROOTS := by rw [own_of, if_neg ht1, if_neg ht2, if_neg ht3, if_neg ht4, if_pos ht5]
      rw [hq] at pre49
      obtain ⟨cq58, kq58, q58a, q58b, q58c⟩ := isOf hZ e48 E_ROOTS
      obtain ⟨v58, _, ⟨T58, L58, k58, n58⟩, -, X58, ⟨Lc58, hQ58, l58, y58, z58⟩, st58⟩ := X48.virtualBack hx (y := (⟨"com/example/heapscribe/heapscribe/Bmd$RecordKind", "tag", "()I"⟩ : MethodName)) (z := (⟨"com/example/heapscribe/heapscribe/Bmd$RecordKind", "tag", "()I"⟩ : MethodName)) hown (mvT hZ (hw _ (List.mem_of_getElem? (i := 14) rfl))) (mvT hZ (hw _ (List.mem_of_getElem? (i := 15) rfl))) (notFace_of_selects (args := #[]) (mvT hZ (hw _ (List.mem_of_getElem? (i := 17) rfl)))) (mvT hZ (hw _ (List.mem_of_getElem? (i := 17) rfl))) (mvT hZ (hw _ (List.mem_of_getElem? (i := 16) rfl))) (by decide) (backOf (W := 0) (rm_3 l Z a0 hw [] w_ROOTS (5 : Int32) h0 n0 Z0 F_ROOTS_tag) hZ (hw _ (List.mem_of_getElem? (i := 18) rfl)) (hw _ (List.mem_of_getElem? (i := 2) rfl)) (by decide) (by decide)) q58a q58c (g := (mkF m 81 #[.val (.long j0), .second, .val (.int k0), .val (.long (((((k0.toUInt32 >>> ((2 : Int32) &&& 31).toUInt32).toInt32) % (12 : Int32)) - (2 : Int32)).toInt64)), .second, .val (.int (k0 &&& (3 : Int32))), .val (.long j0), .second, .val (.ref w_ROOTS), .val (.ref w_ROOTS)] [(.ref w_ROOTS)])) rfl (by rw [hml]; rfl) (Steps.refl _) (argsL := []) (rest := []) (lenOf pd_1 rfl) rfl (by show 2 * 0 + _ ≤ _; exact Nat.le_of_eq rfl) (hb hby at_81) (fun _ _ => ⟨rfl, e48, (by decide : 0 + 0 ≤ _), (by decide : 0 + 0 ≤ _)⟩)
      dsimp only [Pt.U, Pt.locs, Pt.cells, Pt.slots] at X58 l58 y58 z58 st58 hQ58
      subst l58 y58 z58
      obtain ⟨hv58, N58q, e58⟩ := hQ58
      have N58 := Fr.app N48 N58q
      subst hv58
      have pre59 : ∀ t_, Steps p.tables e below (T58.setTop (mkF m 94 #[.val (.long j0), .second, .val (.int k0), .val (.long (((((k0.toUInt32 >>> ((2 : Int32) &&& 31).toUInt32).toInt32) % (12 : Int32)) - (2 : Int32)).toInt64)), .second, .val (.int (k0 &&& (3 : Int32))), .val (.long j0), .second, .val (.ref w_ROOTS), .val (.ref w_ROOTS)] [(.int (1 : Int32))])) t_ → Steps p.tables e below (s₁.setTop (entryFrame m #[(.long j0), (.int k0)] maxLocals)) t_ := fun t_ k_ => pre49 t_ (by
        show Steps p.tables e below (T48.setTop (mkF m 74 #[.val (.long j0), .second, .val (.int k0), .val (.long (((((k0.toUInt32 >>> ((2 : Int32) &&& 31).toUInt32).toInt32) % (12 : Int32)) - (2 : Int32)).toInt64)), .second, .val (.int (k0 &&& (3 : Int32))), .val (.long j0), .second, .val (.ref w_ROOTS), .val (.ref w_ROOTS)] [])) _
        refine XS.aload X48.here hx rfl (hb hby at_74) rfl rfl ?_
        show Steps p.tables e below (T48.setTop (mkF m 76 #[.val (.long j0), .second, .val (.int k0), .val (.long (((((k0.toUInt32 >>> ((2 : Int32) &&& 31).toUInt32).toInt32) % (12 : Int32)) - (2 : Int32)).toInt64)), .second, .val (.int (k0 &&& (3 : Int32))), .val (.long j0), .second, .val (.ref w_ROOTS), .val (.ref w_ROOTS)] [(.ref w_ROOTS)])) _
        refine XS.ifnullNo X48.here hx rfl (hb hby at_76) rfl ?_
        show Steps p.tables e below (T48.setTop (mkF m 79 #[.val (.long j0), .second, .val (.int k0), .val (.long (((((k0.toUInt32 >>> ((2 : Int32) &&& 31).toUInt32).toInt32) % (12 : Int32)) - (2 : Int32)).toInt64)), .second, .val (.int (k0 &&& (3 : Int32))), .val (.long j0), .second, .val (.ref w_ROOTS), .val (.ref w_ROOTS)] [])) _
        refine XS.aload X48.here hx rfl (hb hby at_79) rfl rfl ?_
        show Steps p.tables e below (T48.setTop (mkF m 81 #[.val (.long j0), .second, .val (.int k0), .val (.long (((((k0.toUInt32 >>> ((2 : Int32) &&& 31).toUInt32).toInt32) % (12 : Int32)) - (2 : Int32)).toInt64)), .second, .val (.int (k0 &&& (3 : Int32))), .val (.long j0), .second, .val (.ref w_ROOTS), .val (.ref w_ROOTS)] [(.ref w_ROOTS)])) _
        refine st58.trans ?_
        show Steps p.tables e below (T58.setTop (mkF m 84 #[.val (.long j0), .second, .val (.int k0), .val (.long (((((k0.toUInt32 >>> ((2 : Int32) &&& 31).toUInt32).toInt32) % (12 : Int32)) - (2 : Int32)).toInt64)), .second, .val (.int (k0 &&& (3 : Int32))), .val (.long j0), .second, .val (.ref w_ROOTS), .val (.ref w_ROOTS)] [(.int (5 : Int32))])) _
        refine XS.i2l X58.here hx rfl (hb hby at_84) rfl ?_
        show Steps p.tables e below (T58.setTop (mkF m 85 #[.val (.long j0), .second, .val (.int k0), .val (.long (((((k0.toUInt32 >>> ((2 : Int32) &&& 31).toUInt32).toInt32) % (12 : Int32)) - (2 : Int32)).toInt64)), .second, .val (.int (k0 &&& (3 : Int32))), .val (.long j0), .second, .val (.ref w_ROOTS), .val (.ref w_ROOTS)] [(.long ((5 : Int32).toInt64))])) _
        refine XS.lload X58.here hx rfl (hb hby at_85) rfl ?_
        show Steps p.tables e below (T58.setTop (mkF m 87 #[.val (.long j0), .second, .val (.int k0), .val (.long (((((k0.toUInt32 >>> ((2 : Int32) &&& 31).toUInt32).toInt32) % (12 : Int32)) - (2 : Int32)).toInt64)), .second, .val (.int (k0 &&& (3 : Int32))), .val (.long j0), .second, .val (.ref w_ROOTS), .val (.ref w_ROOTS)] [(.long j0), (.long ((5 : Int32).toInt64))])) _
        refine XS.lcmp X58.here hx rfl (hb hby at_87) rfl ?_
        show Steps p.tables e below (T58.setTop (mkF m 88 #[.val (.long j0), .second, .val (.int k0), .val (.long (((((k0.toUInt32 >>> ((2 : Int32) &&& 31).toUInt32).toInt32) % (12 : Int32)) - (2 : Int32)).toInt64)), .second, .val (.int (k0 &&& (3 : Int32))), .val (.long j0), .second, .val (.ref w_ROOTS), .val (.ref w_ROOTS)] [(.int (lcmpW ((5 : Int32).toInt64) j0))])) _
        refine XS.ifYes X58.here hx rfl (pc0 := 88) (pc' := 93) rfl (hb hby at_88) rfl ((if0 _ _).trans (teq ((lw_eq ((5 : Int32).toInt64) j0).mpr (Eq.trans (by decide) ht5.symm))).1) (by decide) (by decide) ?_
        show Steps p.tables e below (T58.setTop (mkF m 93 #[.val (.long j0), .second, .val (.int k0), .val (.long (((((k0.toUInt32 >>> ((2 : Int32) &&& 31).toUInt32).toInt32) % (12 : Int32)) - (2 : Int32)).toInt64)), .second, .val (.int (k0 &&& (3 : Int32))), .val (.long j0), .second, .val (.ref w_ROOTS), .val (.ref w_ROOTS)] [])) _
        refine XS.iconst X58.here hx rfl (hb hby at_93) ?_
        show Steps p.tables e below (T58.setTop (mkF m 94 #[.val (.long j0), .second, .val (.int k0), .val (.long (((((k0.toUInt32 >>> ((2 : Int32) &&& 31).toUInt32).toInt32) % (12 : Int32)) - (2 : Int32)).toInt64)), .second, .val (.int (k0 &&& (3 : Int32))), .val (.long j0), .second, .val (.ref w_ROOTS), .val (.ref w_ROOTS)] [(.int (1 : Int32))])) _
        exact k_)
      obtain ⟨fs, hr, hrun, hended, hW, hsame⟩ := X58.leave (v := some (.int (1 : Int32))) (fun h => by rw [Bd.returns] at h; cases h)
      refine ⟨_, _, pre59 _ ?_, hrun, hended, _, _, rfl, ?_, ⟨_, rfl⟩, hW, hsame.mono (by decide) (by decide)⟩
      · show Steps p.tables e below (T58.setTop (mkF m 94 #[.val (.long j0), .second, .val (.int k0), .val (.long (((((k0.toUInt32 >>> ((2 : Int32) &&& 31).toUInt32).toInt32) % (12 : Int32)) - (2 : Int32)).toInt64)), .second, .val (.int (k0 &&& (3 : Int32))), .val (.long j0), .second, .val (.ref w_ROOTS), .val (.ref w_ROOTS)] [(.int (1 : Int32))])) _
        exact retN X58 hx (t := .boolean) Bd.returns (by simp) (hb hby at_94) hr
      · show Q_0 Z j0 k0 w_STRING w_HASHED_STRING w_CLASS w_INSTANCE w_ROOTS w_OBJECT_ARRAY w_PRIMITIVE_ARRAY w_LEGACY w_BY_TAG cl_BY_TAG h0 n0 _ T58.heap _
        rw [e58]
        exact ⟨rfl, N58⟩
    by_cases ht6 : j0 = (6 : Int64)
    · have hq : (own_of j0 w_STRING w_HASHED_STRING w_CLASS w_INSTANCE w_ROOTS w_OBJECT_ARRAY w_PRIMITIVE_ARRAY w_LEGACY) = .ref w_OBJECT_ARRAY := by rw [own_of, if_neg ht1, if_neg ht2, if_neg ht3, if_neg ht4, if_neg ht5, if_pos ht6]
      rw [hq] at pre49
      obtain ⟨cq60, kq60, q60a, q60b, q60c⟩ := isOf hZ e48 E_OBJECT_ARRAY
      obtain ⟨v60, _, ⟨T60, L60, k60, n60⟩, -, X60, ⟨Lc60, hQ60, l60, y60, z60⟩, st60⟩ := X48.virtualBack hx (y := (⟨"com/example/heapscribe/heapscribe/Bmd$RecordKind", "tag", "()I"⟩ : MethodName)) (z := (⟨"com/example/heapscribe/heapscribe/Bmd$RecordKind", "tag", "()I"⟩ : MethodName)) hown (mvT hZ (hw _ (List.mem_of_getElem? (i := 14) rfl))) (mvT hZ (hw _ (List.mem_of_getElem? (i := 15) rfl))) (notFace_of_selects (args := #[]) (mvT hZ (hw _ (List.mem_of_getElem? (i := 17) rfl)))) (mvT hZ (hw _ (List.mem_of_getElem? (i := 17) rfl))) (mvT hZ (hw _ (List.mem_of_getElem? (i := 16) rfl))) (by decide) (backOf (W := 0) (rm_3 l Z a0 hw [] w_OBJECT_ARRAY (6 : Int32) h0 n0 Z0 F_OBJECT_ARRAY_tag) hZ (hw _ (List.mem_of_getElem? (i := 18) rfl)) (hw _ (List.mem_of_getElem? (i := 2) rfl)) (by decide) (by decide)) q60a q60c (g := (mkF m 81 #[.val (.long j0), .second, .val (.int k0), .val (.long (((((k0.toUInt32 >>> ((2 : Int32) &&& 31).toUInt32).toInt32) % (12 : Int32)) - (2 : Int32)).toInt64)), .second, .val (.int (k0 &&& (3 : Int32))), .val (.long j0), .second, .val (.ref w_OBJECT_ARRAY), .val (.ref w_OBJECT_ARRAY)] [(.ref w_OBJECT_ARRAY)])) rfl (by rw [hml]; rfl) (Steps.refl _) (argsL := []) (rest := []) (lenOf pd_1 rfl) rfl (by show 2 * 0 + _ ≤ _; exact Nat.le_of_eq rfl) (hb hby at_81) (fun _ _ => ⟨rfl, e48, (by decide : 0 + 0 ≤ _), (by decide : 0 + 0 ≤ _)⟩)
      dsimp only [Pt.U, Pt.locs, Pt.cells, Pt.slots] at X60 l60 y60 z60 st60 hQ60
      subst l60 y60 z60
      obtain ⟨hv60, N60q, e60⟩ := hQ60
      have N60 := Fr.app N48 N60q
      subst hv60
      have pre61 : ∀ t_, Steps p.tables e below (T60.setTop (mkF m 94 #[.val (.long j0), .second, .val (.int k0), .val (.long (((((k0.toUInt32 >>> ((2 : Int32) &&& 31).toUInt32).toInt32) % (12 : Int32)) - (2 : Int32)).toInt64)), .second, .val (.int (k0 &&& (3 : Int32))), .val (.long j0), .second, .val (.ref w_OBJECT_ARRAY), .val (.ref w_OBJECT_ARRAY)] [(.int (1 : Int32))])) t_ → Steps p.tables e below (s₁.setTop (entryFrame m #[(.long j0), (.int k0)] maxLocals)) t_ := fun t_ k_ => pre49 t_ (by
        show Steps p.tables e below (T48.setTop (mkF m 74 #[.val (.long j0), .second, .val (.int k0), .val (.long (((((k0.toUInt32 >>> ((2 : Int32) &&& 31).toUInt32).toInt32) % (12 : Int32)) - (2 : Int32)).toInt64)), .second, .val (.int (k0 &&& (3 : Int32))), .val (.long j0), .second, .val (.ref w_OBJECT_ARRAY), .val (.ref w_OBJECT_ARRAY)] [])) _
        refine XS.aload X48.here hx rfl (hb hby at_74) rfl rfl ?_
        show Steps p.tables e below (T48.setTop (mkF m 76 #[.val (.long j0), .second, .val (.int k0), .val (.long (((((k0.toUInt32 >>> ((2 : Int32) &&& 31).toUInt32).toInt32) % (12 : Int32)) - (2 : Int32)).toInt64)), .second, .val (.int (k0 &&& (3 : Int32))), .val (.long j0), .second, .val (.ref w_OBJECT_ARRAY), .val (.ref w_OBJECT_ARRAY)] [(.ref w_OBJECT_ARRAY)])) _
        refine XS.ifnullNo X48.here hx rfl (hb hby at_76) rfl ?_
        show Steps p.tables e below (T48.setTop (mkF m 79 #[.val (.long j0), .second, .val (.int k0), .val (.long (((((k0.toUInt32 >>> ((2 : Int32) &&& 31).toUInt32).toInt32) % (12 : Int32)) - (2 : Int32)).toInt64)), .second, .val (.int (k0 &&& (3 : Int32))), .val (.long j0), .second, .val (.ref w_OBJECT_ARRAY), .val (.ref w_OBJECT_ARRAY)] [])) _
        refine XS.aload X48.here hx rfl (hb hby at_79) rfl rfl ?_
        show Steps p.tables e below (T48.setTop (mkF m 81 #[.val (.long j0), .second, .val (.int k0), .val (.long (((((k0.toUInt32 >>> ((2 : Int32) &&& 31).toUInt32).toInt32) % (12 : Int32)) - (2 : Int32)).toInt64)), .second, .val (.int (k0 &&& (3 : Int32))), .val (.long j0), .second, .val (.ref w_OBJECT_ARRAY), .val (.ref w_OBJECT_ARRAY)] [(.ref w_OBJECT_ARRAY)])) _
        refine st60.trans ?_
        show Steps p.tables e below (T60.setTop (mkF m 84 #[.val (.long j0), .second, .val (.int k0), .val (.long (((((k0.toUInt32 >>> ((2 : Int32) &&& 31).toUInt32).toInt32) % (12 : Int32)) - (2 : Int32)).toInt64)), .second, .val (.int (k0 &&& (3 : Int32))), .val (.long j0), .second, .val (.ref w_OBJECT_ARRAY), .val (.ref w_OBJECT_ARRAY)] [(.int (6 : Int32))])) _
        refine XS.i2l X60.here hx rfl (hb hby at_84) rfl ?_
        show Steps p.tables e below (T60.setTop (mkF m 85 #[.val (.long j0), .second, .val (.int k0), .val (.long (((((k0.toUInt32 >>> ((2 : Int32) &&& 31).toUInt32).toInt32) % (12 : Int32)) - (2 : Int32)).toInt64)), .second, .val (.int (k0 &&& (3 : Int32))), .val (.long j0), .second, .val (.ref w_OBJECT_ARRAY), .val (.ref w_OBJECT_ARRAY)] [(.long ((6 : Int32).toInt64))])) _
        refine XS.lload X60.here hx rfl (hb hby at_85) rfl ?_
        show Steps p.tables e below (T60.setTop (mkF m 87 #[.val (.long j0), .second, .val (.int k0), .val (.long (((((k0.toUInt32 >>> ((2 : Int32) &&& 31).toUInt32).toInt32) % (12 : Int32)) - (2 : Int32)).toInt64)), .second, .val (.int (k0 &&& (3 : Int32))), .val (.long j0), .second, .val (.ref w_OBJECT_ARRAY), .val (.ref w_OBJECT_ARRAY)] [(.long j0), (.long ((6 : Int32).toInt64))])) _
        refine XS.lcmp X60.here hx rfl (hb hby at_87) rfl ?_
        show Steps p.tables e below (T60.setTop (mkF m 88 #[.val (.long j0), .second, .val (.int k0), .val (.long (((((k0.toUInt32 >>> ((2 : Int32) &&& 31).toUInt32).toInt32) % (12 : Int32)) - (2 : Int32)).toInt64)), .second, .val (.int (k0 &&& (3 : Int32))), .val (.long j0), .second, .val (.ref w_OBJECT_ARRAY), .val (.ref w_OBJECT_ARRAY)] [(.int (lcmpW ((6 : Int32).toInt64) j0))])) _
        refine XS.ifYes X60.here hx rfl (pc0 := 88) (pc' := 93) rfl (hb hby at_88) rfl ((if0 _ _).trans (teq ((lw_eq ((6 : Int32).toInt64) j0).mpr (Eq.trans (by decide) ht6.symm))).1) (by decide) (by decide) ?_
        show Steps p.tables e below (T60.setTop (mkF m 93 #[.val (.long j0), .second, .val (.int k0), .val (.long (((((k0.toUInt32 >>> ((2 : Int32) &&& 31).toUInt32).toInt32) % (12 : Int32)) - (2 : Int32)).toInt64)), .second, .val (.int (k0 &&& (3 : Int32))), .val (.long j0), .second, .val (.ref w_OBJECT_ARRAY), .val (.ref w_OBJECT_ARRAY)] [])) _
        refine XS.iconst X60.here hx rfl (hb hby at_93) ?_
        show Steps p.tables e below (T60.setTop (mkF m 94 #[.val (.long j0), .second, .val (.int k0), .val (.long (((((k0.toUInt32 >>> ((2 : Int32) &&& 31).toUInt32).toInt32) % (12 : Int32)) - (2 : Int32)).toInt64)), .second, .val (.int (k0 &&& (3 : Int32))), .val (.long j0), .second, .val (.ref w_OBJECT_ARRAY), .val (.ref w_OBJECT_ARRAY)] [(.int (1 : Int32))])) _
        exact k_)
      obtain ⟨fs, hr, hrun, hended, hW, hsame⟩ := X60.leave (v := some (.int (1 : Int32))) (fun h => by rw [Bd.returns] at h; cases h)
      refine ⟨_, _, pre61 _ ?_, hrun, hended, _, _, rfl, ?_, ⟨_, rfl⟩, hW, hsame.mono (by decide) (by decide)⟩
      · show Steps p.tables e below (T60.setTop (mkF m 94 #[.val (.long j0), .second, .val (.int k0), .val (.long (((((k0.toUInt32 >>> ((2 : Int32) &&& 31).toUInt32).toInt32) % (12 : Int32)) - (2 : Int32)).toInt64)), .second, .val (.int (k0 &&& (3 : Int32))), .val (.long j0), .second, .val (.ref w_OBJECT_ARRAY), .val (.ref w_OBJECT_ARRAY)] [(.int (1 : Int32))])) _
        exact retN X60 hx (t := .boolean) Bd.returns (by simp) (hb hby at_94) hr
      · show Q_0 Z j0 k0 w_STRING w_HASHED_STRING w_CLASS w_INSTANCE w_ROOTS w_OBJECT_ARRAY w_PRIMITIVE_ARRAY w_LEGACY w_BY_TAG cl_BY_TAG h0 n0 _ T60.heap _
        rw [e60]
        exact ⟨rfl, N60⟩
    by_cases ht7 : j0 = (7 : Int64)
    · have hq : (own_of j0 w_STRING w_HASHED_STRING w_CLASS w_INSTANCE w_ROOTS w_OBJECT_ARRAY w_PRIMITIVE_ARRAY w_LEGACY) = .ref w_PRIMITIVE_ARRAY := by rw [own_of, if_neg ht1, if_neg ht2, if_neg ht3, if_neg ht4, if_neg ht5, if_neg ht6, if_pos ht7]
      rw [hq] at pre49
      obtain ⟨cq62, kq62, q62a, q62b, q62c⟩ := isOf hZ e48 E_PRIMITIVE_ARRAY
      obtain ⟨v62, _, ⟨T62, L62, k62, n62⟩, -, X62, ⟨Lc62, hQ62, l62, y62, z62⟩, st62⟩ := X48.virtualBack hx (y := (⟨"com/example/heapscribe/heapscribe/Bmd$RecordKind", "tag", "()I"⟩ : MethodName)) (z := (⟨"com/example/heapscribe/heapscribe/Bmd$RecordKind", "tag", "()I"⟩ : MethodName)) hown (mvT hZ (hw _ (List.mem_of_getElem? (i := 14) rfl))) (mvT hZ (hw _ (List.mem_of_getElem? (i := 15) rfl))) (notFace_of_selects (args := #[]) (mvT hZ (hw _ (List.mem_of_getElem? (i := 17) rfl)))) (mvT hZ (hw _ (List.mem_of_getElem? (i := 17) rfl))) (mvT hZ (hw _ (List.mem_of_getElem? (i := 16) rfl))) (by decide) (backOf (W := 0) (rm_3 l Z a0 hw [] w_PRIMITIVE_ARRAY (7 : Int32) h0 n0 Z0 F_PRIMITIVE_ARRAY_tag) hZ (hw _ (List.mem_of_getElem? (i := 18) rfl)) (hw _ (List.mem_of_getElem? (i := 2) rfl)) (by decide) (by decide)) q62a q62c (g := (mkF m 81 #[.val (.long j0), .second, .val (.int k0), .val (.long (((((k0.toUInt32 >>> ((2 : Int32) &&& 31).toUInt32).toInt32) % (12 : Int32)) - (2 : Int32)).toInt64)), .second, .val (.int (k0 &&& (3 : Int32))), .val (.long j0), .second, .val (.ref w_PRIMITIVE_ARRAY), .val (.ref w_PRIMITIVE_ARRAY)] [(.ref w_PRIMITIVE_ARRAY)])) rfl (by rw [hml]; rfl) (Steps.refl _) (argsL := []) (rest := []) (lenOf pd_1 rfl) rfl (by show 2 * 0 + _ ≤ _; exact Nat.le_of_eq rfl) (hb hby at_81) (fun _ _ => ⟨rfl, e48, (by decide : 0 + 0 ≤ _), (by decide : 0 + 0 ≤ _)⟩)
      dsimp only [Pt.U, Pt.locs, Pt.cells, Pt.slots] at X62 l62 y62 z62 st62 hQ62
      subst l62 y62 z62
      obtain ⟨hv62, N62q, e62⟩ := hQ62
      have N62 := Fr.app N48 N62q
      subst hv62
      have pre63 : ∀ t_, Steps p.tables e below (T62.setTop (mkF m 94 #[.val (.long j0), .second, .val (.int k0), .val (.long (((((k0.toUInt32 >>> ((2 : Int32) &&& 31).toUInt32).toInt32) % (12 : Int32)) - (2 : Int32)).toInt64)), .second, .val (.int (k0 &&& (3 : Int32))), .val (.long j0), .second, .val (.ref w_PRIMITIVE_ARRAY), .val (.ref w_PRIMITIVE_ARRAY)] [(.int (1 : Int32))])) t_ → Steps p.tables e below (s₁.setTop (entryFrame m #[(.long j0), (.int k0)] maxLocals)) t_ := fun t_ k_ => pre49 t_ (by
        show Steps p.tables e below (T48.setTop (mkF m 74 #[.val (.long j0), .second, .val (.int k0), .val (.long (((((k0.toUInt32 >>> ((2 : Int32) &&& 31).toUInt32).toInt32) % (12 : Int32)) - (2 : Int32)).toInt64)), .second, .val (.int (k0 &&& (3 : Int32))), .val (.long j0), .second, .val (.ref w_PRIMITIVE_ARRAY), .val (.ref w_PRIMITIVE_ARRAY)] [])) _
        refine XS.aload X48.here hx rfl (hb hby at_74) rfl rfl ?_
        show Steps p.tables e below (T48.setTop (mkF m 76 #[.val (.long j0), .second, .val (.int k0), .val (.long (((((k0.toUInt32 >>> ((2 : Int32) &&& 31).toUInt32).toInt32) % (12 : Int32)) - (2 : Int32)).toInt64)), .second, .val (.int (k0 &&& (3 : Int32))), .val (.long j0), .second, .val (.ref w_PRIMITIVE_ARRAY), .val (.ref w_PRIMITIVE_ARRAY)] [(.ref w_PRIMITIVE_ARRAY)])) _
        refine XS.ifnullNo X48.here hx rfl (hb hby at_76) rfl ?_
        show Steps p.tables e below (T48.setTop (mkF m 79 #[.val (.long j0), .second, .val (.int k0), .val (.long (((((k0.toUInt32 >>> ((2 : Int32) &&& 31).toUInt32).toInt32) % (12 : Int32)) - (2 : Int32)).toInt64)), .second, .val (.int (k0 &&& (3 : Int32))), .val (.long j0), .second, .val (.ref w_PRIMITIVE_ARRAY), .val (.ref w_PRIMITIVE_ARRAY)] [])) _
        refine XS.aload X48.here hx rfl (hb hby at_79) rfl rfl ?_
        show Steps p.tables e below (T48.setTop (mkF m 81 #[.val (.long j0), .second, .val (.int k0), .val (.long (((((k0.toUInt32 >>> ((2 : Int32) &&& 31).toUInt32).toInt32) % (12 : Int32)) - (2 : Int32)).toInt64)), .second, .val (.int (k0 &&& (3 : Int32))), .val (.long j0), .second, .val (.ref w_PRIMITIVE_ARRAY), .val (.ref w_PRIMITIVE_ARRAY)] [(.ref w_PRIMITIVE_ARRAY)])) _
        refine st62.trans ?_
        show Steps p.tables e below (T62.setTop (mkF m 84 #[.val (.long j0), .second, .val (.int k0), .val (.long (((((k0.toUInt32 >>> ((2 : Int32) &&& 31).toUInt32).toInt32) % (12 : Int32)) - (2 : Int32)).toInt64)), .second, .val (.int (k0 &&& (3 : Int32))), .val (.long j0), .second, .val (.ref w_PRIMITIVE_ARRAY), .val (.ref w_PRIMITIVE_ARRAY)] [(.int (7 : Int32))])) _
        refine XS.i2l X62.here hx rfl (hb hby at_84) rfl ?_
        show Steps p.tables e below (T62.setTop (mkF m 85 #[.val (.long j0), .second, .val (.int k0), .val (.long (((((k0.toUInt32 >>> ((2 : Int32) &&& 31).toUInt32).toInt32) % (12 : Int32)) - (2 : Int32)).toInt64)), .second, .val (.int (k0 &&& (3 : Int32))), .val (.long j0), .second, .val (.ref w_PRIMITIVE_ARRAY), .val (.ref w_PRIMITIVE_ARRAY)] [(.long ((7 : Int32).toInt64))])) _
        refine XS.lload X62.here hx rfl (hb hby at_85) rfl ?_
        show Steps p.tables e below (T62.setTop (mkF m 87 #[.val (.long j0), .second, .val (.int k0), .val (.long (((((k0.toUInt32 >>> ((2 : Int32) &&& 31).toUInt32).toInt32) % (12 : Int32)) - (2 : Int32)).toInt64)), .second, .val (.int (k0 &&& (3 : Int32))), .val (.long j0), .second, .val (.ref w_PRIMITIVE_ARRAY), .val (.ref w_PRIMITIVE_ARRAY)] [(.long j0), (.long ((7 : Int32).toInt64))])) _
        refine XS.lcmp X62.here hx rfl (hb hby at_87) rfl ?_
        show Steps p.tables e below (T62.setTop (mkF m 88 #[.val (.long j0), .second, .val (.int k0), .val (.long (((((k0.toUInt32 >>> ((2 : Int32) &&& 31).toUInt32).toInt32) % (12 : Int32)) - (2 : Int32)).toInt64)), .second, .val (.int (k0 &&& (3 : Int32))), .val (.long j0), .second, .val (.ref w_PRIMITIVE_ARRAY), .val (.ref w_PRIMITIVE_ARRAY)] [(.int (lcmpW ((7 : Int32).toInt64) j0))])) _
        refine XS.ifYes X62.here hx rfl (pc0 := 88) (pc' := 93) rfl (hb hby at_88) rfl ((if0 _ _).trans (teq ((lw_eq ((7 : Int32).toInt64) j0).mpr (Eq.trans (by decide) ht7.symm))).1) (by decide) (by decide) ?_
        show Steps p.tables e below (T62.setTop (mkF m 93 #[.val (.long j0), .second, .val (.int k0), .val (.long (((((k0.toUInt32 >>> ((2 : Int32) &&& 31).toUInt32).toInt32) % (12 : Int32)) - (2 : Int32)).toInt64)), .second, .val (.int (k0 &&& (3 : Int32))), .val (.long j0), .second, .val (.ref w_PRIMITIVE_ARRAY), .val (.ref w_PRIMITIVE_ARRAY)] [])) _
        refine XS.iconst X62.here hx rfl (hb hby at_93) ?_
        show Steps p.tables e below (T62.setTop (mkF m 94 #[.val (.long j0), .second, .val (.int k0), .val (.long (((((k0.toUInt32 >>> ((2 : Int32) &&& 31).toUInt32).toInt32) % (12 : Int32)) - (2 : Int32)).toInt64)), .second, .val (.int (k0 &&& (3 : Int32))), .val (.long j0), .second, .val (.ref w_PRIMITIVE_ARRAY), .val (.ref w_PRIMITIVE_ARRAY)] [(.int (1 : Int32))])) _
        exact k_)
      obtain ⟨fs, hr, hrun, hended, hW, hsame⟩ := X62.leave (v := some (.int (1 : Int32))) (fun h => by rw [Bd.returns] at h; cases h)
      refine ⟨_, _, pre63 _ ?_, hrun, hended, _, _, rfl, ?_, ⟨_, rfl⟩, hW, hsame.mono (by decide) (by decide)⟩
      · show Steps p.tables e below (T62.setTop (mkF m 94 #[.val (.long j0), .second, .val (.int k0), .val (.long (((((k0.toUInt32 >>> ((2 : Int32) &&& 31).toUInt32).toInt32) % (12 : Int32)) - (2 : Int32)).toInt64)), .second, .val (.int (k0 &&& (3 : Int32))), .val (.long j0), .second, .val (.ref w_PRIMITIVE_ARRAY), .val (.ref w_PRIMITIVE_ARRAY)] [(.int (1 : Int32))])) _
        exact retN X62 hx (t := .boolean) Bd.returns (by simp) (hb hby at_94) hr
      · show Q_0 Z j0 k0 w_STRING w_HASHED_STRING w_CLASS w_INSTANCE w_ROOTS w_OBJECT_ARRAY w_PRIMITIVE_ARRAY w_LEGACY w_BY_TAG cl_BY_TAG h0 n0 _ T62.heap _
        rw [e62]
        exact ⟨rfl, N62⟩
    by_cases ht8 : j0 = (8 : Int64)
    · have hq : (own_of j0 w_STRING w_HASHED_STRING w_CLASS w_INSTANCE w_ROOTS w_OBJECT_ARRAY w_PRIMITIVE_ARRAY w_LEGACY) = .ref w_LEGACY := by rw [own_of, if_neg ht1, if_neg ht2, if_neg ht3, if_neg ht4, if_neg ht5, if_neg ht6, if_neg ht7, if_pos ht8]
      rw [hq] at pre49
      obtain ⟨cq64, kq64, q64a, q64b, q64c⟩ := isOf hZ e48 E_LEGACY
      obtain ⟨v64, _, ⟨T64, L64, k64, n64⟩, -, X64, ⟨Lc64, hQ64, l64, y64, z64⟩, st64⟩ := X48.virtualBack hx (y := (⟨"com/example/heapscribe/heapscribe/Bmd$RecordKind", "tag", "()I"⟩ : MethodName)) (z := (⟨"com/example/heapscribe/heapscribe/Bmd$RecordKind", "tag", "()I"⟩ : MethodName)) hown (mvT hZ (hw _ (List.mem_of_getElem? (i := 14) rfl))) (mvT hZ (hw _ (List.mem_of_getElem? (i := 15) rfl))) (notFace_of_selects (args := #[]) (mvT hZ (hw _ (List.mem_of_getElem? (i := 17) rfl)))) (mvT hZ (hw _ (List.mem_of_getElem? (i := 17) rfl))) (mvT hZ (hw _ (List.mem_of_getElem? (i := 16) rfl))) (by decide) (backOf (W := 0) (rm_3 l Z a0 hw [] w_LEGACY (8 : Int32) h0 n0 Z0 F_LEGACY_tag) hZ (hw _ (List.mem_of_getElem? (i := 18) rfl)) (hw _ (List.mem_of_getElem? (i := 2) rfl)) (by decide) (by decide)) q64a q64c (g := (mkF m 81 #[.val (.long j0), .second, .val (.int k0), .val (.long (((((k0.toUInt32 >>> ((2 : Int32) &&& 31).toUInt32).toInt32) % (12 : Int32)) - (2 : Int32)).toInt64)), .second, .val (.int (k0 &&& (3 : Int32))), .val (.long j0), .second, .val (.ref w_LEGACY), .val (.ref w_LEGACY)] [(.ref w_LEGACY)])) rfl (by rw [hml]; rfl) (Steps.refl _) (argsL := []) (rest := []) (lenOf pd_1 rfl) rfl (by show 2 * 0 + _ ≤ _; exact Nat.le_of_eq rfl) (hb hby at_81) (fun _ _ => ⟨rfl, e48, (by decide : 0 + 0 ≤ _), (by decide : 0 + 0 ≤ _)⟩)
      dsimp only [Pt.U, Pt.locs, Pt.cells, Pt.slots] at X64 l64 y64 z64 st64 hQ64
      subst l64 y64 z64
      obtain ⟨hv64, N64q, e64⟩ := hQ64
      have N64 := Fr.app N48 N64q
      subst hv64
      have pre65 : ∀ t_, Steps p.tables e below (T64.setTop (mkF m 94 #[.val (.long j0), .second, .val (.int k0), .val (.long (((((k0.toUInt32 >>> ((2 : Int32) &&& 31).toUInt32).toInt32) % (12 : Int32)) - (2 : Int32)).toInt64)), .second, .val (.int (k0 &&& (3 : Int32))), .val (.long j0), .second, .val (.ref w_LEGACY), .val (.ref w_LEGACY)] [(.int (1 : Int32))])) t_ → Steps p.tables e below (s₁.setTop (entryFrame m #[(.long j0), (.int k0)] maxLocals)) t_ := fun t_ k_ => pre49 t_ (by
        show Steps p.tables e below (T48.setTop (mkF m 74 #[.val (.long j0), .second, .val (.int k0), .val (.long (((((k0.toUInt32 >>> ((2 : Int32) &&& 31).toUInt32).toInt32) % (12 : Int32)) - (2 : Int32)).toInt64)), .second, .val (.int (k0 &&& (3 : Int32))), .val (.long j0), .second, .val (.ref w_LEGACY), .val (.ref w_LEGACY)] [])) _
        refine XS.aload X48.here hx rfl (hb hby at_74) rfl rfl ?_
        show Steps p.tables e below (T48.setTop (mkF m 76 #[.val (.long j0), .second, .val (.int k0), .val (.long (((((k0.toUInt32 >>> ((2 : Int32) &&& 31).toUInt32).toInt32) % (12 : Int32)) - (2 : Int32)).toInt64)), .second, .val (.int (k0 &&& (3 : Int32))), .val (.long j0), .second, .val (.ref w_LEGACY), .val (.ref w_LEGACY)] [(.ref w_LEGACY)])) _
        refine XS.ifnullNo X48.here hx rfl (hb hby at_76) rfl ?_
        show Steps p.tables e below (T48.setTop (mkF m 79 #[.val (.long j0), .second, .val (.int k0), .val (.long (((((k0.toUInt32 >>> ((2 : Int32) &&& 31).toUInt32).toInt32) % (12 : Int32)) - (2 : Int32)).toInt64)), .second, .val (.int (k0 &&& (3 : Int32))), .val (.long j0), .second, .val (.ref w_LEGACY), .val (.ref w_LEGACY)] [])) _
        refine XS.aload X48.here hx rfl (hb hby at_79) rfl rfl ?_
        show Steps p.tables e below (T48.setTop (mkF m 81 #[.val (.long j0), .second, .val (.int k0), .val (.long (((((k0.toUInt32 >>> ((2 : Int32) &&& 31).toUInt32).toInt32) % (12 : Int32)) - (2 : Int32)).toInt64)), .second, .val (.int (k0 &&& (3 : Int32))), .val (.long j0), .second, .val (.ref w_LEGACY), .val (.ref w_LEGACY)] [(.ref w_LEGACY)])) _
        refine st64.trans ?_
        show Steps p.tables e below (T64.setTop (mkF m 84 #[.val (.long j0), .second, .val (.int k0), .val (.long (((((k0.toUInt32 >>> ((2 : Int32) &&& 31).toUInt32).toInt32) % (12 : Int32)) - (2 : Int32)).toInt64)), .second, .val (.int (k0 &&& (3 : Int32))), .val (.long j0), .second, .val (.ref w_LEGACY), .val (.ref w_LEGACY)] [(.int (8 : Int32))])) _
        refine XS.i2l X64.here hx rfl (hb hby at_84) rfl ?_
        show Steps p.tables e below (T64.setTop (mkF m 85 #[.val (.long j0), .second, .val (.int k0), .val (.long (((((k0.toUInt32 >>> ((2 : Int32) &&& 31).toUInt32).toInt32) % (12 : Int32)) - (2 : Int32)).toInt64)), .second, .val (.int (k0 &&& (3 : Int32))), .val (.long j0), .second, .val (.ref w_LEGACY), .val (.ref w_LEGACY)] [(.long ((8 : Int32).toInt64))])) _
        refine XS.lload X64.here hx rfl (hb hby at_85) rfl ?_
        show Steps p.tables e below (T64.setTop (mkF m 87 #[.val (.long j0), .second, .val (.int k0), .val (.long (((((k0.toUInt32 >>> ((2 : Int32) &&& 31).toUInt32).toInt32) % (12 : Int32)) - (2 : Int32)).toInt64)), .second, .val (.int (k0 &&& (3 : Int32))), .val (.long j0), .second, .val (.ref w_LEGACY), .val (.ref w_LEGACY)] [(.long j0), (.long ((8 : Int32).toInt64))])) _
        refine XS.lcmp X64.here hx rfl (hb hby at_87) rfl ?_
        show Steps p.tables e below (T64.setTop (mkF m 88 #[.val (.long j0), .second, .val (.int k0), .val (.long (((((k0.toUInt32 >>> ((2 : Int32) &&& 31).toUInt32).toInt32) % (12 : Int32)) - (2 : Int32)).toInt64)), .second, .val (.int (k0 &&& (3 : Int32))), .val (.long j0), .second, .val (.ref w_LEGACY), .val (.ref w_LEGACY)] [(.int (lcmpW ((8 : Int32).toInt64) j0))])) _
        refine XS.ifYes X64.here hx rfl (pc0 := 88) (pc' := 93) rfl (hb hby at_88) rfl ((if0 _ _).trans (teq ((lw_eq ((8 : Int32).toInt64) j0).mpr (Eq.trans (by decide) ht8.symm))).1) (by decide) (by decide) ?_
        show Steps p.tables e below (T64.setTop (mkF m 93 #[.val (.long j0), .second, .val (.int k0), .val (.long (((((k0.toUInt32 >>> ((2 : Int32) &&& 31).toUInt32).toInt32) % (12 : Int32)) - (2 : Int32)).toInt64)), .second, .val (.int (k0 &&& (3 : Int32))), .val (.long j0), .second, .val (.ref w_LEGACY), .val (.ref w_LEGACY)] [])) _
        refine XS.iconst X64.here hx rfl (hb hby at_93) ?_
        show Steps p.tables e below (T64.setTop (mkF m 94 #[.val (.long j0), .second, .val (.int k0), .val (.long (((((k0.toUInt32 >>> ((2 : Int32) &&& 31).toUInt32).toInt32) % (12 : Int32)) - (2 : Int32)).toInt64)), .second, .val (.int (k0 &&& (3 : Int32))), .val (.long j0), .second, .val (.ref w_LEGACY), .val (.ref w_LEGACY)] [(.int (1 : Int32))])) _
        exact k_)
      obtain ⟨fs, hr, hrun, hended, hW, hsame⟩ := X64.leave (v := some (.int (1 : Int32))) (fun h => by rw [Bd.returns] at h; cases h)
      refine ⟨_, _, pre65 _ ?_, hrun, hended, _, _, rfl, ?_, ⟨_, rfl⟩, hW, hsame.mono (by decide) (by decide)⟩
      · show Steps p.tables e below (T64.setTop (mkF m 94 #[.val (.long j0), .second, .val (.int k0), .val (.long (((((k0.toUInt32 >>> ((2 : Int32) &&& 31).toUInt32).toInt32) % (12 : Int32)) - (2 : Int32)).toInt64)), .second, .val (.int (k0 &&& (3 : Int32))), .val (.long j0), .second, .val (.ref w_LEGACY), .val (.ref w_LEGACY)] [(.int (1 : Int32))])) _
        exact retN X64 hx (t := .boolean) Bd.returns (by simp) (hb hby at_94) hr
      · show Q_0 Z j0 k0 w_STRING w_HASHED_STRING w_CLASS w_INSTANCE w_ROOTS w_OBJECT_ARRAY w_PRIMITIVE_ARRAY w_LEGACY w_BY_TAG cl_BY_TAG h0 n0 _ T64.heap _
        rw [e64]
        exact ⟨rfl, N64⟩
    have hq : (own_of j0 w_STRING w_HASHED_STRING w_CLASS w_INSTANCE w_ROOTS w_OBJECT_ARRAY w_PRIMITIVE_ARRAY w_LEGACY) = .null := by rw [own_of, if_neg ht1, if_neg ht2, if_neg ht3, if_neg ht4, if_neg ht5, if_neg ht6, if_neg ht7, if_neg ht8]
    rw [hq] at pre49
    have pre66 : ∀ t_, Steps p.tables e below (T48.setTop (mkF m 94 #[.val (.long j0), .second, .val (.int k0), .val (.long (((((k0.toUInt32 >>> ((2 : Int32) &&& 31).toUInt32).toInt32) % (12 : Int32)) - (2 : Int32)).toInt64)), .second, .val (.int (k0 &&& (3 : Int32))), .val (.long j0), .second, .val .null, .val .null] [(.int (1 : Int32))])) t_ → Steps p.tables e below (s₁.setTop (entryFrame m #[(.long j0), (.int k0)] maxLocals)) t_ := fun t_ k_ => pre49 t_ (by
      show Steps p.tables e below (T48.setTop (mkF m 74 #[.val (.long j0), .second, .val (.int k0), .val (.long (((((k0.toUInt32 >>> ((2 : Int32) &&& 31).toUInt32).toInt32) % (12 : Int32)) - (2 : Int32)).toInt64)), .second, .val (.int (k0 &&& (3 : Int32))), .val (.long j0), .second, .val .null, .val .null] [])) _
      refine XS.aload X48.here hx rfl (hb hby at_74) rfl rfl ?_
      show Steps p.tables e below (T48.setTop (mkF m 76 #[.val (.long j0), .second, .val (.int k0), .val (.long (((((k0.toUInt32 >>> ((2 : Int32) &&& 31).toUInt32).toInt32) % (12 : Int32)) - (2 : Int32)).toInt64)), .second, .val (.int (k0 &&& (3 : Int32))), .val (.long j0), .second, .val .null, .val .null] [.null])) _
      refine XS.ifnullYes X48.here hx rfl (pc0 := 76) (pc' := 93) rfl (hb hby at_76) rfl (by decide) (by decide) ?_
      show Steps p.tables e below (T48.setTop (mkF m 93 #[.val (.long j0), .second, .val (.int k0), .val (.long (((((k0.toUInt32 >>> ((2 : Int32) &&& 31).toUInt32).toInt32) % (12 : Int32)) - (2 : Int32)).toInt64)), .second, .val (.int (k0 &&& (3 : Int32))), .val (.long j0), .second, .val .null, .val .null] [])) _
      refine XS.iconst X48.here hx rfl (hb hby at_93) ?_
      show Steps p.tables e below (T48.setTop (mkF m 94 #[.val (.long j0), .second, .val (.int k0), .val (.long (((((k0.toUInt32 >>> ((2 : Int32) &&& 31).toUInt32).toInt32) % (12 : Int32)) - (2 : Int32)).toInt64)), .second, .val (.int (k0 &&& (3 : Int32))), .val (.long j0), .second, .val .null, .val .null] [(.int (1 : Int32))])) _
      exact k_)
    obtain ⟨fs, hr, hrun, hended, hW, hsame⟩ := X48.leave (v := some (.int (1 : Int32))) (fun h => by rw [Bd.returns] at h; cases h)
    refine ⟨_, _, pre66 _ ?_, hrun, hended, _, _, rfl, ?_, ⟨_, rfl⟩, hW, hsame.mono (by decide) (by decide)⟩
    · show Steps p.tables e below (T48.setTop (mkF m 94 #[.val (.long j0), .second, .val (.int k0), .val (.long (((((k0.toUInt32 >>> ((2 : Int32) &&& 31).toUInt32).toInt32) % (12 : Int32)) - (2 : Int32)).toInt64)), .second, .val (.int (k0 &&& (3 : Int32))), .val (.long j0), .second, .val .null, .val .null] [(.int (1 : Int32))])) _
      exact retN X48 hx (t := .boolean) Bd.returns (by simp) (hb hby at_94) hr
    · show Q_0 Z j0 k0 w_STRING w_HASHED_STRING w_CLASS w_INSTANCE w_ROOTS w_OBJECT_ARRAY w_PRIMITIVE_ARRAY w_LEGACY w_BY_TAG cl_BY_TAG h0 n0 _ T48.heap _
      rw [e48]
      exact ⟨rfl, N48⟩
  · have pre67 : ∀ t_, Steps p.tables e below (s₁.setTop (mkF m 30 #[.val (.long j0), .second, .val (.int k0), .val (.long (((((k0.toUInt32 >>> ((2 : Int32) &&& 31).toUInt32).toInt32) % (12 : Int32)) - (2 : Int32)).toInt64)), .second, .val (.int (k0 &&& (3 : Int32))), .unset, .unset, .unset, .unset] [(.int (3 : Int32)), (.int (k0 &&& (3 : Int32)))])) t_ → Steps p.tables e below (s₁.setTop (entryFrame m #[(.long j0), (.int k0)] maxLocals)) t_ := fun t_ k_ => pre45 t_ (by
      show Steps p.tables e below (s₁.setTop (mkF m 18 #[.val (.long j0), .second, .val (.int k0), .val (.long (((((k0.toUInt32 >>> ((2 : Int32) &&& 31).toUInt32).toInt32) % (12 : Int32)) - (2 : Int32)).toInt64)), .second, .val (.int (k0 &&& (3 : Int32))), .unset, .unset, .unset, .unset] [(.int (2 : Int32)), (.int (k0 &&& (3 : Int32)))])) _
      refine XS.icmpYes X0.here hx rfl (pc0 := 18) (pc' := 27) rfl (hb hby at_18) rfl (feq hc18_46).2 (by decide) (by decide) ?_
      show Steps p.tables e below (s₁.setTop (mkF m 27 #[.val (.long j0), .second, .val (.int k0), .val (.long (((((k0.toUInt32 >>> ((2 : Int32) &&& 31).toUInt32).toInt32) % (12 : Int32)) - (2 : Int32)).toInt64)), .second, .val (.int (k0 &&& (3 : Int32))), .unset, .unset, .unset, .unset] [])) _
      refine XS.iload X0.here hx rfl (hb hby at_27) rfl ?_
      show Steps p.tables e below (s₁.setTop (mkF m 29 #[.val (.long j0), .second, .val (.int k0), .val (.long (((((k0.toUInt32 >>> ((2 : Int32) &&& 31).toUInt32).toInt32) % (12 : Int32)) - (2 : Int32)).toInt64)), .second, .val (.int (k0 &&& (3 : Int32))), .unset, .unset, .unset, .unset] [(.int (k0 &&& (3 : Int32)))])) _
      refine XS.iconst X0.here hx rfl (hb hby at_29) ?_
      show Steps p.tables e below (s₁.setTop (mkF m 30 #[.val (.long j0), .second, .val (.int k0), .val (.long (((((k0.toUInt32 >>> ((2 : Int32) &&& 31).toUInt32).toInt32) % (12 : Int32)) - (2 : Int32)).toInt64)), .second, .val (.int (k0 &&& (3 : Int32))), .unset, .unset, .unset, .unset] [(.int (3 : Int32)), (.int (k0 &&& (3 : Int32)))])) _
      exact k_)
    by_cases hc30_68 : (k0 &&& (3 : Int32)) = (3 : Int32)
    · obtain ⟨v69, _, ⟨T69, L69, k69, n69⟩, -, X69, ⟨Lc69, hQ69, l69, y69, z69⟩, st69⟩ := Jvm.LawKit.callS X0 hx (y := (⟨"com/example/heapscribe/heapscribe/Bmd$RecordKind", "of", "(J)Lcom/example/heapscribe/heapscribe/Bmd$RecordKind;"⟩ : MethodName)) hown (mvT hZ (hw _ (List.mem_of_getElem? (i := 0) rfl))) (mvT hZ (hw _ (List.mem_of_getElem? (i := 1) rfl))) (mvT hZ (hw _ (List.mem_of_getElem? (i := 2) rfl))) (mvT hZ (hw _ (List.mem_of_getElem? (i := 3) rfl))) (by decide) (backOf (W := 0) (rm_1 l Z a0 hw [] ((j0 <<< ((32 : Int32) &&& 0x3f).toInt64) ||| ((((((k0.toUInt32 >>> ((2 : Int32) &&& 31).toUInt32).toInt32) % (12 : Int32)) - (2 : Int32)).toInt64) &&& (4294967295 : Int64))) w_STRING w_HASHED_STRING w_CLASS w_INSTANCE w_ROOTS w_OBJECT_ARRAY w_PRIMITIVE_ARRAY w_LEGACY w_BY_TAG cl_BY_TAG h0 n0 Z0 S_BY_TAG Ar_BY_TAG Z_BY_TAG hat) hZ (hw _ (List.mem_of_getElem? (i := 3) rfl)) (hw _ (List.mem_of_getElem? (i := 2) rfl)) (by decide) (by decide)) (g := (mkF m 53 #[.val (.long j0), .second, .val (.int k0), .val (.long (((((k0.toUInt32 >>> ((2 : Int32) &&& 31).toUInt32).toInt32) % (12 : Int32)) - (2 : Int32)).toInt64)), .second, .val (.int (k0 &&& (3 : Int32))), .val (.long ((j0 <<< ((32 : Int32) &&& 0x3f).toInt64) ||| ((((((k0.toUInt32 >>> ((2 : Int32) &&& 31).toUInt32).toInt32) % (12 : Int32)) - (2 : Int32)).toInt64) &&& (4294967295 : Int64)))), .second, .unset, .unset] [(.long ((j0 <<< ((32 : Int32) &&& 0x3f).toInt64) ||| ((((((k0.toUInt32 >>> ((2 : Int32) &&& 31).toUInt32).toInt32) % (12 : Int32)) - (2 : Int32)).toInt64) &&& (4294967295 : Int64))))])) rfl (by rw [hml]; rfl) (argsL := [(.long ((j0 <<< ((32 : Int32) &&& 0x3f).toInt64) ||| ((((((k0.toUInt32 >>> ((2 : Int32) &&& 31).toUInt32).toInt32) % (12 : Int32)) - (2 : Int32)).toInt64) &&& (4294967295 : Int64))))]) (rest := []) (lenOf pd_0 rfl) rfl (by show 2 * 0 + _ ≤ _; exact Nat.le_of_eq rfl) (hb hby at_53) (fun _ _ => ⟨rfl, e0, (by decide : 0 + 0 ≤ _), (by decide : 0 + 0 ≤ _)⟩)
      dsimp only [Pt.U, Pt.locs, Pt.cells, Pt.slots] at X69 l69 y69 z69 st69 hQ69
      subst l69 y69 z69
      obtain ⟨hv69, N69q, e69⟩ := hQ69
      have N69 := Fr.app N0 N69q
      subst hv69
      obtain ⟨v70, _, ⟨T70, L70, k70, n70⟩, -, X70, ⟨Lc70, hQ70, l70, y70, z70⟩, st70⟩ := Jvm.LawKit.callS X69 hx (y := (⟨"com/example/heapscribe/heapscribe/RecordKindOfPinLaw", "expected", "(J)Lcom/example/heapscribe/heapscribe/Bmd$RecordKind;"⟩ : MethodName)) hown (mvT hZ (hw _ (List.mem_of_getElem? (i := 7) rfl))) (mvT hZ (hw _ (List.mem_of_getElem? (i := 8) rfl))) (mvT hZ (hw _ (List.mem_of_getElem? (i := 9) rfl))) (mvT hZ (hw _ (List.mem_of_getElem? (i := 10) rfl))) (by decide) (backOf (W := 0) (rm_2 l Z a0 hw [] ((j0 <<< ((32 : Int32) &&& 0x3f).toInt64) ||| ((((((k0.toUInt32 >>> ((2 : Int32) &&& 31).toUInt32).toInt32) % (12 : Int32)) - (2 : Int32)).toInt64) &&& (4294967295 : Int64))) w_STRING w_HASHED_STRING w_CLASS w_INSTANCE w_ROOTS w_OBJECT_ARRAY w_PRIMITIVE_ARRAY w_LEGACY h0 n0 Z0 S_STRING S_HASHED_STRING S_CLASS S_INSTANCE S_ROOTS S_OBJECT_ARRAY S_PRIMITIVE_ARRAY S_LEGACY) hZ (hw _ (List.mem_of_getElem? (i := 10) rfl)) (hw _ (List.mem_of_getElem? (i := 9) rfl)) (by decide) (by decide)) (g := (mkF m 60 #[.val (.long j0), .second, .val (.int k0), .val (.long (((((k0.toUInt32 >>> ((2 : Int32) &&& 31).toUInt32).toInt32) % (12 : Int32)) - (2 : Int32)).toInt64)), .second, .val (.int (k0 &&& (3 : Int32))), .val (.long ((j0 <<< ((32 : Int32) &&& 0x3f).toInt64) ||| ((((((k0.toUInt32 >>> ((2 : Int32) &&& 31).toUInt32).toInt32) % (12 : Int32)) - (2 : Int32)).toInt64) &&& (4294967295 : Int64)))), .second, .val (own_of ((j0 <<< ((32 : Int32) &&& 0x3f).toInt64) ||| ((((((k0.toUInt32 >>> ((2 : Int32) &&& 31).toUInt32).toInt32) % (12 : Int32)) - (2 : Int32)).toInt64) &&& (4294967295 : Int64))) w_STRING w_HASHED_STRING w_CLASS w_INSTANCE w_ROOTS w_OBJECT_ARRAY w_PRIMITIVE_ARRAY w_LEGACY), .unset] [(.long ((j0 <<< ((32 : Int32) &&& 0x3f).toInt64) ||| ((((((k0.toUInt32 >>> ((2 : Int32) &&& 31).toUInt32).toInt32) % (12 : Int32)) - (2 : Int32)).toInt64) &&& (4294967295 : Int64))))])) rfl (by rw [hml]; rfl) (argsL := [(.long ((j0 <<< ((32 : Int32) &&& 0x3f).toInt64) ||| ((((((k0.toUInt32 >>> ((2 : Int32) &&& 31).toUInt32).toInt32) % (12 : Int32)) - (2 : Int32)).toInt64) &&& (4294967295 : Int64))))]) (rest := []) (lenOf pd_0 rfl) rfl (by show 2 * 0 + _ ≤ _; exact Nat.le_of_eq rfl) (hb hby at_60) (fun _ _ => ⟨rfl, e69, (by decide : 0 + 0 ≤ _), (by decide : 0 + 0 ≤ _)⟩)
      dsimp only [Pt.U, Pt.locs, Pt.cells, Pt.slots] at X70 l70 y70 z70 st70 hQ70
      subst l70 y70 z70
      obtain ⟨hv70, N70q, e70⟩ := hQ70
      have N70 := Fr.app N69 N70q
      subst hv70
      have pre71 : ∀ t_, Steps p.tables e below (T70.setTop (mkF m 74 #[.val (.long j0), .second, .val (.int k0), .val (.long (((((k0.toUInt32 >>> ((2 : Int32) &&& 31).toUInt32).toInt32) % (12 : Int32)) - (2 : Int32)).toInt64)), .second, .val (.int (k0 &&& (3 : Int32))), .val (.long ((j0 <<< ((32 : Int32) &&& 0x3f).toInt64) ||| ((((((k0.toUInt32 >>> ((2 : Int32) &&& 31).toUInt32).toInt32) % (12 : Int32)) - (2 : Int32)).toInt64) &&& (4294967295 : Int64)))), .second, .val (own_of ((j0 <<< ((32 : Int32) &&& 0x3f).toInt64) ||| ((((((k0.toUInt32 >>> ((2 : Int32) &&& 31).toUInt32).toInt32) % (12 : Int32)) - (2 : Int32)).toInt64) &&& (4294967295 : Int64))) w_STRING w_HASHED_STRING w_CLASS w_INSTANCE w_ROOTS w_OBJECT_ARRAY w_PRIMITIVE_ARRAY w_LEGACY), .val (own_of ((j0 <<< ((32 : Int32) &&& 0x3f).toInt64) ||| ((((((k0.toUInt32 >>> ((2 : Int32) &&& 31).toUInt32).toInt32) % (12 : Int32)) - (2 : Int32)).toInt64) &&& (4294967295 : Int64))) w_STRING w_HASHED_STRING w_CLASS w_INSTANCE w_ROOTS w_OBJECT_ARRAY w_PRIMITIVE_ARRAY w_LEGACY)] [])) t_ → Steps p.tables e below (s₁.setTop (entryFrame m #[(.long j0), (.int k0)] maxLocals)) t_ := fun t_ k_ => pre67 t_ (by
        show Steps p.tables e below (s₁.setTop (mkF m 30 #[.val (.long j0), .second, .val (.int k0), .val (.long (((((k0.toUInt32 >>> ((2 : Int32) &&& 31).toUInt32).toInt32) % (12 : Int32)) - (2 : Int32)).toInt64)), .second, .val (.int (k0 &&& (3 : Int32))), .unset, .unset, .unset, .unset] [(.int (3 : Int32)), (.int (k0 &&& (3 : Int32)))])) _
        refine XS.icmpNo X0.here hx rfl (hb hby at_30) rfl (teq hc30_68).2 ?_
        show Steps p.tables e below (s₁.setTop (mkF m 33 #[.val (.long j0), .second, .val (.int k0), .val (.long (((((k0.toUInt32 >>> ((2 : Int32) &&& 31).toUInt32).toInt32) % (12 : Int32)) - (2 : Int32)).toInt64)), .second, .val (.int (k0 &&& (3 : Int32))), .unset, .unset, .unset, .unset] [])) _
        refine XS.lloadN X0.here hx rfl (hb hby at_33) rfl ?_
        show Steps p.tables e below (s₁.setTop (mkF m 34 #[.val (.long j0), .second, .val (.int k0), .val (.long (((((k0.toUInt32 >>> ((2 : Int32) &&& 31).toUInt32).toInt32) % (12 : Int32)) - (2 : Int32)).toInt64)), .second, .val (.int (k0 &&& (3 : Int32))), .unset, .unset, .unset, .unset] [(.long j0)])) _
        refine XS.bipush X0.here hx rfl (hb hby at_34) ?_
        show Steps p.tables e below (s₁.setTop (mkF m 36 #[.val (.long j0), .second, .val (.int k0), .val (.long (((((k0.toUInt32 >>> ((2 : Int32) &&& 31).toUInt32).toInt32) % (12 : Int32)) - (2 : Int32)).toInt64)), .second, .val (.int (k0 &&& (3 : Int32))), .unset, .unset, .unset, .unset] [(.int (32 : Int32)), (.long j0)])) _
        refine XS.lshl X0.here hx rfl (hb hby at_36) rfl ?_
        show Steps p.tables e below (s₁.setTop (mkF m 37 #[.val (.long j0), .second, .val (.int k0), .val (.long (((((k0.toUInt32 >>> ((2 : Int32) &&& 31).toUInt32).toInt32) % (12 : Int32)) - (2 : Int32)).toInt64)), .second, .val (.int (k0 &&& (3 : Int32))), .unset, .unset, .unset, .unset] [(.long (j0 <<< ((32 : Int32) &&& 0x3f).toInt64))])) _
        refine XS.lloadN X0.here hx rfl (hb hby at_37) rfl ?_
        show Steps p.tables e below (s₁.setTop (mkF m 38 #[.val (.long j0), .second, .val (.int k0), .val (.long (((((k0.toUInt32 >>> ((2 : Int32) &&& 31).toUInt32).toInt32) % (12 : Int32)) - (2 : Int32)).toInt64)), .second, .val (.int (k0 &&& (3 : Int32))), .unset, .unset, .unset, .unset] [(.long (((((k0.toUInt32 >>> ((2 : Int32) &&& 31).toUInt32).toInt32) % (12 : Int32)) - (2 : Int32)).toInt64)), (.long (j0 <<< ((32 : Int32) &&& 0x3f).toInt64))])) _
        refine X0.ldc2Long hx hown (mvT hZ (hw _ (List.mem_of_getElem? (i := 26) rfl))) (g := (mkF m 38 #[.val (.long j0), .second, .val (.int k0), .val (.long (((((k0.toUInt32 >>> ((2 : Int32) &&& 31).toUInt32).toInt32) % (12 : Int32)) - (2 : Int32)).toInt64)), .second, .val (.int (k0 &&& (3 : Int32))), .unset, .unset, .unset, .unset] [(.long (((((k0.toUInt32 >>> ((2 : Int32) &&& 31).toUInt32).toInt32) % (12 : Int32)) - (2 : Int32)).toInt64)), (.long (j0 <<< ((32 : Int32) &&& 0x3f).toInt64))])) rfl (hb hby at_38) _ ?_
        show Steps p.tables e below (s₁.setTop (mkF m 41 #[.val (.long j0), .second, .val (.int k0), .val (.long (((((k0.toUInt32 >>> ((2 : Int32) &&& 31).toUInt32).toInt32) % (12 : Int32)) - (2 : Int32)).toInt64)), .second, .val (.int (k0 &&& (3 : Int32))), .unset, .unset, .unset, .unset] [(.long (4294967295 : Int64)), (.long (((((k0.toUInt32 >>> ((2 : Int32) &&& 31).toUInt32).toInt32) % (12 : Int32)) - (2 : Int32)).toInt64)), (.long (j0 <<< ((32 : Int32) &&& 0x3f).toInt64))])) _
        refine XS.land X0.here hx rfl (hb hby at_41) rfl ?_
        show Steps p.tables e below (s₁.setTop (mkF m 42 #[.val (.long j0), .second, .val (.int k0), .val (.long (((((k0.toUInt32 >>> ((2 : Int32) &&& 31).toUInt32).toInt32) % (12 : Int32)) - (2 : Int32)).toInt64)), .second, .val (.int (k0 &&& (3 : Int32))), .unset, .unset, .unset, .unset] [(.long ((((((k0.toUInt32 >>> ((2 : Int32) &&& 31).toUInt32).toInt32) % (12 : Int32)) - (2 : Int32)).toInt64) &&& (4294967295 : Int64))), (.long (j0 <<< ((32 : Int32) &&& 0x3f).toInt64))])) _
        refine XS.lor X0.here hx rfl (hb hby at_42) rfl ?_
        show Steps p.tables e below (s₁.setTop (mkF m 43 #[.val (.long j0), .second, .val (.int k0), .val (.long (((((k0.toUInt32 >>> ((2 : Int32) &&& 31).toUInt32).toInt32) % (12 : Int32)) - (2 : Int32)).toInt64)), .second, .val (.int (k0 &&& (3 : Int32))), .unset, .unset, .unset, .unset] [(.long ((j0 <<< ((32 : Int32) &&& 0x3f).toInt64) ||| ((((((k0.toUInt32 >>> ((2 : Int32) &&& 31).toUInt32).toInt32) % (12 : Int32)) - (2 : Int32)).toInt64) &&& (4294967295 : Int64))))])) _
        refine XS.lstore X0.here hx rfl (hb hby at_43) rfl (l' := #[.val (.long j0), .second, .val (.int k0), .val (.long (((((k0.toUInt32 >>> ((2 : Int32) &&& 31).toUInt32).toInt32) % (12 : Int32)) - (2 : Int32)).toInt64)), .second, .val (.int (k0 &&& (3 : Int32))), .val (.long ((j0 <<< ((32 : Int32) &&& 0x3f).toInt64) ||| ((((((k0.toUInt32 >>> ((2 : Int32) &&& 31).toUInt32).toInt32) % (12 : Int32)) - (2 : Int32)).toInt64) &&& (4294967295 : Int64)))), .second, .unset, .unset]) rfl ?_
        show Steps p.tables e below (s₁.setTop (mkF m 45 #[.val (.long j0), .second, .val (.int k0), .val (.long (((((k0.toUInt32 >>> ((2 : Int32) &&& 31).toUInt32).toInt32) % (12 : Int32)) - (2 : Int32)).toInt64)), .second, .val (.int (k0 &&& (3 : Int32))), .val (.long ((j0 <<< ((32 : Int32) &&& 0x3f).toInt64) ||| ((((((k0.toUInt32 >>> ((2 : Int32) &&& 31).toUInt32).toInt32) % (12 : Int32)) - (2 : Int32)).toInt64) &&& (4294967295 : Int64)))), .second, .unset, .unset] [])) _
        refine XS.goto X0.here hx rfl (pc0 := 45) (pc' := 51) rfl (hb hby at_45) (by decide) (by decide) ?_
        show Steps p.tables e below (s₁.setTop (mkF m 51 #[.val (.long j0), .second, .val (.int k0), .val (.long (((((k0.toUInt32 >>> ((2 : Int32) &&& 31).toUInt32).toInt32) % (12 : Int32)) - (2 : Int32)).toInt64)), .second, .val (.int (k0 &&& (3 : Int32))), .val (.long ((j0 <<< ((32 : Int32) &&& 0x3f).toInt64) ||| ((((((k0.toUInt32 >>> ((2 : Int32) &&& 31).toUInt32).toInt32) % (12 : Int32)) - (2 : Int32)).toInt64) &&& (4294967295 : Int64)))), .second, .unset, .unset] [])) _
        refine XS.lload X0.here hx rfl (hb hby at_51) rfl ?_
        show Steps p.tables e below (s₁.setTop (mkF m 53 #[.val (.long j0), .second, .val (.int k0), .val (.long (((((k0.toUInt32 >>> ((2 : Int32) &&& 31).toUInt32).toInt32) % (12 : Int32)) - (2 : Int32)).toInt64)), .second, .val (.int (k0 &&& (3 : Int32))), .val (.long ((j0 <<< ((32 : Int32) &&& 0x3f).toInt64) ||| ((((((k0.toUInt32 >>> ((2 : Int32) &&& 31).toUInt32).toInt32) % (12 : Int32)) - (2 : Int32)).toInt64) &&& (4294967295 : Int64)))), .second, .unset, .unset] [(.long ((j0 <<< ((32 : Int32) &&& 0x3f).toInt64) ||| ((((((k0.toUInt32 >>> ((2 : Int32) &&& 31).toUInt32).toInt32) % (12 : Int32)) - (2 : Int32)).toInt64) &&& (4294967295 : Int64))))])) _
        refine st69 _ ?_
        show Steps p.tables e below (T69.setTop (mkF m 56 #[.val (.long j0), .second, .val (.int k0), .val (.long (((((k0.toUInt32 >>> ((2 : Int32) &&& 31).toUInt32).toInt32) % (12 : Int32)) - (2 : Int32)).toInt64)), .second, .val (.int (k0 &&& (3 : Int32))), .val (.long ((j0 <<< ((32 : Int32) &&& 0x3f).toInt64) ||| ((((((k0.toUInt32 >>> ((2 : Int32) &&& 31).toUInt32).toInt32) % (12 : Int32)) - (2 : Int32)).toInt64) &&& (4294967295 : Int64)))), .second, .unset, .unset] [(own_of ((j0 <<< ((32 : Int32) &&& 0x3f).toInt64) ||| ((((((k0.toUInt32 >>> ((2 : Int32) &&& 31).toUInt32).toInt32) % (12 : Int32)) - (2 : Int32)).toInt64) &&& (4294967295 : Int64))) w_STRING w_HASHED_STRING w_CLASS w_INSTANCE w_ROOTS w_OBJECT_ARRAY w_PRIMITIVE_ARRAY w_LEGACY)])) _
        refine XS.astoreS X69.here hx rfl (hb hby at_56) rfl (own_of_ref ((j0 <<< ((32 : Int32) &&& 0x3f).toInt64) ||| ((((((k0.toUInt32 >>> ((2 : Int32) &&& 31).toUInt32).toInt32) % (12 : Int32)) - (2 : Int32)).toInt64) &&& (4294967295 : Int64))) w_STRING w_HASHED_STRING w_CLASS w_INSTANCE w_ROOTS w_OBJECT_ARRAY w_PRIMITIVE_ARRAY w_LEGACY) (Jvm.Free.XT.cat1 (own_of_ref ((j0 <<< ((32 : Int32) &&& 0x3f).toInt64) ||| ((((((k0.toUInt32 >>> ((2 : Int32) &&& 31).toUInt32).toInt32) % (12 : Int32)) - (2 : Int32)).toInt64) &&& (4294967295 : Int64))) w_STRING w_HASHED_STRING w_CLASS w_INSTANCE w_ROOTS w_OBJECT_ARRAY w_PRIMITIVE_ARRAY w_LEGACY)) rfl (Or.inl rfl) ?_
        show Steps p.tables e below (T69.setTop (mkF m 58 #[.val (.long j0), .second, .val (.int k0), .val (.long (((((k0.toUInt32 >>> ((2 : Int32) &&& 31).toUInt32).toInt32) % (12 : Int32)) - (2 : Int32)).toInt64)), .second, .val (.int (k0 &&& (3 : Int32))), .val (.long ((j0 <<< ((32 : Int32) &&& 0x3f).toInt64) ||| ((((((k0.toUInt32 >>> ((2 : Int32) &&& 31).toUInt32).toInt32) % (12 : Int32)) - (2 : Int32)).toInt64) &&& (4294967295 : Int64)))), .second, .val (own_of ((j0 <<< ((32 : Int32) &&& 0x3f).toInt64) ||| ((((((k0.toUInt32 >>> ((2 : Int32) &&& 31).toUInt32).toInt32) % (12 : Int32)) - (2 : Int32)).toInt64) &&& (4294967295 : Int64))) w_STRING w_HASHED_STRING w_CLASS w_INSTANCE w_ROOTS w_OBJECT_ARRAY w_PRIMITIVE_ARRAY w_LEGACY), .unset] [])) _
        refine XS.lload X69.here hx rfl (hb hby at_58) rfl ?_
        show Steps p.tables e below (T69.setTop (mkF m 60 #[.val (.long j0), .second, .val (.int k0), .val (.long (((((k0.toUInt32 >>> ((2 : Int32) &&& 31).toUInt32).toInt32) % (12 : Int32)) - (2 : Int32)).toInt64)), .second, .val (.int (k0 &&& (3 : Int32))), .val (.long ((j0 <<< ((32 : Int32) &&& 0x3f).toInt64) ||| ((((((k0.toUInt32 >>> ((2 : Int32) &&& 31).toUInt32).toInt32) % (12 : Int32)) - (2 : Int32)).toInt64) &&& (4294967295 : Int64)))), .second, .val (own_of ((j0 <<< ((32 : Int32) &&& 0x3f).toInt64) ||| ((((((k0.toUInt32 >>> ((2 : Int32) &&& 31).toUInt32).toInt32) % (12 : Int32)) - (2 : Int32)).toInt64) &&& (4294967295 : Int64))) w_STRING w_HASHED_STRING w_CLASS w_INSTANCE w_ROOTS w_OBJECT_ARRAY w_PRIMITIVE_ARRAY w_LEGACY), .unset] [(.long ((j0 <<< ((32 : Int32) &&& 0x3f).toInt64) ||| ((((((k0.toUInt32 >>> ((2 : Int32) &&& 31).toUInt32).toInt32) % (12 : Int32)) - (2 : Int32)).toInt64) &&& (4294967295 : Int64))))])) _
        refine st70 _ ?_
        show Steps p.tables e below (T70.setTop (mkF m 63 #[.val (.long j0), .second, .val (.int k0), .val (.long (((((k0.toUInt32 >>> ((2 : Int32) &&& 31).toUInt32).toInt32) % (12 : Int32)) - (2 : Int32)).toInt64)), .second, .val (.int (k0 &&& (3 : Int32))), .val (.long ((j0 <<< ((32 : Int32) &&& 0x3f).toInt64) ||| ((((((k0.toUInt32 >>> ((2 : Int32) &&& 31).toUInt32).toInt32) % (12 : Int32)) - (2 : Int32)).toInt64) &&& (4294967295 : Int64)))), .second, .val (own_of ((j0 <<< ((32 : Int32) &&& 0x3f).toInt64) ||| ((((((k0.toUInt32 >>> ((2 : Int32) &&& 31).toUInt32).toInt32) % (12 : Int32)) - (2 : Int32)).toInt64) &&& (4294967295 : Int64))) w_STRING w_HASHED_STRING w_CLASS w_INSTANCE w_ROOTS w_OBJECT_ARRAY w_PRIMITIVE_ARRAY w_LEGACY), .unset] [(own_of ((j0 <<< ((32 : Int32) &&& 0x3f).toInt64) ||| ((((((k0.toUInt32 >>> ((2 : Int32) &&& 31).toUInt32).toInt32) % (12 : Int32)) - (2 : Int32)).toInt64) &&& (4294967295 : Int64))) w_STRING w_HASHED_STRING w_CLASS w_INSTANCE w_ROOTS w_OBJECT_ARRAY w_PRIMITIVE_ARRAY w_LEGACY)])) _
        refine XS.astoreS X70.here hx rfl (hb hby at_63) rfl (own_of_ref ((j0 <<< ((32 : Int32) &&& 0x3f).toInt64) ||| ((((((k0.toUInt32 >>> ((2 : Int32) &&& 31).toUInt32).toInt32) % (12 : Int32)) - (2 : Int32)).toInt64) &&& (4294967295 : Int64))) w_STRING w_HASHED_STRING w_CLASS w_INSTANCE w_ROOTS w_OBJECT_ARRAY w_PRIMITIVE_ARRAY w_LEGACY) (Jvm.Free.XT.cat1 (own_of_ref ((j0 <<< ((32 : Int32) &&& 0x3f).toInt64) ||| ((((((k0.toUInt32 >>> ((2 : Int32) &&& 31).toUInt32).toInt32) % (12 : Int32)) - (2 : Int32)).toInt64) &&& (4294967295 : Int64))) w_STRING w_HASHED_STRING w_CLASS w_INSTANCE w_ROOTS w_OBJECT_ARRAY w_PRIMITIVE_ARRAY w_LEGACY)) rfl (Or.inl rfl) ?_
        show Steps p.tables e below (T70.setTop (mkF m 65 #[.val (.long j0), .second, .val (.int k0), .val (.long (((((k0.toUInt32 >>> ((2 : Int32) &&& 31).toUInt32).toInt32) % (12 : Int32)) - (2 : Int32)).toInt64)), .second, .val (.int (k0 &&& (3 : Int32))), .val (.long ((j0 <<< ((32 : Int32) &&& 0x3f).toInt64) ||| ((((((k0.toUInt32 >>> ((2 : Int32) &&& 31).toUInt32).toInt32) % (12 : Int32)) - (2 : Int32)).toInt64) &&& (4294967295 : Int64)))), .second, .val (own_of ((j0 <<< ((32 : Int32) &&& 0x3f).toInt64) ||| ((((((k0.toUInt32 >>> ((2 : Int32) &&& 31).toUInt32).toInt32) % (12 : Int32)) - (2 : Int32)).toInt64) &&& (4294967295 : Int64))) w_STRING w_HASHED_STRING w_CLASS w_INSTANCE w_ROOTS w_OBJECT_ARRAY w_PRIMITIVE_ARRAY w_LEGACY), .val (own_of ((j0 <<< ((32 : Int32) &&& 0x3f).toInt64) ||| ((((((k0.toUInt32 >>> ((2 : Int32) &&& 31).toUInt32).toInt32) % (12 : Int32)) - (2 : Int32)).toInt64) &&& (4294967295 : Int64))) w_STRING w_HASHED_STRING w_CLASS w_INSTANCE w_ROOTS w_OBJECT_ARRAY w_PRIMITIVE_ARRAY w_LEGACY)] [])) _
        refine XS.aload X70.here hx rfl (hb hby at_65) rfl (own_of_ref ((j0 <<< ((32 : Int32) &&& 0x3f).toInt64) ||| ((((((k0.toUInt32 >>> ((2 : Int32) &&& 31).toUInt32).toInt32) % (12 : Int32)) - (2 : Int32)).toInt64) &&& (4294967295 : Int64))) w_STRING w_HASHED_STRING w_CLASS w_INSTANCE w_ROOTS w_OBJECT_ARRAY w_PRIMITIVE_ARRAY w_LEGACY) ?_
        show Steps p.tables e below (T70.setTop (mkF m 67 #[.val (.long j0), .second, .val (.int k0), .val (.long (((((k0.toUInt32 >>> ((2 : Int32) &&& 31).toUInt32).toInt32) % (12 : Int32)) - (2 : Int32)).toInt64)), .second, .val (.int (k0 &&& (3 : Int32))), .val (.long ((j0 <<< ((32 : Int32) &&& 0x3f).toInt64) ||| ((((((k0.toUInt32 >>> ((2 : Int32) &&& 31).toUInt32).toInt32) % (12 : Int32)) - (2 : Int32)).toInt64) &&& (4294967295 : Int64)))), .second, .val (own_of ((j0 <<< ((32 : Int32) &&& 0x3f).toInt64) ||| ((((((k0.toUInt32 >>> ((2 : Int32) &&& 31).toUInt32).toInt32) % (12 : Int32)) - (2 : Int32)).toInt64) &&& (4294967295 : Int64))) w_STRING w_HASHED_STRING w_CLASS w_INSTANCE w_ROOTS w_OBJECT_ARRAY w_PRIMITIVE_ARRAY w_LEGACY), .val (own_of ((j0 <<< ((32 : Int32) &&& 0x3f).toInt64) ||| ((((((k0.toUInt32 >>> ((2 : Int32) &&& 31).toUInt32).toInt32) % (12 : Int32)) - (2 : Int32)).toInt64) &&& (4294967295 : Int64))) w_STRING w_HASHED_STRING w_CLASS w_INSTANCE w_ROOTS w_OBJECT_ARRAY w_PRIMITIVE_ARRAY w_LEGACY)] [(own_of ((j0 <<< ((32 : Int32) &&& 0x3f).toInt64) ||| ((((((k0.toUInt32 >>> ((2 : Int32) &&& 31).toUInt32).toInt32) % (12 : Int32)) - (2 : Int32)).toInt64) &&& (4294967295 : Int64))) w_STRING w_HASHED_STRING w_CLASS w_INSTANCE w_ROOTS w_OBJECT_ARRAY w_PRIMITIVE_ARRAY w_LEGACY)])) _
        refine XS.aload X70.here hx rfl (hb hby at_67) rfl (own_of_ref ((j0 <<< ((32 : Int32) &&& 0x3f).toInt64) ||| ((((((k0.toUInt32 >>> ((2 : Int32) &&& 31).toUInt32).toInt32) % (12 : Int32)) - (2 : Int32)).toInt64) &&& (4294967295 : Int64))) w_STRING w_HASHED_STRING w_CLASS w_INSTANCE w_ROOTS w_OBJECT_ARRAY w_PRIMITIVE_ARRAY w_LEGACY) ?_
        show Steps p.tables e below (T70.setTop (mkF m 69 #[.val (.long j0), .second, .val (.int k0), .val (.long (((((k0.toUInt32 >>> ((2 : Int32) &&& 31).toUInt32).toInt32) % (12 : Int32)) - (2 : Int32)).toInt64)), .second, .val (.int (k0 &&& (3 : Int32))), .val (.long ((j0 <<< ((32 : Int32) &&& 0x3f).toInt64) ||| ((((((k0.toUInt32 >>> ((2 : Int32) &&& 31).toUInt32).toInt32) % (12 : Int32)) - (2 : Int32)).toInt64) &&& (4294967295 : Int64)))), .second, .val (own_of ((j0 <<< ((32 : Int32) &&& 0x3f).toInt64) ||| ((((((k0.toUInt32 >>> ((2 : Int32) &&& 31).toUInt32).toInt32) % (12 : Int32)) - (2 : Int32)).toInt64) &&& (4294967295 : Int64))) w_STRING w_HASHED_STRING w_CLASS w_INSTANCE w_ROOTS w_OBJECT_ARRAY w_PRIMITIVE_ARRAY w_LEGACY), .val (own_of ((j0 <<< ((32 : Int32) &&& 0x3f).toInt64) ||| ((((((k0.toUInt32 >>> ((2 : Int32) &&& 31).toUInt32).toInt32) % (12 : Int32)) - (2 : Int32)).toInt64) &&& (4294967295 : Int64))) w_STRING w_HASHED_STRING w_CLASS w_INSTANCE w_ROOTS w_OBJECT_ARRAY w_PRIMITIVE_ARRAY w_LEGACY)] [(own_of ((j0 <<< ((32 : Int32) &&& 0x3f).toInt64) ||| ((((((k0.toUInt32 >>> ((2 : Int32) &&& 31).toUInt32).toInt32) % (12 : Int32)) - (2 : Int32)).toInt64) &&& (4294967295 : Int64))) w_STRING w_HASHED_STRING w_CLASS w_INSTANCE w_ROOTS w_OBJECT_ARRAY w_PRIMITIVE_ARRAY w_LEGACY), (own_of ((j0 <<< ((32 : Int32) &&& 0x3f).toInt64) ||| ((((((k0.toUInt32 >>> ((2 : Int32) &&& 31).toUInt32).toInt32) % (12 : Int32)) - (2 : Int32)).toInt64) &&& (4294967295 : Int64))) w_STRING w_HASHED_STRING w_CLASS w_INSTANCE w_ROOTS w_OBJECT_ARRAY w_PRIMITIVE_ARRAY w_LEGACY)])) _
        refine Jvm.RoadKit.acmp (g := (mkF m 69 #[.val (.long j0), .second, .val (.int k0), .val (.long (((((k0.toUInt32 >>> ((2 : Int32) &&& 31).toUInt32).toInt32) % (12 : Int32)) - (2 : Int32)).toInt64)), .second, .val (.int (k0 &&& (3 : Int32))), .val (.long ((j0 <<< ((32 : Int32) &&& 0x3f).toInt64) ||| ((((((k0.toUInt32 >>> ((2 : Int32) &&& 31).toUInt32).toInt32) % (12 : Int32)) - (2 : Int32)).toInt64) &&& (4294967295 : Int64)))), .second, .val (own_of ((j0 <<< ((32 : Int32) &&& 0x3f).toInt64) ||| ((((((k0.toUInt32 >>> ((2 : Int32) &&& 31).toUInt32).toInt32) % (12 : Int32)) - (2 : Int32)).toInt64) &&& (4294967295 : Int64))) w_STRING w_HASHED_STRING w_CLASS w_INSTANCE w_ROOTS w_OBJECT_ARRAY w_PRIMITIVE_ARRAY w_LEGACY), .val (own_of ((j0 <<< ((32 : Int32) &&& 0x3f).toInt64) ||| ((((((k0.toUInt32 >>> ((2 : Int32) &&& 31).toUInt32).toInt32) % (12 : Int32)) - (2 : Int32)).toInt64) &&& (4294967295 : Int64))) w_STRING w_HASHED_STRING w_CLASS w_INSTANCE w_ROOTS w_OBJECT_ARRAY w_PRIMITIVE_ARRAY w_LEGACY)] [(own_of ((j0 <<< ((32 : Int32) &&& 0x3f).toInt64) ||| ((((((k0.toUInt32 >>> ((2 : Int32) &&& 31).toUInt32).toInt32) % (12 : Int32)) - (2 : Int32)).toInt64) &&& (4294967295 : Int64))) w_STRING w_HASHED_STRING w_CLASS w_INSTANCE w_ROOTS w_OBJECT_ARRAY w_PRIMITIVE_ARRAY w_LEGACY), (own_of ((j0 <<< ((32 : Int32) &&& 0x3f).toInt64) ||| ((((((k0.toUInt32 >>> ((2 : Int32) &&& 31).toUInt32).toInt32) % (12 : Int32)) - (2 : Int32)).toInt64) &&& (4294967295 : Int64))) w_STRING w_HASHED_STRING w_CLASS w_INSTANCE w_ROOTS w_OBJECT_ARRAY w_PRIMITIVE_ARRAY w_LEGACY)])) X70 hx rfl (own_of_ref ((j0 <<< ((32 : Int32) &&& 0x3f).toInt64) ||| ((((((k0.toUInt32 >>> ((2 : Int32) &&& 31).toUInt32).toInt32) % (12 : Int32)) - (2 : Int32)).toInt64) &&& (4294967295 : Int64))) w_STRING w_HASHED_STRING w_CLASS w_INSTANCE w_ROOTS w_OBJECT_ARRAY w_PRIMITIVE_ARRAY w_LEGACY) (own_of_ref ((j0 <<< ((32 : Int32) &&& 0x3f).toInt64) ||| ((((((k0.toUInt32 >>> ((2 : Int32) &&& 31).toUInt32).toInt32) % (12 : Int32)) - (2 : Int32)).toInt64) &&& (4294967295 : Int64))) w_STRING w_HASHED_STRING w_CLASS w_INSTANCE w_ROOTS w_OBJECT_ARRAY w_PRIMITIVE_ARRAY w_LEGACY) (pc0 := 69) (pc' := 74) (same := true) rfl (hb hby at_69) rfl (decide_eq_true rfl) (by decide) (by decide) ?_
        show Steps p.tables e below (T70.setTop (mkF m 74 #[.val (.long j0), .second, .val (.int k0), .val (.long (((((k0.toUInt32 >>> ((2 : Int32) &&& 31).toUInt32).toInt32) % (12 : Int32)) - (2 : Int32)).toInt64)), .second, .val (.int (k0 &&& (3 : Int32))), .val (.long ((j0 <<< ((32 : Int32) &&& 0x3f).toInt64) ||| ((((((k0.toUInt32 >>> ((2 : Int32) &&& 31).toUInt32).toInt32) % (12 : Int32)) - (2 : Int32)).toInt64) &&& (4294967295 : Int64)))), .second, .val (own_of ((j0 <<< ((32 : Int32) &&& 0x3f).toInt64) ||| ((((((k0.toUInt32 >>> ((2 : Int32) &&& 31).toUInt32).toInt32) % (12 : Int32)) - (2 : Int32)).toInt64) &&& (4294967295 : Int64))) w_STRING w_HASHED_STRING w_CLASS w_INSTANCE w_ROOTS w_OBJECT_ARRAY w_PRIMITIVE_ARRAY w_LEGACY), .val (own_of ((j0 <<< ((32 : Int32) &&& 0x3f).toInt64) ||| ((((((k0.toUInt32 >>> ((2 : Int32) &&& 31).toUInt32).toInt32) % (12 : Int32)) - (2 : Int32)).toInt64) &&& (4294967295 : Int64))) w_STRING w_HASHED_STRING w_CLASS w_INSTANCE w_ROOTS w_OBJECT_ARRAY w_PRIMITIVE_ARRAY w_LEGACY)] [])) _
        exact k_)
      by_cases ht1 : ((j0 <<< ((32 : Int32) &&& 0x3f).toInt64) ||| ((((((k0.toUInt32 >>> ((2 : Int32) &&& 31).toUInt32).toInt32) % (12 : Int32)) - (2 : Int32)).toInt64) &&& (4294967295 : Int64))) = (1 : Int64)
      · have hq : (own_of ((j0 <<< ((32 : Int32) &&& 0x3f).toInt64) ||| ((((((k0.toUInt32 >>> ((2 : Int32) &&& 31).toUInt32).toInt32) % (12 : Int32)) - (2 : Int32)).toInt64) &&& (4294967295 : Int64))) w_STRING w_HASHED_STRING w_CLASS w_INSTANCE w_ROOTS w_OBJECT_ARRAY w_PRIMITIVE_ARRAY w_LEGACY) = .ref w_STRING := by rw [own_of, if_pos ht1]
        rw [hq] at pre71
        obtain ⟨cq72, kq72, q72a, q72b, q72c⟩ := isOf hZ e70 E_STRING
        obtain ⟨v72, _, ⟨T72, L72, k72, n72⟩, -, X72, ⟨Lc72, hQ72, l72, y72, z72⟩, st72⟩ := X70.virtualBack hx (y := (⟨"com/example/heapscribe/heapscribe/Bmd$RecordKind", "tag", "()I"⟩ : MethodName)) (z := (⟨"com/example/heapscribe/heapscribe/Bmd$RecordKind", "tag", "()I"⟩ : MethodName)) hown (mvT hZ (hw _ (List.mem_of_getElem? (i := 14) rfl))) (mvT hZ (hw _ (List.mem_of_getElem? (i := 15) rfl))) (notFace_of_selects (args := #[]) (mvT hZ (hw _ (List.mem_of_getElem? (i := 17) rfl)))) (mvT hZ (hw _ (List.mem_of_getElem? (i := 17) rfl))) (mvT hZ (hw _ (List.mem_of_getElem? (i := 16) rfl))) (by decide) (backOf (W := 0) (rm_3 l Z a0 hw [] w_STRING (1 : Int32) h0 n0 Z0 F_STRING_tag) hZ (hw _ (List.mem_of_getElem? (i := 18) rfl)) (hw _ (List.mem_of_getElem? (i := 2) rfl)) (by decide) (by decide)) q72a q72c (g := (mkF m 81 #[.val (.long j0), .second, .val (.int k0), .val (.long (((((k0.toUInt32 >>> ((2 : Int32) &&& 31).toUInt32).toInt32) % (12 : Int32)) - (2 : Int32)).toInt64)), .second, .val (.int (k0 &&& (3 : Int32))), .val (.long ((j0 <<< ((32 : Int32) &&& 0x3f).toInt64) ||| ((((((k0.toUInt32 >>> ((2 : Int32) &&& 31).toUInt32).toInt32) % (12 : Int32)) - (2 : Int32)).toInt64) &&& (4294967295 : Int64)))), .second, .val (.ref w_STRING), .val (.ref w_STRING)] [(.ref w_STRING)])) rfl (by rw [hml]; rfl) (Steps.refl _) (argsL := []) (rest := []) (lenOf pd_1 rfl) rfl (by show 2 * 0 + _ ≤ _; exact Nat.le_of_eq rfl) (hb hby at_81) (fun _ _ => ⟨rfl, e70, (by decide : 0 + 0 ≤ _), (by decide : 0 + 0 ≤ _)⟩)
        dsimp only [Pt.U, Pt.locs, Pt.cells, Pt.slots] at X72 l72 y72 z72 st72 hQ72
        subst l72 y72 z72
        obtain ⟨hv72, N72q, e72⟩ := hQ72
        have N72 := Fr.app N70 N72q
        subst hv72
        have pre73 : ∀ t_, Steps p.tables e below (T72.setTop (mkF m 94 #[.val (.long j0), .second, .val (.int k0), .val (.long (((((k0.toUInt32 >>> ((2 : Int32) &&& 31).toUInt32).toInt32) % (12 : Int32)) - (2 : Int32)).toInt64)), .second, .val (.int (k0 &&& (3 : Int32))), .val (.long ((j0 <<< ((32 : Int32) &&& 0x3f).toInt64) ||| ((((((k0.toUInt32 >>> ((2 : Int32) &&& 31).toUInt32).toInt32) % (12 : Int32)) - (2 : Int32)).toInt64) &&& (4294967295 : Int64)))), .second, .val (.ref w_STRING), .val (.ref w_STRING)] [(.int (1 : Int32))])) t_ → Steps p.tables e below (s₁.setTop (entryFrame m #[(.long j0), (.int k0)] maxLocals)) t_ := fun t_ k_ => pre71 t_ (by
          show Steps p.tables e below (T70.setTop (mkF m 74 #[.val (.long j0), .second, .val (.int k0), .val (.long (((((k0.toUInt32 >>> ((2 : Int32) &&& 31).toUInt32).toInt32) % (12 : Int32)) - (2 : Int32)).toInt64)), .second, .val (.int (k0 &&& (3 : Int32))), .val (.long ((j0 <<< ((32 : Int32) &&& 0x3f).toInt64) ||| ((((((k0.toUInt32 >>> ((2 : Int32) &&& 31).toUInt32).toInt32) % (12 : Int32)) - (2 : Int32)).toInt64) &&& (4294967295 : Int64)))), .second, .val (.ref w_STRING), .val (.ref w_STRING)] [])) _
          refine XS.aload X70.here hx rfl (hb hby at_74) rfl rfl ?_
          show Steps p.tables e below (T70.setTop (mkF m 76 #[.val (.long j0), .second, .val (.int k0), .val (.long (((((k0.toUInt32 >>> ((2 : Int32) &&& 31).toUInt32).toInt32) % (12 : Int32)) - (2 : Int32)).toInt64)), .second, .val (.int (k0 &&& (3 : Int32))), .val (.long ((j0 <<< ((32 : Int32) &&& 0x3f).toInt64) ||| ((((((k0.toUInt32 >>> ((2 : Int32) &&& 31).toUInt32).toInt32) % (12 : Int32)) - (2 : Int32)).toInt64) &&& (4294967295 : Int64)))), .second, .val (.ref w_STRING), .val (.ref w_STRING)] [(.ref w_STRING)])) _
          refine XS.ifnullNo X70.here hx rfl (hb hby at_76) rfl ?_
          show Steps p.tables e below (T70.setTop (mkF m 79 #[.val (.long j0), .second, .val (.int k0), .val (.long (((((k0.toUInt32 >>> ((2 : Int32) &&& 31).toUInt32).toInt32) % (12 : Int32)) - (2 : Int32)).toInt64)), .second, .val (.int (k0 &&& (3 : Int32))), .val (.long ((j0 <<< ((32 : Int32) &&& 0x3f).toInt64) ||| ((((((k0.toUInt32 >>> ((2 : Int32) &&& 31).toUInt32).toInt32) % (12 : Int32)) - (2 : Int32)).toInt64) &&& (4294967295 : Int64)))), .second, .val (.ref w_STRING), .val (.ref w_STRING)] [])) _
          refine XS.aload X70.here hx rfl (hb hby at_79) rfl rfl ?_
          show Steps p.tables e below (T70.setTop (mkF m 81 #[.val (.long j0), .second, .val (.int k0), .val (.long (((((k0.toUInt32 >>> ((2 : Int32) &&& 31).toUInt32).toInt32) % (12 : Int32)) - (2 : Int32)).toInt64)), .second, .val (.int (k0 &&& (3 : Int32))), .val (.long ((j0 <<< ((32 : Int32) &&& 0x3f).toInt64) ||| ((((((k0.toUInt32 >>> ((2 : Int32) &&& 31).toUInt32).toInt32) % (12 : Int32)) - (2 : Int32)).toInt64) &&& (4294967295 : Int64)))), .second, .val (.ref w_STRING), .val (.ref w_STRING)] [(.ref w_STRING)])) _
          refine st72.trans ?_
          show Steps p.tables e below (T72.setTop (mkF m 84 #[.val (.long j0), .second, .val (.int k0), .val (.long (((((k0.toUInt32 >>> ((2 : Int32) &&& 31).toUInt32).toInt32) % (12 : Int32)) - (2 : Int32)).toInt64)), .second, .val (.int (k0 &&& (3 : Int32))), .val (.long ((j0 <<< ((32 : Int32) &&& 0x3f).toInt64) ||| ((((((k0.toUInt32 >>> ((2 : Int32) &&& 31).toUInt32).toInt32) % (12 : Int32)) - (2 : Int32)).toInt64) &&& (4294967295 : Int64)))), .second, .val (.ref w_STRING), .val (.ref w_STRING)] [(.int (1 : Int32))])) _
          refine XS.i2l X72.here hx rfl (hb hby at_84) rfl ?_
          show Steps p.tables e below (T72.setTop (mkF m 85 #[.val (.long j0), .second, .val (.int k0), .val (.long (((((k0.toUInt32 >>> ((2 : Int32) &&& 31).toUInt32).toInt32) % (12 : Int32)) - (2 : Int32)).toInt64)), .second, .val (.int (k0 &&& (3 : Int32))), .val (.long ((j0 <<< ((32 : Int32) &&& 0x3f).toInt64) ||| ((((((k0.toUInt32 >>> ((2 : Int32) &&& 31).toUInt32).toInt32) % (12 : Int32)) - (2 : Int32)).toInt64) &&& (4294967295 : Int64)))), .second, .val (.ref w_STRING), .val (.ref w_STRING)] [(.long ((1 : Int32).toInt64))])) _
          refine XS.lload X72.here hx rfl (hb hby at_85) rfl ?_
          show Steps p.tables e below (T72.setTop (mkF m 87 #[.val (.long j0), .second, .val (.int k0), .val (.long (((((k0.toUInt32 >>> ((2 : Int32) &&& 31).toUInt32).toInt32) % (12 : Int32)) - (2 : Int32)).toInt64)), .second, .val (.int (k0 &&& (3 : Int32))), .val (.long ((j0 <<< ((32 : Int32) &&& 0x3f).toInt64) ||| ((((((k0.toUInt32 >>> ((2 : Int32) &&& 31).toUInt32).toInt32) % (12 : Int32)) - (2 : Int32)).toInt64) &&& (4294967295 : Int64)))), .second, .val (.ref w_STRING), .val (.ref w_STRING)] [(.long ((j0 <<< ((32 : Int32) &&& 0x3f).toInt64) ||| ((((((k0.toUInt32 >>> ((2 : Int32) &&& 31).toUInt32).toInt32) % (12 : Int32)) - (2 : Int32)).toInt64) &&& (4294967295 : Int64)))), (.long ((1 : Int32).toInt64))])) _
          refine XS.lcmp X72.here hx rfl (hb hby at_87) rfl ?_
          show Steps p.tables e below (T72.setTop (mkF m 88 #[.val (.long j0), .second, .val (.int k0), .val (.long (((((k0.toUInt32 >>> ((2 : Int32) &&& 31).toUInt32).toInt32) % (12 : Int32)) - (2 : Int32)).toInt64)), .second, .val (.int (k0 &&& (3 : Int32))), .val (.long ((j0 <<< ((32 : Int32) &&& 0x3f).toInt64) ||| ((((((k0.toUInt32 >>> ((2 : Int32) &&& 31).toUInt32).toInt32) % (12 : Int32)) - (2 : Int32)).toInt64) &&& (4294967295 : Int64)))), .second, .val (.ref w_STRING), .val (.ref w_STRING)] [(.int (lcmpW ((1 : Int32).toInt64) ((j0 <<< ((32 : Int32) &&& 0x3f).toInt64) ||| ((((((k0.toUInt32 >>> ((2 : Int32) &&& 31).toUInt32).toInt32) % (12 : Int32)) - (2 : Int32)).toInt64) &&& (4294967295 : Int64)))))])) _
          refine XS.ifYes X72.here hx rfl (pc0 := 88) (pc' := 93) rfl (hb hby at_88) rfl ((if0 _ _).trans (teq ((lw_eq ((1 : Int32).toInt64) ((j0 <<< ((32 : Int32) &&& 0x3f).toInt64) ||| ((((((k0.toUInt32 >>> ((2 : Int32) &&& 31).toUInt32).toInt32) % (12 : Int32)) - (2 : Int32)).toInt64) &&& (4294967295 : Int64)))).mpr (Eq.trans (by decide) ht1.symm))).1) (by decide) (by decide) ?_
          show Steps p.tables e below (T72.setTop (mkF m 93 #[.val (.long j0), .second, .val (.int k0), .val (.long (((((k0.toUInt32 >>> ((2 : Int32) &&& 31).toUInt32).toInt32) % (12 : Int32)) - (2 : Int32)).toInt64)), .second, .val (.int (k0 &&& (3 : Int32))), .val (.long ((j0 <<< ((32 : Int32) &&& 0x3f).toInt64) ||| ((((((k0.toUInt32 >>> ((2 : Int32) &&& 31).toUInt32).toInt32) % (12 : Int32)) - (2 : Int32)).toInt64) &&& (4294967295 : Int64)))), .second, .val (.ref w_STRING), .val (.ref w_STRING)] [])) _
          refine XS.iconst X72.here hx rfl (hb hby at_93) ?_
          show Steps p.tables e below (T72.setTop (mkF m 94 #[.val (.long j0), .second, .val (.int k0), .val (.long (((((k0.toUInt32 >>> ((2 : Int32) &&& 31).toUInt32).toInt32) % (12 : Int32)) - (2 : Int32)).toInt64)), .second, .val (.int (k0 &&& (3 : Int32))), .val (.long ((j0 <<< ((32 : Int32) &&& 0x3f).toInt64) ||| ((((((k0.toUInt32 >>> ((2 : Int32) &&& 31).toUInt32).toInt32) % (12 : Int32)) - (2 : Int32)).toInt64) &&& (4294967295 : Int64)))), .second, .val (.ref w_STRING), .val (.ref w_STRING)] [(.int (1 : Int32))])) _
          exact k_)
        obtain ⟨fs, hr, hrun, hended, hW, hsame⟩ := X72.leave (v := some (.int (1 : Int32))) (fun h => by rw [Bd.returns] at h; cases h)
        refine ⟨_, _, pre73 _ ?_, hrun, hended, _, _, rfl, ?_, ⟨_, rfl⟩, hW, hsame.mono (by decide) (by decide)⟩
        · show Steps p.tables e below (T72.setTop (mkF m 94 #[.val (.long j0), .second, .val (.int k0), .val (.long (((((k0.toUInt32 >>> ((2 : Int32) &&& 31).toUInt32).toInt32) % (12 : Int32)) - (2 : Int32)).toInt64)), .second, .val (.int (k0 &&& (3 : Int32))), .val (.long ((j0 <<< ((32 : Int32) &&& 0x3f).toInt64) ||| ((((((k0.toUInt32 >>> ((2 : Int32) &&& 31).toUInt32).toInt32) % (12 : Int32)) - (2 : Int32)).toInt64) &&& (4294967295 : Int64)))), .second, .val (.ref w_STRING), .val (.ref w_STRING)] [(.int (1 : Int32))])) _
          exact retN X72 hx (t := .boolean) Bd.returns (by simp) (hb hby at_94) hr
        · show Q_0 Z j0 k0 w_STRING w_HASHED_STRING w_CLASS w_INSTANCE w_ROOTS w_OBJECT_ARRAY w_PRIMITIVE_ARRAY w_LEGACY w_BY_TAG cl_BY_TAG h0 n0 _ T72.heap _
          rw [e72]
          exact ⟨rfl, N72⟩
      by_cases ht2 : ((j0 <<< ((32 : Int32) &&& 0x3f).toInt64) ||| ((((((k0.toUInt32 >>> ((2 : Int32) &&& 31).toUInt32).toInt32) % (12 : Int32)) - (2 : Int32)).toInt64) &&& (4294967295 : Int64))) = (2 : Int64)
      · have hq : (own_of ((j0 <<< ((32 : Int32) &&& 0x3f).toInt64) ||| ((((((k0.toUInt32 >>> ((2 : Int32) &&& 31).toUInt32).toInt32) % (12 : Int32)) - (2 : Int32)).toInt64) &&& (4294967295 : Int64))) w_STRING w_HASHED_STRING w_CLASS w_INSTANCE w_ROOTS w_OBJECT_ARRAY w_PRIMITIVE_ARRAY w_LEGACY) = .ref w_HASHED_STRING := by rw [own_of, if_neg ht1, if_pos ht2]
        rw [hq] at pre71
        obtain ⟨cq74, kq74, q74a, q74b, q74c⟩ := isOf hZ e70 E_HASHED_STRING
        obtain ⟨v74, _, ⟨T74, L74, k74, n74⟩, -, X74, ⟨Lc74, hQ74, l74, y74, z74⟩, st74⟩ := X70.virtualBack hx (y := (⟨"com/example/heapscribe/heapscribe/Bmd$RecordKind", "tag", "()I"⟩ : MethodName)) (z := (⟨"com/example/heapscribe/heapscribe/Bmd$RecordKind", "tag", "()I"⟩ : MethodName)) hown (mvT hZ (hw _ (List.mem_of_getElem? (i := 14) rfl))) (mvT hZ (hw _ (List.mem_of_getElem? (i := 15) rfl))) (notFace_of_selects (args := #[]) (mvT hZ (hw _ (List.mem_of_getElem? (i := 17) rfl)))) (mvT hZ (hw _ (List.mem_of_getElem? (i := 17) rfl))) (mvT hZ (hw _ (List.mem_of_getElem? (i := 16) rfl))) (by decide) (backOf (W := 0) (rm_3 l Z a0 hw [] w_HASHED_STRING (2 : Int32) h0 n0 Z0 F_HASHED_STRING_tag) hZ (hw _ (List.mem_of_getElem? (i := 18) rfl)) (hw _ (List.mem_of_getElem? (i := 2) rfl)) (by decide) (by decide)) q74a q74c (g := (mkF m 81 #[.val (.long j0), .second, .val (.int k0), .val (.long (((((k0.toUInt32 >>> ((2 : Int32) &&& 31).toUInt32).toInt32) % (12 : Int32)) - (2 : Int32)).toInt64)), .second, .val (.int (k0 &&& (3 : Int32))), .val (.long ((j0 <<< ((32 : Int32) &&& 0x3f).toInt64) ||| ((((((k0.toUInt32 >>> ((2 : Int32) &&& 31).toUInt32).toInt32) % (12 : Int32)) - (2 : Int32)).toInt64) &&& (4294967295 : Int64)))), .second, .val (.ref w_HASHED_STRING), .val (.ref w_HASHED_STRING)] [(.ref w_HASHED_STRING)])) rfl (by rw [hml]; rfl) (Steps.refl _) (argsL := []) (rest := []) (lenOf pd_1 rfl) rfl (by show 2 * 0 + _ ≤ _; exact Nat.le_of_eq rfl) (hb hby at_81) (fun _ _ => ⟨rfl, e70, (by decide : 0 + 0 ≤ _), (by decide : 0 + 0 ≤ _)⟩)
        dsimp only [Pt.U, Pt.locs, Pt.cells, Pt.slots] at X74 l74 y74 z74 st74 hQ74
        subst l74 y74 z74
        obtain ⟨hv74, N74q, e74⟩ := hQ74
        have N74 := Fr.app N70 N74q
        subst hv74
        have pre75 : ∀ t_, Steps p.tables e below (T74.setTop (mkF m 94 #[.val (.long j0), .second, .val (.int k0), .val (.long (((((k0.toUInt32 >>> ((2 : Int32) &&& 31).toUInt32).toInt32) % (12 : Int32)) - (2 : Int32)).toInt64)), .second, .val (.int (k0 &&& (3 : Int32))), .val (.long ((j0 <<< ((32 : Int32) &&& 0x3f).toInt64) ||| ((((((k0.toUInt32 >>> ((2 : Int32) &&& 31).toUInt32).toInt32) % (12 : Int32)) - (2 : Int32)).toInt64) &&& (4294967295 : Int64)))), .second, .val (.ref w_HASHED_STRING), .val (.ref w_HASHED_STRING)] [(.int (1 : Int32))])) t_ → Steps p.tables e below (s₁.setTop (entryFrame m #[(.long j0), (.int k0)] maxLocals)) t_ := fun t_ k_ => pre71 t_ (by
          show Steps p.tables e below (T70.setTop (mkF m 74 #[.val (.long j0), .second, .val (.int k0), .val (.long (((((k0.toUInt32 >>> ((2 : Int32) &&& 31).toUInt32).toInt32) % (12 : Int32)) - (2 : Int32)).toInt64)), .second, .val (.int (k0 &&& (3 : Int32))), .val (.long ((j0 <<< ((32 : Int32) &&& 0x3f).toInt64) ||| ((((((k0.toUInt32 >>> ((2 : Int32) &&& 31).toUInt32).toInt32) % (12 : Int32)) - (2 : Int32)).toInt64) &&& (4294967295 : Int64)))), .second, .val (.ref w_HASHED_STRING), .val (.ref w_HASHED_STRING)] [])) _
          refine XS.aload X70.here hx rfl (hb hby at_74) rfl rfl ?_
          show Steps p.tables e below (T70.setTop (mkF m 76 #[.val (.long j0), .second, .val (.int k0), .val (.long (((((k0.toUInt32 >>> ((2 : Int32) &&& 31).toUInt32).toInt32) % (12 : Int32)) - (2 : Int32)).toInt64)), .second, .val (.int (k0 &&& (3 : Int32))), .val (.long ((j0 <<< ((32 : Int32) &&& 0x3f).toInt64) ||| ((((((k0.toUInt32 >>> ((2 : Int32) &&& 31).toUInt32).toInt32) % (12 : Int32)) - (2 : Int32)).toInt64) &&& (4294967295 : Int64)))), .second, .val (.ref w_HASHED_STRING), .val (.ref w_HASHED_STRING)] [(.ref w_HASHED_STRING)])) _
          refine XS.ifnullNo X70.here hx rfl (hb hby at_76) rfl ?_
          show Steps p.tables e below (T70.setTop (mkF m 79 #[.val (.long j0), .second, .val (.int k0), .val (.long (((((k0.toUInt32 >>> ((2 : Int32) &&& 31).toUInt32).toInt32) % (12 : Int32)) - (2 : Int32)).toInt64)), .second, .val (.int (k0 &&& (3 : Int32))), .val (.long ((j0 <<< ((32 : Int32) &&& 0x3f).toInt64) ||| ((((((k0.toUInt32 >>> ((2 : Int32) &&& 31).toUInt32).toInt32) % (12 : Int32)) - (2 : Int32)).toInt64) &&& (4294967295 : Int64)))), .second, .val (.ref w_HASHED_STRING), .val (.ref w_HASHED_STRING)] [])) _
          refine XS.aload X70.here hx rfl (hb hby at_79) rfl rfl ?_
          show Steps p.tables e below (T70.setTop (mkF m 81 #[.val (.long j0), .second, .val (.int k0), .val (.long (((((k0.toUInt32 >>> ((2 : Int32) &&& 31).toUInt32).toInt32) % (12 : Int32)) - (2 : Int32)).toInt64)), .second, .val (.int (k0 &&& (3 : Int32))), .val (.long ((j0 <<< ((32 : Int32) &&& 0x3f).toInt64) ||| ((((((k0.toUInt32 >>> ((2 : Int32) &&& 31).toUInt32).toInt32) % (12 : Int32)) - (2 : Int32)).toInt64) &&& (4294967295 : Int64)))), .second, .val (.ref w_HASHED_STRING), .val (.ref w_HASHED_STRING)] [(.ref w_HASHED_STRING)])) _
          refine st74.trans ?_
          show Steps p.tables e below (T74.setTop (mkF m 84 #[.val (.long j0), .second, .val (.int k0), .val (.long (((((k0.toUInt32 >>> ((2 : Int32) &&& 31).toUInt32).toInt32) % (12 : Int32)) - (2 : Int32)).toInt64)), .second, .val (.int (k0 &&& (3 : Int32))), .val (.long ((j0 <<< ((32 : Int32) &&& 0x3f).toInt64) ||| ((((((k0.toUInt32 >>> ((2 : Int32) &&& 31).toUInt32).toInt32) % (12 : Int32)) - (2 : Int32)).toInt64) &&& (4294967295 : Int64)))), .second, .val (.ref w_HASHED_STRING), .val (.ref w_HASHED_STRING)] [(.int (2 : Int32))])) _
          refine XS.i2l X74.here hx rfl (hb hby at_84) rfl ?_
          show Steps p.tables e below (T74.setTop (mkF m 85 #[.val (.long j0), .second, .val (.int k0), .val (.long (((((k0.toUInt32 >>> ((2 : Int32) &&& 31).toUInt32).toInt32) % (12 : Int32)) - (2 : Int32)).toInt64)), .second, .val (.int (k0 &&& (3 : Int32))), .val (.long ((j0 <<< ((32 : Int32) &&& 0x3f).toInt64) ||| ((((((k0.toUInt32 >>> ((2 : Int32) &&& 31).toUInt32).toInt32) % (12 : Int32)) - (2 : Int32)).toInt64) &&& (4294967295 : Int64)))), .second, .val (.ref w_HASHED_STRING), .val (.ref w_HASHED_STRING)] [(.long ((2 : Int32).toInt64))])) _
          refine XS.lload X74.here hx rfl (hb hby at_85) rfl ?_
          show Steps p.tables e below (T74.setTop (mkF m 87 #[.val (.long j0), .second, .val (.int k0), .val (.long (((((k0.toUInt32 >>> ((2 : Int32) &&& 31).toUInt32).toInt32) % (12 : Int32)) - (2 : Int32)).toInt64)), .second, .val (.int (k0 &&& (3 : Int32))), .val (.long ((j0 <<< ((32 : Int32) &&& 0x3f).toInt64) ||| ((((((k0.toUInt32 >>> ((2 : Int32) &&& 31).toUInt32).toInt32) % (12 : Int32)) - (2 : Int32)).toInt64) &&& (4294967295 : Int64)))), .second, .val (.ref w_HASHED_STRING), .val (.ref w_HASHED_STRING)] [(.long ((j0 <<< ((32 : Int32) &&& 0x3f).toInt64) ||| ((((((k0.toUInt32 >>> ((2 : Int32) &&& 31).toUInt32).toInt32) % (12 : Int32)) - (2 : Int32)).toInt64) &&& (4294967295 : Int64)))), (.long ((2 : Int32).toInt64))])) _
          refine XS.lcmp X74.here hx rfl (hb hby at_87) rfl ?_
          show Steps p.tables e below (T74.setTop (mkF m 88 #[.val (.long j0), .second, .val (.int k0), .val (.long (((((k0.toUInt32 >>> ((2 : Int32) &&& 31).toUInt32).toInt32) % (12 : Int32)) - (2 : Int32)).toInt64)), .second, .val (.int (k0 &&& (3 : Int32))), .val (.long ((j0 <<< ((32 : Int32) &&& 0x3f).toInt64) ||| ((((((k0.toUInt32 >>> ((2 : Int32) &&& 31).toUInt32).toInt32) % (12 : Int32)) - (2 : Int32)).toInt64) &&& (4294967295 : Int64)))), .second, .val (.ref w_HASHED_STRING), .val (.ref w_HASHED_STRING)] [(.int (lcmpW ((2 : Int32).toInt64) ((j0 <<< ((32 : Int32) &&& 0x3f).toInt64) ||| ((((((k0.toUInt32 >>> ((2 : Int32) &&& 31).toUInt32).toInt32) % (12 : Int32)) - (2 : Int32)).toInt64) &&& (4294967295 : Int64)))))])) _
          refine XS.ifYes X74.here hx rfl (pc0 := 88) (pc' := 93) rfl (hb hby at_88) rfl ((if0 _ _).trans (teq ((lw_eq ((2 : Int32).toInt64) ((j0 <<< ((32 : Int32) &&& 0x3f).toInt64) ||| ((((((k0.toUInt32 >>> ((2 : Int32) &&& 31).toUInt32).toInt32) % (12 : Int32)) - (2 : Int32)).toInt64) &&& (4294967295 : Int64)))).mpr (Eq.trans (by decide) ht2.symm))).1) (by decide) (by decide) ?_
          show Steps p.tables e below (T74.setTop (mkF m 93 #[.val (.long j0), .second, .val (.int k0), .val (.long (((((k0.toUInt32 >>> ((2 : Int32) &&& 31).toUInt32).toInt32) % (12 : Int32)) - (2 : Int32)).toInt64)), .second, .val (.int (k0 &&& (3 : Int32))), .val (.long ((j0 <<< ((32 : Int32) &&& 0x3f).toInt64) ||| ((((((k0.toUInt32 >>> ((2 : Int32) &&& 31).toUInt32).toInt32) % (12 : Int32)) - (2 : Int32)).toInt64) &&& (4294967295 : Int64)))), .second, .val (.ref w_HASHED_STRING), .val (.ref w_HASHED_STRING)] [])) _
          refine XS.iconst X74.here hx rfl (hb hby at_93) ?_
          show Steps p.tables e below (T74.setTop (mkF m 94 #[.val (.long j0), .second, .val (.int k0), .val (.long (((((k0.toUInt32 >>> ((2 : Int32) &&& 31).toUInt32).toInt32) % (12 : Int32)) - (2 : Int32)).toInt64)), .second, .val (.int (k0 &&& (3 : Int32))), .val (.long ((j0 <<< ((32 : Int32) &&& 0x3f).toInt64) ||| ((((((k0.toUInt32 >>> ((2 : Int32) &&& 31).toUInt32).toInt32) % (12 : Int32)) - (2 : Int32)).toInt64) &&& (4294967295 : Int64)))), .second, .val (.ref w_HASHED_STRING), .val (.ref w_HASHED_STRING)] [(.int (1 : Int32))])) _
          exact k_)
        obtain ⟨fs, hr, hrun, hended, hW, hsame⟩ := X74.leave (v := some (.int (1 : Int32))) (fun h => by rw [Bd.returns] at h; cases h)
        refine ⟨_, _, pre75 _ ?_, hrun, hended, _, _, rfl, ?_, ⟨_, rfl⟩, hW, hsame.mono (by decide) (by decide)⟩
        · show Steps p.tables e below (T74.setTop (mkF m 94 #[.val (.long j0), .second, .val (.int k0), .val (.long (((((k0.toUInt32 >>> ((2 : Int32) &&& 31).toUInt32).toInt32) % (12 : Int32)) - (2 : Int32)).toInt64)), .second, .val (.int (k0 &&& (3 : Int32))), .val (.long ((j0 <<< ((32 : Int32) &&& 0x3f).toInt64) ||| ((((((k0.toUInt32 >>> ((2 : Int32) &&& 31).toUInt32).toInt32) % (12 : Int32)) - (2 : Int32)).toInt64) &&& (4294967295 : Int64)))), .second, .val (.ref w_HASHED_STRING), .val (.ref w_HASHED_STRING)] [(.int (1 : Int32))])) _
          exact retN X74 hx (t := .boolean) Bd.returns (by simp) (hb hby at_94) hr
        · show Q_0 Z j0 k0 w_STRING w_HASHED_STRING w_CLASS w_INSTANCE w_ROOTS w_OBJECT_ARRAY w_PRIMITIVE_ARRAY w_LEGACY w_BY_TAG cl_BY_TAG h0 n0 _ T74.heap _
          rw [e74]
          exact ⟨rfl, N74⟩
      by_cases ht3 : ((j0 <<< ((32 : Int32) &&& 0x3f).toInt64) ||| ((((((k0.toUInt32 >>> ((2 : Int32) &&& 31).toUInt32).toInt32) % (12 : Int32)) - (2 : Int32)).toInt64) &&& (4294967295 : Int64))) = (3 : Int64)
      · have hq : (own_of ((j0 <<< ((32 : Int32) &&& 0x3f).toInt64) ||| ((((((k0.toUInt32 >>> ((2 : Int32) &&& 31).toUInt32).toInt32) % (12 : Int32)) - (2 : Int32)).toInt64) &&& (4294967295 : Int64))) w_STRING w_HASHED_STRING w_CLASS w_INSTANCE w_ROOTS w_OBJECT_ARRAY w_PRIMITIVE_ARRAY w_LEGACY) = .ref w_CLASS := by rw [own_of, if_neg ht1, if_neg ht2, if_pos ht3]
        rw [hq] at pre71
        obtain ⟨cq76, kq76, q76a, q76b, q76c⟩ := isOf hZ e70 E_CLASS
        obtain ⟨v76, _, ⟨T76, L76, k76, n76⟩, -, X76, ⟨Lc76, hQ76, l76, y76, z76⟩, st76⟩ := X70.virtualBack hx (y := (⟨"com/example/heapscribe/heapscribe/Bmd$RecordKind", "tag", "()I"⟩ : MethodName)) (z := (⟨"com/example/heapscribe/heapscribe/Bmd$RecordKind", "tag", "()I"⟩ : MethodName)) hown (mvT hZ (hw _ (List.mem_of_getElem? (i := 14) rfl))) (mvT hZ (hw _ (List.mem_of_getElem? (i := 15) rfl))) (notFace_of_selects (args := #[]) (mvT hZ (hw _ (List.mem_of_getElem? (i := 17) rfl)))) (mvT hZ (hw _ (List.mem_of_getElem? (i := 17) rfl))) (mvT hZ (hw _ (List.mem_of_getElem? (i := 16) rfl))) (by decide) (backOf (W := 0) (rm_3 l Z a0 hw [] w_CLASS (3 : Int32) h0 n0 Z0 F_CLASS_tag) hZ (hw _ (List.mem_of_getElem? (i := 18) rfl)) (hw _ (List.mem_of_getElem? (i := 2) rfl)) (by decide) (by decide)) q76a q76c (g := (mkF m 81 #[.val (.long j0), .second, .val (.int k0), .val (.long (((((k0.toUInt32 >>> ((2 : Int32) &&& 31).toUInt32).toInt32) % (12 : Int32)) - (2 : Int32)).toInt64)), .second, .val (.int (k0 &&& (3 : Int32))), .val (.long ((j0 <<< ((32 : Int32) &&& 0x3f).toInt64) ||| ((((((k0.toUInt32 >>> ((2 : Int32) &&& 31).toUInt32).toInt32) % (12 : Int32)) - (2 : Int32)).toInt64) &&& (4294967295 : Int64)))), .second, .val (.ref w_CLASS), .val (.ref w_CLASS)] [(.ref w_CLASS)])) rfl (by rw [hml]; rfl) (Steps.refl _) (argsL := []) (rest := []) (lenOf pd_1 rfl) rfl (by show 2 * 0 + _ ≤ _; exact Nat.le_of_eq rfl) (hb hby at_81) (fun _ _ => ⟨rfl, e70, (by decide : 0 + 0 ≤ _), (by decide : 0 + 0 ≤ _)⟩)
        dsimp only [Pt.U, Pt.locs, Pt.cells, Pt.slots] at X76 l76 y76 z76 st76 hQ76
        subst l76 y76 z76
        obtain ⟨hv76, N76q, e76⟩ := hQ76
        have N76 := Fr.app N70 N76q
        subst hv76
        have pre77 : ∀ t_, Steps p.tables e below (T76.setTop (mkF m 94 #[.val (.long j0), .second, .val (.int k0), .val (.long (((((k0.toUInt32 >>> ((2 : Int32) &&& 31).toUInt32).toInt32) % (12 : Int32)) - (2 : Int32)).toInt64)), .second, .val (.int (k0 &&& (3 : Int32))), .val (.long ((j0 <<< ((32 : Int32) &&& 0x3f).toInt64) ||| ((((((k0.toUInt32 >>> ((2 : Int32) &&& 31).toUInt32).toInt32) % (12 : Int32)) - (2 : Int32)).toInt64) &&& (4294967295 : Int64)))), .second, .val (.ref w_CLASS), .val (.ref w_CLASS)] [(.int (1 : Int32))])) t_ → Steps p.tables e below (s₁.setTop (entryFrame m #[(.long j0), (.int k0)] maxLocals)) t_ := fun t_ k_ => pre71 t_ (by
          show Steps p.tables e below (T70.setTop (mkF m 74 #[.val (.long j0), .second, .val (.int k0), .val (.long (((((k0.toUInt32 >>> ((2 : Int32) &&& 31).toUInt32).toInt32) % (12 : Int32)) - (2 : Int32)).toInt64)), .second, .val (.int (k0 &&& (3 : Int32))), .val (.long ((j0 <<< ((32 : Int32) &&& 0x3f).toInt64) ||| ((((((k0.toUInt32 >>> ((2 : Int32) &&& 31).toUInt32).toInt32) % (12 : Int32)) - (2 : Int32)).toInt64) &&& (4294967295 : Int64)))), .second, .val (.ref w_CLASS), .val (.ref w_CLASS)] [])) _
          refine XS.aload X70.here hx rfl (hb hby at_74) rfl rfl ?_
          show Steps p.tables e below (T70.setTop (mkF m 76 #[.val (.long j0), .second, .val (.int k0), .val (.long (((((k0.toUInt32 >>> ((2 : Int32) &&& 31).toUInt32).toInt32) % (12 : Int32)) - (2 : Int32)).toInt64)), .second, .val (.int (k0 &&& (3 : Int32))), .val (.long ((j0 <<< ((32 : Int32) &&& 0x3f).toInt64) ||| ((((((k0.toUInt32 >>> ((2 : Int32) &&& 31).toUInt32).toInt32) % (12 : Int32)) - (2 : Int32)).toInt64) &&& (4294967295 : Int64)))), .second, .val (.ref w_CLASS), .val (.ref w_CLASS)] [(.ref w_CLASS)])) _
          refine XS.ifnullNo X70.here hx rfl (hb hby at_76) rfl ?_
          show Steps p.tables e below (T70.setTop (mkF m 79 #[.val (.long j0), .second, .val (.int k0), .val (.long (((((k0.toUInt32 >>> ((2 : Int32) &&& 31).toUInt32).toInt32) % (12 : Int32)) - (2 : Int32)).toInt64)), .second, .val (.int (k0 &&& (3 : Int32))), .val (.long ((j0 <<< ((32 : Int32) &&& 0x3f).toInt64) ||| ((((((k0.toUInt32 >>> ((2 : Int32) &&& 31).toUInt32).toInt32) % (12 : Int32)) - (2 : Int32)).toInt64) &&& (4294967295 : Int64)))), .second, .val (.ref w_CLASS), .val (.ref w_CLASS)] [])) _
          refine XS.aload X70.here hx rfl (hb hby at_79) rfl rfl ?_
          show Steps p.tables e below (T70.setTop (mkF m 81 #[.val (.long j0), .second, .val (.int k0), .val (.long (((((k0.toUInt32 >>> ((2 : Int32) &&& 31).toUInt32).toInt32) % (12 : Int32)) - (2 : Int32)).toInt64)), .second, .val (.int (k0 &&& (3 : Int32))), .val (.long ((j0 <<< ((32 : Int32) &&& 0x3f).toInt64) ||| ((((((k0.toUInt32 >>> ((2 : Int32) &&& 31).toUInt32).toInt32) % (12 : Int32)) - (2 : Int32)).toInt64) &&& (4294967295 : Int64)))), .second, .val (.ref w_CLASS), .val (.ref w_CLASS)] [(.ref w_CLASS)])) _
          refine st76.trans ?_
          show Steps p.tables e below (T76.setTop (mkF m 84 #[.val (.long j0), .second, .val (.int k0), .val (.long (((((k0.toUInt32 >>> ((2 : Int32) &&& 31).toUInt32).toInt32) % (12 : Int32)) - (2 : Int32)).toInt64)), .second, .val (.int (k0 &&& (3 : Int32))), .val (.long ((j0 <<< ((32 : Int32) &&& 0x3f).toInt64) ||| ((((((k0.toUInt32 >>> ((2 : Int32) &&& 31).toUInt32).toInt32) % (12 : Int32)) - (2 : Int32)).toInt64) &&& (4294967295 : Int64)))), .second, .val (.ref w_CLASS), .val (.ref w_CLASS)] [(.int (3 : Int32))])) _
          refine XS.i2l X76.here hx rfl (hb hby at_84) rfl ?_
          show Steps p.tables e below (T76.setTop (mkF m 85 #[.val (.long j0), .second, .val (.int k0), .val (.long (((((k0.toUInt32 >>> ((2 : Int32) &&& 31).toUInt32).toInt32) % (12 : Int32)) - (2 : Int32)).toInt64)), .second, .val (.int (k0 &&& (3 : Int32))), .val (.long ((j0 <<< ((32 : Int32) &&& 0x3f).toInt64) ||| ((((((k0.toUInt32 >>> ((2 : Int32) &&& 31).toUInt32).toInt32) % (12 : Int32)) - (2 : Int32)).toInt64) &&& (4294967295 : Int64)))), .second, .val (.ref w_CLASS), .val (.ref w_CLASS)] [(.long ((3 : Int32).toInt64))])) _
          refine XS.lload X76.here hx rfl (hb hby at_85) rfl ?_
          show Steps p.tables e below (T76.setTop (mkF m 87 #[.val (.long j0), .second, .val (.int k0), .val (.long (((((k0.toUInt32 >>> ((2 : Int32) &&& 31).toUInt32).toInt32) % (12 : Int32)) - (2 : Int32)).toInt64)), .second, .val (.int (k0 &&& (3 : Int32))), .val (.long ((j0 <<< ((32 : Int32) &&& 0x3f).toInt64) ||| ((((((k0.toUInt32 >>> ((2 : Int32) &&& 31).toUInt32).toInt32) % (12 : Int32)) - (2 : Int32)).toInt64) &&& (4294967295 : Int64)))), .second, .val (.ref w_CLASS), .val (.ref w_CLASS)] [(.long ((j0 <<< ((32 : Int32) &&& 0x3f).toInt64) ||| ((((((k0.toUInt32 >>> ((2 : Int32) &&& 31).toUInt32).toInt32) % (12 : Int32)) - (2 : Int32)).toInt64) &&& (4294967295 : Int64)))), (.long ((3 : Int32).toInt64))])) _
          refine XS.lcmp X76.here hx rfl (hb hby at_87) rfl ?_
          show Steps p.tables e below (T76.setTop (mkF m 88 #[.val (.long j0), .second, .val (.int k0), .val (.long (((((k0.toUInt32 >>> ((2 : Int32) &&& 31).toUInt32).toInt32) % (12 : Int32)) - (2 : Int32)).toInt64)), .second, .val (.int (k0 &&& (3 : Int32))), .val (.long ((j0 <<< ((32 : Int32) &&& 0x3f).toInt64) ||| ((((((k0.toUInt32 >>> ((2 : Int32) &&& 31).toUInt32).toInt32) % (12 : Int32)) - (2 : Int32)).toInt64) &&& (4294967295 : Int64)))), .second, .val (.ref w_CLASS), .val (.ref w_CLASS)] [(.int (lcmpW ((3 : Int32).toInt64) ((j0 <<< ((32 : Int32) &&& 0x3f).toInt64) ||| ((((((k0.toUInt32 >>> ((2 : Int32) &&& 31).toUInt32).toInt32) % (12 : Int32)) - (2 : Int32)).toInt64) &&& (4294967295 : Int64)))))])) _
          refine XS.ifYes X76.here hx rfl (pc0 := 88) (pc' := 93) rfl (hb hby at_88) rfl ((if0 _ _).trans (teq ((lw_eq ((3 : Int32).toInt64) ((j0 <<< ((32 : Int32) &&& 0x3f).toInt64) ||| ((((((k0.toUInt32 >>> ((2 : Int32) &&& 31).toUInt32).toInt32) % (12 : Int32)) - (2 : Int32)).toInt64) &&& (4294967295 : Int64)))).mpr (Eq.trans (by decide) ht3.symm))).1) (by decide) (by decide) ?_
          show Steps p.tables e below (T76.setTop (mkF m 93 #[.val (.long j0), .second, .val (.int k0), .val (.long (((((k0.toUInt32 >>> ((2 : Int32) &&& 31).toUInt32).toInt32) % (12 : Int32)) - (2 : Int32)).toInt64)), .second, .val (.int (k0 &&& (3 : Int32))), .val (.long ((j0 <<< ((32 : Int32) &&& 0x3f).toInt64) ||| ((((((k0.toUInt32 >>> ((2 : Int32) &&& 31).toUInt32).toInt32) % (12 : Int32)) - (2 : Int32)).toInt64) &&& (4294967295 : Int64)))), .second, .val (.ref w_CLASS), .val (.ref w_CLASS)] [])) _
          refine XS.iconst X76.here hx rfl (hb hby at_93) ?_
          show Steps p.tables e below (T76.setTop (mkF m 94 #[.val (.long j0), .second, .val (.int k0), .val (.long (((((k0.toUInt32 >>> ((2 : Int32) &&& 31).toUInt32).toInt32) % (12 : Int32)) - (2 : Int32)).toInt64)), .second, .val (.int (k0 &&& (3 : Int32))), .val (.long ((j0 <<< ((32 : Int32) &&& 0x3f).toInt64) ||| ((((((k0.toUInt32 >>> ((2 : Int32) &&& 31).toUInt32).toInt32) % (12 : Int32)) - (2 : Int32)).toInt64) &&& (4294967295 : Int64)))), .second, .val (.ref w_CLASS), .val (.ref w_CLASS)] [(.int (1 : Int32))])) _
          exact k_)
        obtain ⟨fs, hr, hrun, hended, hW, hsame⟩ := X76.leave (v := some (.int (1 : Int32))) (fun h => by rw [Bd.returns] at h; cases h)
        refine ⟨_, _, pre77 _ ?_, hrun, hended, _, _, rfl, ?_, ⟨_, rfl⟩, hW, hsame.mono (by decide) (by decide)⟩
        · show Steps p.tables e below (T76.setTop (mkF m 94 #[.val (.long j0), .second, .val (.int k0), .val (.long (((((k0.toUInt32 >>> ((2 : Int32) &&& 31).toUInt32).toInt32) % (12 : Int32)) - (2 : Int32)).toInt64)), .second, .val (.int (k0 &&& (3 : Int32))), .val (.long ((j0 <<< ((32 : Int32) &&& 0x3f).toInt64) ||| ((((((k0.toUInt32 >>> ((2 : Int32) &&& 31).toUInt32).toInt32) % (12 : Int32)) - (2 : Int32)).toInt64) &&& (4294967295 : Int64)))), .second, .val (.ref w_CLASS), .val (.ref w_CLASS)] [(.int (1 : Int32))])) _
          exact retN X76 hx (t := .boolean) Bd.returns (by simp) (hb hby at_94) hr
        · show Q_0 Z j0 k0 w_STRING w_HASHED_STRING w_CLASS w_INSTANCE w_ROOTS w_OBJECT_ARRAY w_PRIMITIVE_ARRAY w_LEGACY w_BY_TAG cl_BY_TAG h0 n0 _ T76.heap _
          rw [e76]
          exact ⟨rfl, N76⟩
      by_cases ht4 : ((j0 <<< ((32 : Int32) &&& 0x3f).toInt64) ||| ((((((k0.toUInt32 >>> ((2 : Int32) &&& 31).toUInt32).toInt32) % (12 : Int32)) - (2 : Int32)).toInt64) &&& (4294967295 : Int64))) = (4 : Int64)
      · have hq : (own_of ((j0 <<< ((32 : Int32) &&& 0x3f).toInt64) ||| ((((((k0.toUInt32 >>> ((2 : Int32) &&& 31).toUInt32).toInt32) % (12 : Int32)) - (2 : Int32)).toInt64) &&& (4294967295 : Int64))) w_STRING w_HASHED_STRING w_CLASS w_INSTANCE w_ROOTS w_OBJECT_ARRAY w_PRIMITIVE_ARRAY w_LEGACY) = .ref w_INSTANCE := by rw [own_of, if_neg ht1, if_neg ht2, if_neg ht3, if_pos ht4]
        rw [hq] at pre71
        obtain ⟨cq78, kq78, q78a, q78b, q78c⟩ := isOf hZ e70 E_INSTANCE
        obtain ⟨v78, _, ⟨T78, L78, k78, n78⟩, -, X78, ⟨Lc78, hQ78, l78, y78, z78⟩, st78⟩ := X70.virtualBack hx (y := (⟨"com/example/heapscribe/heapscribe/Bmd$RecordKind", "tag", "()I"⟩ : MethodName)) (z := (⟨"com/example/heapscribe/heapscribe/Bmd$RecordKind", "tag", "()I"⟩ : MethodName)) hown (mvT hZ (hw _ (List.mem_of_getElem? (i := 14) rfl))) (mvT hZ (hw _ (List.mem_of_getElem? (i := 15) rfl))) (notFace_of_selects (args := #[]) (mvT hZ (hw _ (List.mem_of_getElem? (i := 17) rfl)))) (mvT hZ (hw _ (List.mem_of_getElem? (i := 17) rfl))) (mvT hZ (hw _ (List.mem_of_getElem? (i := 16) rfl))) (by decide) (backOf (W := 0) (rm_3 l Z a0 hw [] w_INSTANCE (4 : Int32) h0 n0 Z0 F_INSTANCE_tag) hZ (hw _ (List.mem_of_getElem? (i := 18) rfl)) (hw _ (List.mem_of_getElem? (i := 2) rfl)) (by decide) (by decide)) q78a q78c (g := (mkF m 81 #[.val (.long j0), .second, .val (.int k0), .val (.long (((((k0.toUInt32 >>> ((2 : Int32) &&& 31).toUInt32).toInt32) % (12 : Int32)) - (2 : Int32)).toInt64)), .second, .val (.int (k0 &&& (3 : Int32))), .val (.long ((j0 <<< ((32 : Int32) &&& 0x3f).toInt64) ||| ((((((k0.toUInt32 >>> ((2 : Int32) &&& 31).toUInt32).toInt32) % (12 : Int32)) - (2 : Int32)).toInt64) &&& (4294967295 : Int64)))), .second, .val (.ref w_INSTANCE), .val (.ref w_INSTANCE)] [(.ref w_INSTANCE)])) rfl (by rw [hml]; rfl) (Steps.refl _) (argsL := []) (rest := []) (lenOf pd_1 rfl) rfl (by show 2 * 0 + _ ≤ _; exact Nat.le_of_eq rfl) (hb hby at_81) (fun _ _ => ⟨rfl, e70, (by decide : 0 + 0 ≤ _), (by decide : 0 + 0 ≤ _)⟩)
        dsimp only [Pt.U, Pt.locs, Pt.cells, Pt.slots] at X78 l78 y78 z78 st78 hQ78
        subst l78 y78 z78
        obtain ⟨hv78, N78q, e78⟩ := hQ78
        have N78 := Fr.app N70 N78q
        subst hv78
        have pre79 : ∀ t_, Steps p.tables e below (T78.setTop (mkF m 94 #[.val (.long j0), .second, .val (.int k0), .val (.long (((((k0.toUInt32 >>> ((2 : Int32) &&& 31).toUInt32).toInt32) % (12 : Int32)) - (2 : Int32)).toInt64)), .second, .val (.int (k0 &&& (3 : Int32))), .val (.long ((j0 <<< ((32 : Int32) &&& 0x3f).toInt64) ||| ((((((k0.toUInt32 >>> ((2 : Int32) &&& 31).toUInt32).toInt32) % (12 : Int32)) - (2 : Int32)).toInt64) &&& (4294967295 : Int64)))), .second, .val (.ref w_INSTANCE), .val (.ref w_INSTANCE)] [(.int (1 : Int32))])) t_ → Steps p.tables e below (s₁.setTop (entryFrame m #[(.long j0), (.int k0)] maxLocals)) t_ := fun t_ k_ => pre71 t_ (by
          show Steps p.tables e below (T70.setTop (mkF m 74 #[.val (.long j0), .second, .val (.int k0), .val (.long (((((k0.toUInt32 >>> ((2 : Int32) &&& 31).toUInt32).toInt32) % (12 : Int32)) - (2 : Int32)).toInt64)), .second, .val (.int (k0 &&& (3 : Int32))), .val (.long ((j0 <<< ((32 : Int32) &&& 0x3f).toInt64) ||| ((((((k0.toUInt32 >>> ((2 : Int32) &&& 31).toUInt32).toInt32) % (12 : Int32)) - (2 : Int32)).toInt64) &&& (4294967295 : Int64)))), .second, .val (.ref w_INSTANCE), .val (.ref w_INSTANCE)] [])) _
          refine XS.aload X70.here hx rfl (hb hby at_74) rfl rfl ?_
          show Steps p.tables e below (T70.setTop (mkF m 76 #[.val (.long j0), .second, .val (.int k0), .val (.long (((((k0.toUInt32 >>> ((2 : Int32) &&& 31).toUInt32).toInt32) % (12 : Int32)) - (2 : Int32)).toInt64)), .second, .val (.int (k0 &&& (3 : Int32))), .val (.long ((j0 <<< ((32 : Int32) &&& 0x3f).toInt64) ||| ((((((k0.toUInt32 >>> ((2 : Int32) &&& 31).toUInt32).toInt32) % (12 : Int32)) - (2 : Int32)).toInt64) &&& (4294967295 : Int64)))), .second, .val (.ref w_INSTANCE), .val (.ref w_INSTANCE)] [(.ref w_INSTANCE)])) _
          refine XS.ifnullNo X70.here hx rfl (hb hby at_76) rfl ?_
          show Steps p.tables e below (T70.setTop (mkF m 79 #[.val (.long j0), .second, .val (.int k0), .val (.long (((((k0.toUInt32 >>> ((2 : Int32) &&& 31).toUInt32).toInt32) % (12 : Int32)) - (2 : Int32)).toInt64)), .second, .val (.int (k0 &&& (3 : Int32))), .val (.long ((j0 <<< ((32 : Int32) &&& 0x3f).toInt64) ||| ((((((k0.toUInt32 >>> ((2 : Int32) &&& 31).toUInt32).toInt32) % (12 : Int32)) - (2 : Int32)).toInt64) &&& (4294967295 : Int64)))), .second, .val (.ref w_INSTANCE), .val (.ref w_INSTANCE)] [])) _
          refine XS.aload X70.here hx rfl (hb hby at_79) rfl rfl ?_
          show Steps p.tables e below (T70.setTop (mkF m 81 #[.val (.long j0), .second, .val (.int k0), .val (.long (((((k0.toUInt32 >>> ((2 : Int32) &&& 31).toUInt32).toInt32) % (12 : Int32)) - (2 : Int32)).toInt64)), .second, .val (.int (k0 &&& (3 : Int32))), .val (.long ((j0 <<< ((32 : Int32) &&& 0x3f).toInt64) ||| ((((((k0.toUInt32 >>> ((2 : Int32) &&& 31).toUInt32).toInt32) % (12 : Int32)) - (2 : Int32)).toInt64) &&& (4294967295 : Int64)))), .second, .val (.ref w_INSTANCE), .val (.ref w_INSTANCE)] [(.ref w_INSTANCE)])) _
          refine st78.trans ?_
          show Steps p.tables e below (T78.setTop (mkF m 84 #[.val (.long j0), .second, .val (.int k0), .val (.long (((((k0.toUInt32 >>> ((2 : Int32) &&& 31).toUInt32).toInt32) % (12 : Int32)) - (2 : Int32)).toInt64)), .second, .val (.int (k0 &&& (3 : Int32))), .val (.long ((j0 <<< ((32 : Int32) &&& 0x3f).toInt64) ||| ((((((k0.toUInt32 >>> ((2 : Int32) &&& 31).toUInt32).toInt32) % (12 : Int32)) - (2 : Int32)).toInt64) &&& (4294967295 : Int64)))), .second, .val (.ref w_INSTANCE), .val (.ref w_INSTANCE)] [(.int (4 : Int32))])) _
          refine XS.i2l X78.here hx rfl (hb hby at_84) rfl ?_
          show Steps p.tables e below (T78.setTop (mkF m 85 #[.val (.long j0), .second, .val (.int k0), .val (.long (((((k0.toUInt32 >>> ((2 : Int32) &&& 31).toUInt32).toInt32) % (12 : Int32)) - (2 : Int32)).toInt64)), .second, .val (.int (k0 &&& (3 : Int32))), .val (.long ((j0 <<< ((32 : Int32) &&& 0x3f).toInt64) ||| ((((((k0.toUInt32 >>> ((2 : Int32) &&& 31).toUInt32).toInt32) % (12 : Int32)) - (2 : Int32)).toInt64) &&& (4294967295 : Int64)))), .second, .val (.ref w_INSTANCE), .val (.ref w_INSTANCE)] [(.long ((4 : Int32).toInt64))])) _
          refine XS.lload X78.here hx rfl (hb hby at_85) rfl ?_
          show Steps p.tables e below (T78.setTop (mkF m 87 #[.val (.long j0), .second, .val (.int k0), .val (.long (((((k0.toUInt32 >>> ((2 : Int32) &&& 31).toUInt32).toInt32) % (12 : Int32)) - (2 : Int32)).toInt64)), .second, .val (.int (k0 &&& (3 : Int32))), .val (.long ((j0 <<< ((32 : Int32) &&& 0x3f).toInt64) ||| ((((((k0.toUInt32 >>> ((2 : Int32) &&& 31).toUInt32).toInt32) % (12 : Int32)) - (2 : Int32)).toInt64) &&& (4294967295 : Int64)))), .second, .val (.ref w_INSTANCE), .val (.ref w_INSTANCE)] [(.long ((j0 <<< ((32 : Int32) &&& 0x3f).toInt64) ||| ((((((k0.toUInt32 >>> ((2 : Int32) &&& 31).toUInt32).toInt32) % (12 : Int32)) - (2 : Int32)).toInt64) &&& (4294967295 : Int64)))), (.long ((4 : Int32).toInt64))])) _
          refine XS.lcmp X78.here hx rfl (hb hby at_87) rfl ?_
          show Steps p.tables e below (T78.setTop (mkF m 88 #[.val (.long j0), .second, .val (.int k0), .val (.long (((((k0.toUInt32 >>> ((2 : Int32) &&& 31).toUInt32).toInt32) % (12 : Int32)) - (2 : Int32)).toInt64)), .second, .val (.int (k0 &&& (3 : Int32))), .val (.long ((j0 <<< ((32 : Int32) &&& 0x3f).toInt64) ||| ((((((k0.toUInt32 >>> ((2 : Int32) &&& 31).toUInt32).toInt32) % (12 : Int32)) - (2 : Int32)).toInt64) &&& (4294967295 : Int64)))), .second, .val (.ref w_INSTANCE), .val (.ref w_INSTANCE)] [(.int (lcmpW ((4 : Int32).toInt64) ((j0 <<< ((32 : Int32) &&& 0x3f).toInt64) ||| ((((((k0.toUInt32 >>> ((2 : Int32) &&& 31).toUInt32).toInt32) % (12 : Int32)) - (2 : Int32)).toInt64) &&& (4294967295 : Int64)))))])) _
          refine XS.ifYes X78.here hx rfl (pc0 := 88) (pc' := 93) rfl (hb hby at_88) rfl ((if0 _ _).trans (teq ((lw_eq ((4 : Int32).toInt64) ((j0 <<< ((32 : Int32) &&& 0x3f).toInt64) ||| ((((((k0.toUInt32 >>> ((2 : Int32) &&& 31).toUInt32).toInt32) % (12 : Int32)) - (2 : Int32)).toInt64) &&& (4294967295 : Int64)))).mpr (Eq.trans (by decide) ht4.symm))).1) (by decide) (by decide) ?_
          show Steps p.tables e below (T78.setTop (mkF m 93 #[.val (.long j0), .second, .val (.int k0), .val (.long (((((k0.toUInt32 >>> ((2 : Int32) &&& 31).toUInt32).toInt32) % (12 : Int32)) - (2 : Int32)).toInt64)), .second, .val (.int (k0 &&& (3 : Int32))), .val (.long ((j0 <<< ((32 : Int32) &&& 0x3f).toInt64) ||| ((((((k0.toUInt32 >>> ((2 : Int32) &&& 31).toUInt32).toInt32) % (12 : Int32)) - (2 : Int32)).toInt64) &&& (4294967295 : Int64)))), .second, .val (.ref w_INSTANCE), .val (.ref w_INSTANCE)] [])) _
          refine XS.iconst X78.here hx rfl (hb hby at_93) ?_
          show Steps p.tables e below (T78.setTop (mkF m 94 #[.val (.long j0), .second, .val (.int k0), .val (.long (((((k0.toUInt32 >>> ((2 : Int32) &&& 31).toUInt32).toInt32) % (12 : Int32)) - (2 : Int32)).toInt64)), .second, .val (.int (k0 &&& (3 : Int32))), .val (.long ((j0 <<< ((32 : Int32) &&& 0x3f).toInt64) ||| ((((((k0.toUInt32 >>> ((2 : Int32) &&& 31).toUInt32).toInt32) % (12 : Int32)) - (2 : Int32)).toInt64) &&& (4294967295 : Int64)))), .second, .val (.ref w_INSTANCE), .val (.ref w_INSTANCE)] [(.int (1 : Int32))])) _
          exact k_)
        obtain ⟨fs, hr, hrun, hended, hW, hsame⟩ := X78.leave (v := some (.int (1 : Int32))) (fun h => by rw [Bd.returns] at h; cases h)
        refine ⟨_, _, pre79 _ ?_, hrun, hended, _, _, rfl, ?_, ⟨_, rfl⟩, hW, hsame.mono (by decide) (by decide)⟩
        · show Steps p.tables e below (T78.setTop (mkF m 94 #[.val (.long j0), .second, .val (.int k0), .val (.long (((((k0.toUInt32 >>> ((2 : Int32) &&& 31).toUInt32).toInt32) % (12 : Int32)) - (2 : Int32)).toInt64)), .second, .val (.int (k0 &&& (3 : Int32))), .val (.long ((j0 <<< ((32 : Int32) &&& 0x3f).toInt64) ||| ((((((k0.toUInt32 >>> ((2 : Int32) &&& 31).toUInt32).toInt32) % (12 : Int32)) - (2 : Int32)).toInt64) &&& (4294967295 : Int64)))), .second, .val (.ref w_INSTANCE), .val (.ref w_INSTANCE)] [(.int (1 : Int32))])) _
          exact retN X78 hx (t := .boolean) Bd.returns (by simp) (hb hby at_94) hr
        · show Q_0 Z j0 k0 w_STRING w_HASHED_STRING w_CLASS w_INSTANCE w_ROOTS w_OBJECT_ARRAY w_PRIMITIVE_ARRAY w_LEGACY w_BY_TAG cl_BY_TAG h0 n0 _ T78.heap _
          rw [e78]
          exact ⟨rfl, N78⟩
      by_cases ht5 : ((j0 <<< ((32 : Int32) &&& 0x3f).toInt64) ||| ((((((k0.toUInt32 >>> ((2 : Int32) &&& 31).toUInt32).toInt32) % (12 : Int32)) - (2 : Int32)).toInt64) &&& (4294967295 : Int64))) = (5 : Int64)
      · have hq : (own_of ((j0 <<< ((32 : Int32) &&& 0x3f).toInt64) ||| ((((((k0.toUInt32 >>> ((2 : Int32) &&& 31).toUInt32).toInt32) % (12 : Int32)) - (2 : Int32)).toInt64) &&& (4294967295 : Int64))) w_STRING w_HASHED_STRING w_CLASS w_INSTANCE w_ROOTS w_OBJECT_ARRAY w_PRIMITIVE_ARRAY w_LEGACY) = .ref w_ROOTS := by rw [own_of, if_neg ht1, if_neg ht2, if_neg ht3, if_neg ht4, if_pos ht5]
        rw [hq] at pre71
        obtain ⟨cq80, kq80, q80a, q80b, q80c⟩ := isOf hZ e70 E_ROOTS
        obtain ⟨v80, _, ⟨T80, L80, k80, n80⟩, -, X80, ⟨Lc80, hQ80, l80, y80, z80⟩, st80⟩ := X70.virtualBack hx (y := (⟨"com/example/heapscribe/heapscribe/Bmd$RecordKind", "tag", "()I"⟩ : MethodName)) (z := (⟨"com/example/heapscribe/heapscribe/Bmd$RecordKind", "tag", "()I"⟩ : MethodName)) hown (mvT hZ (hw _ (List.mem_of_getElem? (i := 14) rfl))) (mvT hZ (hw _ (List.mem_of_getElem? (i := 15) rfl))) (notFace_of_selects (args := #[]) (mvT hZ (hw _ (List.mem_of_getElem? (i := 17) rfl)))) (mvT hZ (hw _ (List.mem_of_getElem? (i := 17) rfl))) (mvT hZ (hw _ (List.mem_of_getElem? (i := 16) rfl))) (by decide) (backOf (W := 0) (rm_3 l Z a0 hw [] w_ROOTS (5 : Int32) h0 n0 Z0 F_ROOTS_tag) hZ (hw _ (List.mem_of_getElem? (i := 18) rfl)) (hw _ (List.mem_of_getElem? (i := 2) rfl)) (by decide) (by decide)) q80a q80c (g := (mkF m 81 #[.val (.long j0), .second, .val (.int k0), .val (.long (((((k0.toUInt32 >>> ((2 : Int32) &&& 31).toUInt32).toInt32) % (12 : Int32)) - (2 : Int32)).toInt64)), .second, .val (.int (k0 &&& (3 : Int32))), .val (.long ((j0 <<< ((32 : Int32) &&& 0x3f).toInt64) ||| ((((((k0.toUInt32 >>> ((2 : Int32) &&& 31).toUInt32).toInt32) % (12 : Int32)) - (2 : Int32)).toInt64) &&& (4294967295 : Int64)))), .second, .val (.ref w_ROOTS), .val (.ref w_ROOTS)] [(.ref w_ROOTS)])) rfl (by rw [hml]; rfl) (Steps.refl _) (argsL := []) (rest := []) (lenOf pd_1 rfl) rfl (by show 2 * 0 + _ ≤ _; exact Nat.le_of_eq rfl) (hb hby at_81) (fun _ _ => ⟨rfl, e70, (by decide : 0 + 0 ≤ _), (by decide : 0 + 0 ≤ _)⟩)
        dsimp only [Pt.U, Pt.locs, Pt.cells, Pt.slots] at X80 l80 y80 z80 st80 hQ80
        subst l80 y80 z80
        obtain ⟨hv80, N80q, e80⟩ := hQ80
        have N80 := Fr.app N70 N80q
        subst hv80
        have pre81 : ∀ t_, Steps p.tables e below (T80.setTop (mkF m 94 #[.val (.long j0), .second, .val (.int k0), .val (.long (((((k0.toUInt32 >>> ((2 : Int32) &&& 31).toUInt32).toInt32) % (12 : Int32)) - (2 : Int32)).toInt64)), .second, .val (.int (k0 &&& (3 : Int32))), .val (.long ((j0 <<< ((32 : Int32) &&& 0x3f).toInt64) ||| ((((((k0.toUInt32 >>> ((2 : Int32) &&& 31).toUInt32).toInt32) % (12 : Int32)) - (2 : Int32)).toInt64) &&& (4294967295 : Int64)))), .second, .val (.ref w_ROOTS), .val (.ref w_ROOTS)] [(.int (1 : Int32))])) t_ → Steps p.tables e below (s₁.setTop (entryFrame m #[(.long j0), (.int k0)] maxLocals)) t_ := fun t_ k_ => pre71 t_ (by
          show Steps p.tables e below (T70.setTop (mkF m 74 #[.val (.long j0), .second, .val (.int k0), .val (.long (((((k0.toUInt32 >>> ((2 : Int32) &&& 31).toUInt32).toInt32) % (12 : Int32)) - (2 : Int32)).toInt64)), .second, .val (.int (k0 &&& (3 : Int32))), .val (.long ((j0 <<< ((32 : Int32) &&& 0x3f).toInt64) ||| ((((((k0.toUInt32 >>> ((2 : Int32) &&& 31).toUInt32).toInt32) % (12 : Int32)) - (2 : Int32)).toInt64) &&& (4294967295 : Int64)))), .second, .val (.ref w_ROOTS), .val (.ref w_ROOTS)] [])) _
          refine XS.aload X70.here hx rfl (hb hby at_74) rfl rfl ?_
          show Steps p.tables e below (T70.setTop (mkF m 76 #[.val (.long j0), .second, .val (.int k0), .val (.long (((((k0.toUInt32 >>> ((2 : Int32) &&& 31).toUInt32).toInt32) % (12 : Int32)) - (2 : Int32)).toInt64)), .second, .val (.int (k0 &&& (3 : Int32))), .val (.long ((j0 <<< ((32 : Int32) &&& 0x3f).toInt64) ||| ((((((k0.toUInt32 >>> ((2 : Int32) &&& 31).toUInt32).toInt32) % (12 : Int32)) - (2 : Int32)).toInt64) &&& (4294967295 : Int64)))), .second, .val (.ref w_ROOTS), .val (.ref w_ROOTS)] [(.ref w_ROOTS)])) _
          refine XS.ifnullNo X70.here hx rfl (hb hby at_76) rfl ?_
          show Steps p.tables e below (T70.setTop (mkF m 79 #[.val (.long j0), .second, .val (.int k0), .val (.long (((((k0.toUInt32 >>> ((2 : Int32) &&& 31).toUInt32).toInt32) % (12 : Int32)) - (2 : Int32)).toInt64)), .second, .val (.int (k0 &&& (3 : Int32))), .val (.long ((j0 <<< ((32 : Int32) &&& 0x3f).toInt64) ||| ((((((k0.toUInt32 >>> ((2 : Int32) &&& 31).toUInt32).toInt32) % (12 : Int32)) - (2 : Int32)).toInt64) &&& (4294967295 : Int64)))), .second, .val (.ref w_ROOTS), .val (.ref w_ROOTS)] [])) _
          refine XS.aload X70.here hx rfl (hb hby at_79) rfl rfl ?_
          show Steps p.tables e below (T70.setTop (mkF m 81 #[.val (.long j0), .second, .val (.int k0), .val (.long (((((k0.toUInt32 >>> ((2 : Int32) &&& 31).toUInt32).toInt32) % (12 : Int32)) - (2 : Int32)).toInt64)), .second, .val (.int (k0 &&& (3 : Int32))), .val (.long ((j0 <<< ((32 : Int32) &&& 0x3f).toInt64) ||| ((((((k0.toUInt32 >>> ((2 : Int32) &&& 31).toUInt32).toInt32) % (12 : Int32)) - (2 : Int32)).toInt64) &&& (4294967295 : Int64)))), .second, .val (.ref w_ROOTS), .val (.ref w_ROOTS)] [(.ref w_ROOTS)])) _
          refine st80.trans ?_
          show Steps p.tables e below (T80.setTop (mkF m 84 #[.val (.long j0), .second, .val (.int k0), .val (.long (((((k0.toUInt32 >>> ((2 : Int32) &&& 31).toUInt32).toInt32) % (12 : Int32)) - (2 : Int32)).toInt64)), .second, .val (.int (k0 &&& (3 : Int32))), .val (.long ((j0 <<< ((32 : Int32) &&& 0x3f).toInt64) ||| ((((((k0.toUInt32 >>> ((2 : Int32) &&& 31).toUInt32).toInt32) % (12 : Int32)) - (2 : Int32)).toInt64) &&& (4294967295 : Int64)))), .second, .val (.ref w_ROOTS), .val (.ref w_ROOTS)] [(.int (5 : Int32))])) _
          refine XS.i2l X80.here hx rfl (hb hby at_84) rfl ?_
          show Steps p.tables e below (T80.setTop (mkF m 85 #[.val (.long j0), .second, .val (.int k0), .val (.long (((((k0.toUInt32 >>> ((2 : Int32) &&& 31).toUInt32).toInt32) % (12 : Int32)) - (2 : Int32)).toInt64)), .second, .val (.int (k0 &&& (3 : Int32))), .val (.long ((j0 <<< ((32 : Int32) &&& 0x3f).toInt64) ||| ((((((k0.toUInt32 >>> ((2 : Int32) &&& 31).toUInt32).toInt32) % (12 : Int32)) - (2 : Int32)).toInt64) &&& (4294967295 : Int64)))), .second, .val (.ref w_ROOTS), .val (.ref w_ROOTS)] [(.long ((5 : Int32).toInt64))])) _
          refine XS.lload X80.here hx rfl (hb hby at_85) rfl ?_
          show Steps p.tables e below (T80.setTop (mkF m 87 #[.val (.long j0), .second, .val (.int k0), .val (.long (((((k0.toUInt32 >>> ((2 : Int32) &&& 31).toUInt32).toInt32) % (12 : Int32)) - (2 : Int32)).toInt64)), .second, .val (.int (k0 &&& (3 : Int32))), .val (.long ((j0 <<< ((32 : Int32) &&& 0x3f).toInt64) ||| ((((((k0.toUInt32 >>> ((2 : Int32) &&& 31).toUInt32).toInt32) % (12 : Int32)) - (2 : Int32)).toInt64) &&& (4294967295 : Int64)))), .second, .val (.ref w_ROOTS), .val (.ref w_ROOTS)] [(.long ((j0 <<< ((32 : Int32) &&& 0x3f).toInt64) ||| ((((((k0.toUInt32 >>> ((2 : Int32) &&& 31).toUInt32).toInt32) % (12 : Int32)) - (2 : Int32)).toInt64) &&& (4294967295 : Int64)))), (.long ((5 : Int32).toInt64))])) _
          refine XS.lcmp X80.here hx rfl (hb hby at_87) rfl ?_
          show Steps p.tables e below (T80.setTop (mkF m 88 #[.val (.long j0), .second, .val (.int k0), .val (.long (((((k0.toUInt32 >>> ((2 : Int32) &&& 31).toUInt32).toInt32) % (12 : Int32)) - (2 : Int32)).toInt64)), .second, .val (.int (k0 &&& (3 : Int32))), .val (.long ((j0 <<< ((32 : Int32) &&& 0x3f).toInt64) ||| ((((((k0.toUInt32 >>> ((2 : Int32) &&& 31).toUInt32).toInt32) % (12 : Int32)) - (2 : Int32)).toInt64) &&& (4294967295 : Int64)))), .second, .val (.ref w_ROOTS), .val (.ref w_ROOTS)] [(.int (lcmpW ((5 : Int32).toInt64) ((j0 <<< ((32 : Int32) &&& 0x3f).toInt64) ||| ((((((k0.toUInt32 >>> ((2 : Int32) &&& 31).toUInt32).toInt32) % (12 : Int32)) - (2 : Int32)).toInt64) &&& (4294967295 : Int64)))))])) _
          refine XS.ifYes X80.here hx rfl (pc0 := 88) (pc' := 93) rfl (hb hby at_88) rfl ((if0 _ _).trans (teq ((lw_eq ((5 : Int32).toInt64) ((j0 <<< ((32 : Int32) &&& 0x3f).toInt64) ||| ((((((k0.toUInt32 >>> ((2 : Int32) &&& 31).toUInt32).toInt32) % (12 : Int32)) - (2 : Int32)).toInt64) &&& (4294967295 : Int64)))).mpr (Eq.trans (by decide) ht5.symm))).1) (by decide) (by decide) ?_
          show Steps p.tables e below (T80.setTop (mkF m 93 #[.val (.long j0), .second, .val (.int k0), .val (.long (((((k0.toUInt32 >>> ((2 : Int32) &&& 31).toUInt32).toInt32) % (12 : Int32)) - (2 : Int32)).toInt64)), .second, .val (.int (k0 &&& (3 : Int32))), .val (.long ((j0 <<< ((32 : Int32) &&& 0x3f).toInt64) ||| ((((((k0.toUInt32 >>> ((2 : Int32) &&& 31).toUInt32).toInt32) % (12 : Int32)) - (2 : Int32)).toInt64) &&& (4294967295 : Int64)))), .second, .val (.ref w_ROOTS), .val (.ref w_ROOTS)] [])) _
          refine XS.iconst X80.here hx rfl (hb hby at_93) ?_
          show Steps p.tables e below (T80.setTop (mkF m 94 #[.val (.long j0), .second, .val (.int k0), .val (.long (((((k0.toUInt32 >>> ((2 : Int32) &&& 31).toUInt32).toInt32) % (12 : Int32)) - (2 : Int32)).toInt64)), .second, .val (.int (k0 &&& (3 : Int32))), .val (.long ((j0 <<< ((32 : Int32) &&& 0x3f).toInt64) ||| ((((((k0.toUInt32 >>> ((2 : Int32) &&& 31).toUInt32).toInt32) % (12 : Int32)) - (2 : Int32)).toInt64) &&& (4294967295 : Int64)))), .second, .val (.ref w_ROOTS), .val (.ref w_ROOTS)] [(.int (1 : Int32))])) _
          exact k_)
        obtain ⟨fs, hr, hrun, hended, hW, hsame⟩ := X80.leave (v := some (.int (1 : Int32))) (fun h => by rw [Bd.returns] at h; cases h)
        refine ⟨_, _, pre81 _ ?_, hrun, hended, _, _, rfl, ?_, ⟨_, rfl⟩, hW, hsame.mono (by decide) (by decide)⟩
        · show Steps p.tables e below (T80.setTop (mkF m 94 #[.val (.long j0), .second, .val (.int k0), .val (.long (((((k0.toUInt32 >>> ((2 : Int32) &&& 31).toUInt32).toInt32) % (12 : Int32)) - (2 : Int32)).toInt64)), .second, .val (.int (k0 &&& (3 : Int32))), .val (.long ((j0 <<< ((32 : Int32) &&& 0x3f).toInt64) ||| ((((((k0.toUInt32 >>> ((2 : Int32) &&& 31).toUInt32).toInt32) % (12 : Int32)) - (2 : Int32)).toInt64) &&& (4294967295 : Int64)))), .second, .val (.ref w_ROOTS), .val (.ref w_ROOTS)] [(.int (1 : Int32))])) _
          exact retN X80 hx (t := .boolean) Bd.returns (by simp) (hb hby at_94) hr
        · show Q_0 Z j0 k0 w_STRING w_HASHED_STRING w_CLASS w_INSTANCE w_ROOTS w_OBJECT_ARRAY w_PRIMITIVE_ARRAY w_LEGACY w_BY_TAG cl_BY_TAG h0 n0 _ T80.heap _
          rw [e80]
          exact ⟨rfl, N80⟩
      by_cases ht6 : ((j0 <<< ((32 : Int32) &&& 0x3f).toInt64) ||| ((((((k0.toUInt32 >>> ((2 : Int32) &&& 31).toUInt32).toInt32) % (12 : Int32)) - (2 : Int32)).toInt64) &&& (4294967295 : Int64))) = (6 : Int64)
      · have hq : (own_of ((j0 <<< ((32 : Int32) &&& 0x3f).toInt64) ||| ((((((k0.toUInt32 >>> ((2 : Int32) &&& 31).toUInt32).toInt32) % (12 : Int32)) - (2 : Int32)).toInt64) &&& (4294967295 : Int64))) w_STRING w_HASHED_STRING w_CLASS w_INSTANCE w_ROOTS w_OBJECT_ARRAY w_PRIMITIVE_ARRAY w_LEGACY) = .ref w_OBJECT_ARRAY := by rw [own_of, if_neg ht1, if_neg ht2, if_neg ht3, if_neg ht4, if_neg ht5, if_pos ht6]
        rw [hq] at pre71
        obtain ⟨cq82, kq82, q82a, q82b, q82c⟩ := isOf hZ e70 E_OBJECT_ARRAY
        obtain ⟨v82, _, ⟨T82, L82, k82, n82⟩, -, X82, ⟨Lc82, hQ82, l82, y82, z82⟩, st82⟩ := X70.virtualBack hx (y := (⟨"com/example/heapscribe/heapscribe/Bmd$RecordKind", "tag", "()I"⟩ : MethodName)) (z := (⟨"com/example/heapscribe/heapscribe/Bmd$RecordKind", "tag", "()I"⟩ : MethodName)) hown (mvT hZ (hw _ (List.mem_of_getElem? (i := 14) rfl))) (mvT hZ (hw _ (List.mem_of_getElem? (i := 15) rfl))) (notFace_of_selects (args := #[]) (mvT hZ (hw _ (List.mem_of_getElem? (i := 17) rfl)))) (mvT hZ (hw _ (List.mem_of_getElem? (i := 17) rfl))) (mvT hZ (hw _ (List.mem_of_getElem? (i := 16) rfl))) (by decide) (backOf (W := 0) (rm_3 l Z a0 hw [] w_OBJECT_ARRAY (6 : Int32) h0 n0 Z0 F_OBJECT_ARRAY_tag) hZ (hw _ (List.mem_of_getElem? (i := 18) rfl)) (hw _ (List.mem_of_getElem? (i := 2) rfl)) (by decide) (by decide)) q82a q82c (g := (mkF m 81 #[.val (.long j0), .second, .val (.int k0), .val (.long (((((k0.toUInt32 >>> ((2 : Int32) &&& 31).toUInt32).toInt32) % (12 : Int32)) - (2 : Int32)).toInt64)), .second, .val (.int (k0 &&& (3 : Int32))), .val (.long ((j0 <<< ((32 : Int32) &&& 0x3f).toInt64) ||| ((((((k0.toUInt32 >>> ((2 : Int32) &&& 31).toUInt32).toInt32) % (12 : Int32)) - (2 : Int32)).toInt64) &&& (4294967295 : Int64)))), .second, .val (.ref w_OBJECT_ARRAY), .val (.ref w_OBJECT_ARRAY)] [(.ref w_OBJECT_ARRAY)])) rfl (by rw [hml]; rfl) (Steps.refl _) (argsL := []) (rest := []) (lenOf pd_1 rfl) rfl (by show 2 * 0 + _ ≤ _; exact Nat.le_of_eq rfl) (hb hby at_81) (fun _ _ => ⟨rfl, e70, (by decide : 0 + 0 ≤ _), (by decide : 0 + 0 ≤ _)⟩)
        dsimp only [Pt.U, Pt.locs, Pt.cells, Pt.slots] at X82 l82 y82 z82 st82 hQ82
        subst l82 y82 z82
        obtain ⟨hv82, N82q, e82⟩ := hQ82
        have N82 := Fr.app N70 N82q
        subst hv82
        have pre83 : ∀ t_, Steps p.tables e below (T82.setTop (mkF m 94 #[.val (.long j0), .second, .val (.int k0), .val (.long (((((k0.toUInt32 >>> ((2 : Int32) &&& 31).toUInt32).toInt32) % (12 : Int32)) - (2 : Int32)).toInt64)), .second, .val (.int (k0 &&& (3 : Int32))), .val (.long ((j0 <<< ((32 : Int32) &&& 0x3f).toInt64) ||| ((((((k0.toUInt32 >>> ((2 : Int32) &&& 31).toUInt32).toInt32) % (12 : Int32)) - (2 : Int32)).toInt64) &&& (4294967295 : Int64)))), .second, .val (.ref w_OBJECT_ARRAY), .val (.ref w_OBJECT_ARRAY)] [(.int (1 : Int32))])) t_ → Steps p.tables e below (s₁.setTop (entryFrame m #[(.long j0), (.int k0)] maxLocals)) t_ := fun t_ k_ => pre71 t_ (by
          show Steps p.tables e below (T70.setTop (mkF m 74 #[.val (.long j0), .second, .val (.int k0), .val (.long (((((k0.toUInt32 >>> ((2 : Int32) &&& 31).toUInt32).toInt32) % (12 : Int32)) - (2 : Int32)).toInt64)), .second, .val (.int (k0 &&& (3 : Int32))), .val (.long ((j0 <<< ((32 : Int32) &&& 0x3f).toInt64) ||| ((((((k0.toUInt32 >>> ((2 : Int32) &&& 31).toUInt32).toInt32) % (12 : Int32)) - (2 : Int32)).toInt64) &&& (4294967295 : Int64)))), .second, .val (.ref w_OBJECT_ARRAY), .val (.ref w_OBJECT_ARRAY)] [])) _
          refine XS.aload X70.here hx rfl (hb hby at_74) rfl rfl ?_
          show Steps p.tables e below (T70.setTop (mkF m 76 #[.val (.long j0), .second, .val (.int k0), .val (.long (((((k0.toUInt32 >>> ((2 : Int32) &&& 31).toUInt32).toInt32) % (12 : Int32)) - (2 : Int32)).toInt64)), .second, .val (.int (k0 &&& (3 : Int32))), .val (.long ((j0 <<< ((32 : Int32) &&& 0x3f).toInt64) ||| ((((((k0.toUInt32 >>> ((2 : Int32) &&& 31).toUInt32).toInt32) % (12 : Int32)) - (2 : Int32)).toInt64) &&& (4294967295 : Int64)))), .second, .val (.ref w_OBJECT_ARRAY), .val (.ref w_OBJECT_ARRAY)] [(.ref w_OBJECT_ARRAY)])) _
          refine XS.ifnullNo X70.here hx rfl (hb hby at_76) rfl ?_
          show Steps p.tables e below (T70.setTop (mkF m 79 #[.val (.long j0), .second, .val (.int k0), .val (.long (((((k0.toUInt32 >>> ((2 : Int32) &&& 31).toUInt32).toInt32) % (12 : Int32)) - (2 : Int32)).toInt64)), .second, .val (.int (k0 &&& (3 : Int32))), .val (.long ((j0 <<< ((32 : Int32) &&& 0x3f).toInt64) ||| ((((((k0.toUInt32 >>> ((2 : Int32) &&& 31).toUInt32).toInt32) % (12 : Int32)) - (2 : Int32)).toInt64) &&& (4294967295 : Int64)))), .second, .val (.ref w_OBJECT_ARRAY), .val (.ref w_OBJECT_ARRAY)] [])) _
          refine XS.aload X70.here hx rfl (hb hby at_79) rfl rfl ?_
          show Steps p.tables e below (T70.setTop (mkF m 81 #[.val (.long j0), .second, .val (.int k0), .val (.long (((((k0.toUInt32 >>> ((2 : Int32) &&& 31).toUInt32).toInt32) % (12 : Int32)) - (2 : Int32)).toInt64)), .second, .val (.int (k0 &&& (3 : Int32))), .val (.long ((j0 <<< ((32 : Int32) &&& 0x3f).toInt64) ||| ((((((k0.toUInt32 >>> ((2 : Int32) &&& 31).toUInt32).toInt32) % (12 : Int32)) - (2 : Int32)).toInt64) &&& (4294967295 : Int64)))), .second, .val (.ref w_OBJECT_ARRAY), .val (.ref w_OBJECT_ARRAY)] [(.ref w_OBJECT_ARRAY)])) _
          refine st82.trans ?_
          show Steps p.tables e below (T82.setTop (mkF m 84 #[.val (.long j0), .second, .val (.int k0), .val (.long (((((k0.toUInt32 >>> ((2 : Int32) &&& 31).toUInt32).toInt32) % (12 : Int32)) - (2 : Int32)).toInt64)), .second, .val (.int (k0 &&& (3 : Int32))), .val (.long ((j0 <<< ((32 : Int32) &&& 0x3f).toInt64) ||| ((((((k0.toUInt32 >>> ((2 : Int32) &&& 31).toUInt32).toInt32) % (12 : Int32)) - (2 : Int32)).toInt64) &&& (4294967295 : Int64)))), .second, .val (.ref w_OBJECT_ARRAY), .val (.ref w_OBJECT_ARRAY)] [(.int (6 : Int32))])) _
          refine XS.i2l X82.here hx rfl (hb hby at_84) rfl ?_
          show Steps p.tables e below (T82.setTop (mkF m 85 #[.val (.long j0), .second, .val (.int k0), .val (.long (((((k0.toUInt32 >>> ((2 : Int32) &&& 31).toUInt32).toInt32) % (12 : Int32)) - (2 : Int32)).toInt64)), .second, .val (.int (k0 &&& (3 : Int32))), .val (.long ((j0 <<< ((32 : Int32) &&& 0x3f).toInt64) ||| ((((((k0.toUInt32 >>> ((2 : Int32) &&& 31).toUInt32).toInt32) % (12 : Int32)) - (2 : Int32)).toInt64) &&& (4294967295 : Int64)))), .second, .val (.ref w_OBJECT_ARRAY), .val (.ref w_OBJECT_ARRAY)] [(.long ((6 : Int32).toInt64))])) _
          refine XS.lload X82.here hx rfl (hb hby at_85) rfl ?_
          show Steps p.tables e below (T82.setTop (mkF m 87 #[.val (.long j0), .second, .val (.int k0), .val (.long (((((k0.toUInt32 >>> ((2 : Int32) &&& 31).toUInt32).toInt32) % (12 : Int32)) - (2 : Int32)).toInt64)), .second, .val (.int (k0 &&& (3 : Int32))), .val (.long ((j0 <<< ((32 : Int32) &&& 0x3f).toInt64) ||| ((((((k0.toUInt32 >>> ((2 : Int32) &&& 31).toUInt32).toInt32) % (12 : Int32)) - (2 : Int32)).toInt64) &&& (4294967295 : Int64)))), .second, .val (.ref w_OBJECT_ARRAY), .val (.ref w_OBJECT_ARRAY)] [(.long ((j0 <<< ((32 : Int32) &&& 0x3f).toInt64) ||| ((((((k0.toUInt32 >>> ((2 : Int32) &&& 31).toUInt32).toInt32) % (12 : Int32)) - (2 : Int32)).toInt64) &&& (4294967295 : Int64)))), (.long ((6 : Int32).toInt64))])) _
          refine XS.lcmp X82.here hx rfl (hb hby at_87) rfl ?_
          show Steps p.tables e below (T82.setTop (mkF m 88 #[.val (.long j0), .second, .val (.int k0), .val (.long (((((k0.toUInt32 >>> ((2 : Int32) &&& 31).toUInt32).toInt32) % (12 : Int32)) - (2 : Int32)).toInt64)), .second, .val (.int (k0 &&& (3 : Int32))), .val (.long ((j0 <<< ((32 : Int32) &&& 0x3f).toInt64) ||| ((((((k0.toUInt32 >>> ((2 : Int32) &&& 31).toUInt32).toInt32) % (12 : Int32)) - (2 : Int32)).toInt64) &&& (4294967295 : Int64)))), .second, .val (.ref w_OBJECT_ARRAY), .val (.ref w_OBJECT_ARRAY)] [(.int (lcmpW ((6 : Int32).toInt64) ((j0 <<< ((32 : Int32) &&& 0x3f).toInt64) ||| ((((((k0.toUInt32 >>> ((2 : Int32) &&& 31).toUInt32).toInt32) % (12 : Int32)) - (2 : Int32)).toInt64) &&& (4294967295 : Int64)))))])) _
          refine XS.ifYes X82.here hx rfl (pc0 := 88) (pc' := 93) rfl (hb hby at_88) rfl ((if0 _ _).trans (teq ((lw_eq ((6 : Int32).toInt64) ((j0 <<< ((32 : Int32) &&& 0x3f).toInt64) ||| ((((((k0.toUInt32 >>> ((2 : Int32) &&& 31).toUInt32).toInt32) % (12 : Int32)) - (2 : Int32)).toInt64) &&& (4294967295 : Int64)))).mpr (Eq.trans (by decide) ht6.symm))).1) (by decide) (by decide) ?_
          show Steps p.tables e below (T82.setTop (mkF m 93 #[.val (.long j0), .second, .val (.int k0), .val (.long (((((k0.toUInt32 >>> ((2 : Int32) &&& 31).toUInt32).toInt32) % (12 : Int32)) - (2 : Int32)).toInt64)), .second, .val (.int (k0 &&& (3 : Int32))), .val (.long ((j0 <<< ((32 : Int32) &&& 0x3f).toInt64) ||| ((((((k0.toUInt32 >>> ((2 : Int32) &&& 31).toUInt32).toInt32) % (12 : Int32)) - (2 : Int32)).toInt64) &&& (4294967295 : Int64)))), .second, .val (.ref w_OBJECT_ARRAY), .val (.ref w_OBJECT_ARRAY)] [])) _
          refine XS.iconst X82.here hx rfl (hb hby at_93) ?_
          show Steps p.tables e below (T82.setTop (mkF m 94 #[.val (.long j0), .second, .val (.int k0), .val (.long (((((k0.toUInt32 >>> ((2 : Int32) &&& 31).toUInt32).toInt32) % (12 : Int32)) - (2 : Int32)).toInt64)), .second, .val (.int (k0 &&& (3 : Int32))), .val (.long ((j0 <<< ((32 : Int32) &&& 0x3f).toInt64) ||| ((((((k0.toUInt32 >>> ((2 : Int32) &&& 31).toUInt32).toInt32) % (12 : Int32)) - (2 : Int32)).toInt64) &&& (4294967295 : Int64)))), .second, .val (.ref w_OBJECT_ARRAY), .val (.ref w_OBJECT_ARRAY)] [(.int (1 : Int32))])) _
          exact k_)
        obtain ⟨fs, hr, hrun, hended, hW, hsame⟩ := X82.leave (v := some (.int (1 : Int32))) (fun h => by rw [Bd.returns] at h; cases h)
        refine ⟨_, _, pre83 _ ?_, hrun, hended, _, _, rfl, ?_, ⟨_, rfl⟩, hW, hsame.mono (by decide) (by decide)⟩
        · show Steps p.tables e below (T82.setTop (mkF m 94 #[.val (.long j0), .second, .val (.int k0), .val (.long (((((k0.toUInt32 >>> ((2 : Int32) &&& 31).toUInt32).toInt32) % (12 : Int32)) - (2 : Int32)).toInt64)), .second, .val (.int (k0 &&& (3 : Int32))), .val (.long ((j0 <<< ((32 : Int32) &&& 0x3f).toInt64) ||| ((((((k0.toUInt32 >>> ((2 : Int32) &&& 31).toUInt32).toInt32) % (12 : Int32)) - (2 : Int32)).toInt64) &&& (4294967295 : Int64)))), .second, .val (.ref w_OBJECT_ARRAY), .val (.ref w_OBJECT_ARRAY)] [(.int (1 : Int32))])) _
          exact retN X82 hx (t := .boolean) Bd.returns (by simp) (hb hby at_94) hr
        · show Q_0 Z j0 k0 w_STRING w_HASHED_STRING w_CLASS w_INSTANCE w_ROOTS w_OBJECT_ARRAY w_PRIMITIVE_ARRAY w_LEGACY w_BY_TAG cl_BY_TAG h0 n0 _ T82.heap _
          rw [e82]
          exact ⟨rfl, N82⟩
      by_cases ht7 : ((j0 <<< ((32 : Int32) &&& 0x3f).toInt64) ||| ((((((k0.toUInt32 >>> ((2 : Int32) &&& 31).toUInt32).toInt32) % (12 : Int32)) - (2 : Int32)).toInt64) &&& (4294967295 : Int64))) = (7 : Int64)
      · have hq : (own_of ((j0 <<< ((32 : Int32) &&& 0x3f).toInt64) ||| ((((((k0.toUInt32 >>> ((2 : Int32) &&& 31).toUInt32).toInt32) % (12 : Int32)) - (2 : Int32)).toInt64) &&& (4294967295 : Int64))) w_STRING w_HASHED_STRING w_CLASS w_INSTANCE w_ROOTS w_OBJECT_ARRAY w_PRIMITIVE_ARRAY w_LEGACY) = .ref w_PRIMITIVE_ARRAY := by rw [own_of, if_neg ht1, if_neg ht2, if_neg ht3, if_neg ht4, if_neg ht5, if_neg ht6, if_pos ht7]
        rw [hq] at pre71
        obtain ⟨cq84, kq84, q84a, q84b, q84c⟩ := isOf hZ e70 E_PRIMITIVE_ARRAY
        obtain ⟨v84, _, ⟨T84, L84, k84, n84⟩, -, X84, ⟨Lc84, hQ84, l84, y84, z84⟩, st84⟩ := X70.virtualBack hx (y := (⟨"com/example/heapscribe/heapscribe/Bmd$RecordKind", "tag", "()I"⟩ : MethodName)) (z := (⟨"com/example/heapscribe/heapscribe/Bmd$RecordKind", "tag", "()I"⟩ : MethodName)) hown (mvT hZ (hw _ (List.mem_of_getElem? (i := 14) rfl))) (mvT hZ (hw _ (List.mem_of_getElem? (i := 15) rfl))) (notFace_of_selects (args := #[]) (mvT hZ (hw _ (List.mem_of_getElem? (i := 17) rfl)))) (mvT hZ (hw _ (List.mem_of_getElem? (i := 17) rfl))) (mvT hZ (hw _ (List.mem_of_getElem? (i := 16) rfl))) (by decide) (backOf (W := 0) (rm_3 l Z a0 hw [] w_PRIMITIVE_ARRAY (7 : Int32) h0 n0 Z0 F_PRIMITIVE_ARRAY_tag) hZ (hw _ (List.mem_of_getElem? (i := 18) rfl)) (hw _ (List.mem_of_getElem? (i := 2) rfl)) (by decide) (by decide)) q84a q84c (g := (mkF m 81 #[.val (.long j0), .second, .val (.int k0), .val (.long (((((k0.toUInt32 >>> ((2 : Int32) &&& 31).toUInt32).toInt32) % (12 : Int32)) - (2 : Int32)).toInt64)), .second, .val (.int (k0 &&& (3 : Int32))), .val (.long ((j0 <<< ((32 : Int32) &&& 0x3f).toInt64) ||| ((((((k0.toUInt32 >>> ((2 : Int32) &&& 31).toUInt32).toInt32) % (12 : Int32)) - (2 : Int32)).toInt64) &&& (4294967295 : Int64)))), .second, .val (.ref w_PRIMITIVE_ARRAY), .val (.ref w_PRIMITIVE_ARRAY)] [(.ref w_PRIMITIVE_ARRAY)])) rfl (by rw [hml]; rfl) (Steps.refl _) (argsL := []) (rest := []) (lenOf pd_1 rfl) rfl (by show 2 * 0 + _ ≤ _; exact Nat.le_of_eq rfl) (hb hby at_81) (fun _ _ => ⟨rfl, e70, (by decide : 0 + 0 ≤ _), (by decide : 0 + 0 ≤ _)⟩)
        dsimp only [Pt.U, Pt.locs, Pt.cells, Pt.slots] at X84 l84 y84 z84 st84 hQ84
        subst l84 y84 z84
        obtain ⟨hv84, N84q, e84⟩ := hQ84
        have N84 := Fr.app N70 N84q
        subst hv84
        have pre85 : ∀ t_, Steps p.tables e below (T84.setTop (mkF m 94 #[.val (.long j0), .second, .val (.int k0), .val (.long (((((k0.toUInt32 >>> ((2 : Int32) &&& 31).toUInt32).toInt32) % (12 : Int32)) - (2 : Int32)).toInt64)), .second, .val (.int (k0 &&& (3 : Int32))), .val (.long ((j0 <<< ((32 : Int32) &&& 0x3f).toInt64) ||| ((((((k0.toUInt32 >>> ((2 : Int32) &&& 31).toUInt32).toInt32) % (12 : Int32)) - (2 : Int32)).toInt64) &&& (4294967295 : Int64)))), .second, .val (.ref w_PRIMITIVE_ARRAY), .val (.ref w_PRIMITIVE_ARRAY)] [(.int (1 : Int32))])) t_ → Steps p.tables e below (s₁.setTop (entryFrame m #[(.long j0), (.int k0)] maxLocals)) t_ := fun t_ k_ => pre71 t_ (by
          show Steps p.tables e below (T70.setTop (mkF m 74 #[.val (.long j0), .second, .val (.int k0), .val (.long (((((k0.toUInt32 >>> ((2 : Int32) &&& 31).toUInt32).toInt32) % (12 : Int32)) - (2 : Int32)).toInt64)), .second, .val (.int (k0 &&& (3 : Int32))), .val (.long ((j0 <<< ((32 : Int32) &&& 0x3f).toInt64) ||| ((((((k0.toUInt32 >>> ((2 : Int32) &&& 31).toUInt32).toInt32) % (12 : Int32)) - (2 : Int32)).toInt64) &&& (4294967295 : Int64)))), .second, .val (.ref w_PRIMITIVE_ARRAY), .val (.ref w_PRIMITIVE_ARRAY)] [])) _
          refine XS.aload X70.here hx rfl (hb hby at_74) rfl rfl ?_
          show Steps p.tables e below (T70.setTop (mkF m 76 #[.val (.long j0), .second, .val (.int k0), .val (.long (((((k0.toUInt32 >>> ((2 : Int32) &&& 31).toUInt32).toInt32) % (12 : Int32)) - (2 : Int32)).toInt64)), .second, .val (.int (k0 &&& (3 : Int32))), .val (.long ((j0 <<< ((32 : Int32) &&& 0x3f).toInt64) ||| ((((((k0.toUInt32 >>> ((2 : Int32) &&& 31).toUInt32).toInt32) % (12 : Int32)) - (2 : Int32)).toInt64) &&& (4294967295 : Int64)))), .second, .val (.ref w_PRIMITIVE_ARRAY), .val (.ref w_PRIMITIVE_ARRAY)] [(.ref w_PRIMITIVE_ARRAY)])) _
          refine XS.ifnullNo X70.here hx rfl (hb hby at_76) rfl ?_
          show Steps p.tables e below (T70.setTop (mkF m 79 #[.val (.long j0), .second, .val (.int k0), .val (.long (((((k0.toUInt32 >>> ((2 : Int32) &&& 31).toUInt32).toInt32) % (12 : Int32)) - (2 : Int32)).toInt64)), .second, .val (.int (k0 &&& (3 : Int32))), .val (.long ((j0 <<< ((32 : Int32) &&& 0x3f).toInt64) ||| ((((((k0.toUInt32 >>> ((2 : Int32) &&& 31).toUInt32).toInt32) % (12 : Int32)) - (2 : Int32)).toInt64) &&& (4294967295 : Int64)))), .second, .val (.ref w_PRIMITIVE_ARRAY), .val (.ref w_PRIMITIVE_ARRAY)] [])) _
          refine XS.aload X70.here hx rfl (hb hby at_79) rfl rfl ?_
          show Steps p.tables e below (T70.setTop (mkF m 81 #[.val (.long j0), .second, .val (.int k0), .val (.long (((((k0.toUInt32 >>> ((2 : Int32) &&& 31).toUInt32).toInt32) % (12 : Int32)) - (2 : Int32)).toInt64)), .second, .val (.int (k0 &&& (3 : Int32))), .val (.long ((j0 <<< ((32 : Int32) &&& 0x3f).toInt64) ||| ((((((k0.toUInt32 >>> ((2 : Int32) &&& 31).toUInt32).toInt32) % (12 : Int32)) - (2 : Int32)).toInt64) &&& (4294967295 : Int64)))), .second, .val (.ref w_PRIMITIVE_ARRAY), .val (.ref w_PRIMITIVE_ARRAY)] [(.ref w_PRIMITIVE_ARRAY)])) _
          refine st84.trans ?_
          show Steps p.tables e below (T84.setTop (mkF m 84 #[.val (.long j0), .second, .val (.int k0), .val (.long (((((k0.toUInt32 >>> ((2 : Int32) &&& 31).toUInt32).toInt32) % (12 : Int32)) - (2 : Int32)).toInt64)), .second, .val (.int (k0 &&& (3 : Int32))), .val (.long ((j0 <<< ((32 : Int32) &&& 0x3f).toInt64) ||| ((((((k0.toUInt32 >>> ((2 : Int32) &&& 31).toUInt32).toInt32) % (12 : Int32)) - (2 : Int32)).toInt64) &&& (4294967295 : Int64)))), .second, .val (.ref w_PRIMITIVE_ARRAY), .val (.ref w_PRIMITIVE_ARRAY)] [(.int (7 : Int32))])) _
          refine XS.i2l X84.here hx rfl (hb hby at_84) rfl ?_
          show Steps p.tables e below (T84.setTop (mkF m 85 #[.val (.long j0), .second, .val (.int k0), .val (.long (((((k0.toUInt32 >>> ((2 : Int32) &&& 31).toUInt32).toInt32) % (12 : Int32)) - (2 : Int32)).toInt64)), .second, .val (.int (k0 &&& (3 : Int32))), .val (.long ((j0 <<< ((32 : Int32) &&& 0x3f).toInt64) ||| ((((((k0.toUInt32 >>> ((2 : Int32) &&& 31).toUInt32).toInt32) % (12 : Int32)) - (2 : Int32)).toInt64) &&& (4294967295 : Int64)))), .second, .val (.ref w_PRIMITIVE_ARRAY), .val (.ref w_PRIMITIVE_ARRAY)] [(.long ((7 : Int32).toInt64))])) _
          refine XS.lload X84.here hx rfl (hb hby at_85) rfl ?_
          show Steps p.tables e below (T84.setTop (mkF m 87 #[.val (.long j0), .second, .val (.int k0), .val (.long (((((k0.toUInt32 >>> ((2 : Int32) &&& 31).toUInt32).toInt32) % (12 : Int32)) - (2 : Int32)).toInt64)), .second, .val (.int (k0 &&& (3 : Int32))), .val (.long ((j0 <<< ((32 : Int32) &&& 0x3f).toInt64) ||| ((((((k0.toUInt32 >>> ((2 : Int32) &&& 31).toUInt32).toInt32) % (12 : Int32)) - (2 : Int32)).toInt64) &&& (4294967295 : Int64)))), .second, .val (.ref w_PRIMITIVE_ARRAY), .val (.ref w_PRIMITIVE_ARRAY)] [(.long ((j0 <<< ((32 : Int32) &&& 0x3f).toInt64) ||| ((((((k0.toUInt32 >>> ((2 : Int32) &&& 31).toUInt32).toInt32) % (12 : Int32)) - (2 : Int32)).toInt64) &&& (4294967295 : Int64)))), (.long ((7 : Int32).toInt64))])) _
          refine XS.lcmp X84.here hx rfl (hb hby at_87) rfl ?_
          show Steps p.tables e below (T84.setTop (mkF m 88 #[.val (.long j0), .second, .val (.int k0), .val (.long (((((k0.toUInt32 >>> ((2 : Int32) &&& 31).toUInt32).toInt32) % (12 : Int32)) - (2 : Int32)).toInt64)), .second, .val (.int (k0 &&& (3 : Int32))), .val (.long ((j0 <<< ((32 : Int32) &&& 0x3f).toInt64) ||| ((((((k0.toUInt32 >>> ((2 : Int32) &&& 31).toUInt32).toInt32) % (12 : Int32)) - (2 : Int32)).toInt64) &&& (4294967295 : Int64)))), .second, .val (.ref w_PRIMITIVE_ARRAY), .val (.ref w_PRIMITIVE_ARRAY)] [(.int (lcmpW ((7 : Int32).toInt64) ((j0 <<< ((32 : Int32) &&& 0x3f).toInt64) ||| ((((((k0.toUInt32 >>> ((2 : Int32) &&& 31).toUInt32).toInt32) % (12 : Int32)) - (2 : Int32)).toInt64) &&& (4294967295 : Int64)))))])) _
          refine XS.ifYes X84.here hx rfl (pc0 := 88) (pc' := 93) rfl (hb hby at_88) rfl ((if0 _ _).trans (teq ((lw_eq ((7 : Int32).toInt64) ((j0 <<< ((32 : Int32) &&& 0x3f).toInt64) ||| ((((((k0.toUInt32 >>> ((2 : Int32) &&& 31).toUInt32).toInt32) % (12 : Int32)) - (2 : Int32)).toInt64) &&& (4294967295 : Int64)))).mpr (Eq.trans (by decide) ht7.symm))).1) (by decide) (by decide) ?_
          show Steps p.tables e below (T84.setTop (mkF m 93 #[.val (.long j0), .second, .val (.int k0), .val (.long (((((k0.toUInt32 >>> ((2 : Int32) &&& 31).toUInt32).toInt32) % (12 : Int32)) - (2 : Int32)).toInt64)), .second, .val (.int (k0 &&& (3 : Int32))), .val (.long ((j0 <<< ((32 : Int32) &&& 0x3f).toInt64) ||| ((((((k0.toUInt32 >>> ((2 : Int32) &&& 31).toUInt32).toInt32) % (12 : Int32)) - (2 : Int32)).toInt64) &&& (4294967295 : Int64)))), .second, .val (.ref w_PRIMITIVE_ARRAY), .val (.ref w_PRIMITIVE_ARRAY)] [])) _
          refine XS.iconst X84.here hx rfl (hb hby at_93) ?_
          show Steps p.tables e below (T84.setTop (mkF m 94 #[.val (.long j0), .second, .val (.int k0), .val (.long (((((k0.toUInt32 >>> ((2 : Int32) &&& 31).toUInt32).toInt32) % (12 : Int32)) - (2 : Int32)).toInt64)), .second, .val (.int (k0 &&& (3 : Int32))), .val (.long ((j0 <<< ((32 : Int32) &&& 0x3f).toInt64) ||| ((((((k0.toUInt32 >>> ((2 : Int32) &&& 31).toUInt32).toInt32) % (12 : Int32)) - (2 : Int32)).toInt64) &&& (4294967295 : Int64)))), .second, .val (.ref w_PRIMITIVE_ARRAY), .val (.ref w_PRIMITIVE_ARRAY)] [(.int (1 : Int32))])) _
          exact k_)
        obtain ⟨fs, hr, hrun, hended, hW, hsame⟩ := X84.leave (v := some (.int (1 : Int32))) (fun h => by rw [Bd.returns] at h; cases h)
        refine ⟨_, _, pre85 _ ?_, hrun, hended, _, _, rfl, ?_, ⟨_, rfl⟩, hW, hsame.mono (by decide) (by decide)⟩
        · show Steps p.tables e below (T84.setTop (mkF m 94 #[.val (.long j0), .second, .val (.int k0), .val (.long (((((k0.toUInt32 >>> ((2 : Int32) &&& 31).toUInt32).toInt32) % (12 : Int32)) - (2 : Int32)).toInt64)), .second, .val (.int (k0 &&& (3 : Int32))), .val (.long ((j0 <<< ((32 : Int32) &&& 0x3f).toInt64) ||| ((((((k0.toUInt32 >>> ((2 : Int32) &&& 31).toUInt32).toInt32) % (12 : Int32)) - (2 : Int32)).toInt64) &&& (4294967295 : Int64)))), .second, .val (.ref w_PRIMITIVE_ARRAY), .val (.ref w_PRIMITIVE_ARRAY)] [(.int (1 : Int32))])) _
          exact retN X84 hx (t := .boolean) Bd.returns (by simp) (hb hby at_94) hr
        · show Q_0 Z j0 k0 w_STRING w_HASHED_STRING w_CLASS w_INSTANCE w_ROOTS w_OBJECT_ARRAY w_PRIMITIVE_ARRAY w_LEGACY w_BY_TAG cl_BY_TAG h0 n0 _ T84.heap _
          rw [e84]
          exact ⟨rfl, N84⟩
      by_cases ht8 : ((j0 <<< ((32 : Int32) &&& 0x3f).toInt64) ||| ((((((k0.toUInt32 >>> ((2 : Int32) &&& 31).toUInt32).toInt32) % (12 : Int32)) - (2 : Int32)).toInt64) &&& (4294967295 : Int64))) = (8 : Int64)
      · have hq : (own_of ((j0 <<< ((32 : Int32) &&& 0x3f).toInt64) ||| ((((((k0.toUInt32 >>> ((2 : Int32) &&& 31).toUInt32).toInt32) % (12 : Int32)) - (2 : Int32)).toInt64) &&& (4294967295 : Int64))) w_STRING w_HASHED_STRING w_CLASS w_INSTANCE w_ROOTS w_OBJECT_ARRAY w_PRIMITIVE_ARRAY w_LEGACY) = .ref w_LEGACY := by rw [own_of, if_neg ht1, if_neg ht2, if_neg ht3, if_neg ht4, if_neg ht5, if_neg ht6, if_neg ht7, if_pos ht8]
        rw [hq] at pre71
        obtain ⟨cq86, kq86, q86a, q86b, q86c⟩ := isOf hZ e70 E_LEGACY
        obtain ⟨v86, _, ⟨T86, L86, k86, n86⟩, -, X86, ⟨Lc86, hQ86, l86, y86, z86⟩, st86⟩ := X70.virtualBack hx (y := (⟨"com/example/heapscribe/heapscribe/Bmd$RecordKind", "tag", "()I"⟩ : MethodName)) (z := (⟨"com/example/heapscribe/heapscribe/Bmd$RecordKind", "tag", "()I"⟩ : MethodName)) hown (mvT hZ (hw _ (List.mem_of_getElem? (i := 14) rfl))) (mvT hZ (hw _ (List.mem_of_getElem? (i := 15) rfl))) (notFace_of_selects (args := #[]) (mvT hZ (hw _ (List.mem_of_getElem? (i := 17) rfl)))) (mvT hZ (hw _ (List.mem_of_getElem? (i := 17) rfl))) (mvT hZ (hw _ (List.mem_of_getElem? (i := 16) rfl))) (by decide) (backOf (W := 0) (rm_3 l Z a0 hw [] w_LEGACY (8 : Int32) h0 n0 Z0 F_LEGACY_tag) hZ (hw _ (List.mem_of_getElem? (i := 18) rfl)) (hw _ (List.mem_of_getElem? (i := 2) rfl)) (by decide) (by decide)) q86a q86c (g := (mkF m 81 #[.val (.long j0), .second, .val (.int k0), .val (.long (((((k0.toUInt32 >>> ((2 : Int32) &&& 31).toUInt32).toInt32) % (12 : Int32)) - (2 : Int32)).toInt64)), .second, .val (.int (k0 &&& (3 : Int32))), .val (.long ((j0 <<< ((32 : Int32) &&& 0x3f).toInt64) ||| ((((((k0.toUInt32 >>> ((2 : Int32) &&& 31).toUInt32).toInt32) % (12 : Int32)) - (2 : Int32)).toInt64) &&& (4294967295 : Int64)))), .second, .val (.ref w_LEGACY), .val (.ref w_LEGACY)] [(.ref w_LEGACY)])) rfl (by rw [hml]; rfl) (Steps.refl _) (argsL := []) (rest := []) (lenOf pd_1 rfl) rfl (by show 2 * 0 + _ ≤ _; exact Nat.le_of_eq rfl) (hb hby at_81) (fun _ _ => ⟨rfl, e70, (by decide : 0 + 0 ≤ _), (by decide : 0 + 0 ≤ _)⟩)
        dsimp only [Pt.U, Pt.locs, Pt.cells, Pt.slots] at X86 l86 y86 z86 st86 hQ86
        subst l86 y86 z86
        obtain ⟨hv86, N86q, e86⟩ := hQ86
        have N86 := Fr.app N70 N86q
        subst hv86
        have pre87 : ∀ t_, Steps p.tables e below (T86.setTop (mkF m 94 #[.val (.long j0), .second, .val (.int k0), .val (.long (((((k0.toUInt32 >>> ((2 : Int32) &&& 31).toUInt32).toInt32) % (12 : Int32)) - (2 : Int32)).toInt64)), .second, .val (.int (k0 &&& (3 : Int32))), .val (.long ((j0 <<< ((32 : Int32) &&& 0x3f).toInt64) ||| ((((((k0.toUInt32 >>> ((2 : Int32) &&& 31).toUInt32).toInt32) % (12 : Int32)) - (2 : Int32)).toInt64) &&& (4294967295 : Int64)))), .second, .val (.ref w_LEGACY), .val (.ref w_LEGACY)] [(.int (1 : Int32))])) t_ → Steps p.tables e below (s₁.setTop (entryFrame m #[(.long j0), (.int k0)] maxLocals)) t_ := fun t_ k_ => pre71 t_ (by
          show Steps p.tables e below (T70.setTop (mkF m 74 #[.val (.long j0), .second, .val (.int k0), .val (.long (((((k0.toUInt32 >>> ((2 : Int32) &&& 31).toUInt32).toInt32) % (12 : Int32)) - (2 : Int32)).toInt64)), .second, .val (.int (k0 &&& (3 : Int32))), .val (.long ((j0 <<< ((32 : Int32) &&& 0x3f).toInt64) ||| ((((((k0.toUInt32 >>> ((2 : Int32) &&& 31).toUInt32).toInt32) % (12 : Int32)) - (2 : Int32)).toInt64) &&& (4294967295 : Int64)))), .second, .val (.ref w_LEGACY), .val (.ref w_LEGACY)] [])) _
          refine XS.aload X70.here hx rfl (hb hby at_74) rfl rfl ?_
          show Steps p.tables e below (T70.setTop (mkF m 76 #[.val (.long j0), .second, .val (.int k0), .val (.long (((((k0.toUInt32 >>> ((2 : Int32) &&& 31).toUInt32).toInt32) % (12 : Int32)) - (2 : Int32)).toInt64)), .second, .val (.int (k0 &&& (3 : Int32))), .val (.long ((j0 <<< ((32 : Int32) &&& 0x3f).toInt64) ||| ((((((k0.toUInt32 >>> ((2 : Int32) &&& 31).toUInt32).toInt32) % (12 : Int32)) - (2 : Int32)).toInt64) &&& (4294967295 : Int64)))), .second, .val (.ref w_LEGACY), .val (.ref w_LEGACY)] [(.ref w_LEGACY)])) _
          refine XS.ifnullNo X70.here hx rfl (hb hby at_76) rfl ?_
          show Steps p.tables e below (T70.setTop (mkF m 79 #[.val (.long j0), .second, .val (.int k0), .val (.long (((((k0.toUInt32 >>> ((2 : Int32) &&& 31).toUInt32).toInt32) % (12 : Int32)) - (2 : Int32)).toInt64)), .second, .val (.int (k0 &&& (3 : Int32))), .val (.long ((j0 <<< ((32 : Int32) &&& 0x3f).toInt64) ||| ((((((k0.toUInt32 >>> ((2 : Int32) &&& 31).toUInt32).toInt32) % (12 : Int32)) - (2 : Int32)).toInt64) &&& (4294967295 : Int64)))), .second, .val (.ref w_LEGACY), .val (.ref w_LEGACY)] [])) _
          refine XS.aload X70.here hx rfl (hb hby at_79) rfl rfl ?_
          show Steps p.tables e below (T70.setTop (mkF m 81 #[.val (.long j0), .second, .val (.int k0), .val (.long (((((k0.toUInt32 >>> ((2 : Int32) &&& 31).toUInt32).toInt32) % (12 : Int32)) - (2 : Int32)).toInt64)), .second, .val (.int (k0 &&& (3 : Int32))), .val (.long ((j0 <<< ((32 : Int32) &&& 0x3f).toInt64) ||| ((((((k0.toUInt32 >>> ((2 : Int32) &&& 31).toUInt32).toInt32) % (12 : Int32)) - (2 : Int32)).toInt64) &&& (4294967295 : Int64)))), .second, .val (.ref w_LEGACY), .val (.ref w_LEGACY)] [(.ref w_LEGACY)])) _
          refine st86.trans ?_
          show Steps p.tables e below (T86.setTop (mkF m 84 #[.val (.long j0), .second, .val (.int k0), .val (.long (((((k0.toUInt32 >>> ((2 : Int32) &&& 31).toUInt32).toInt32) % (12 : Int32)) - (2 : Int32)).toInt64)), .second, .val (.int (k0 &&& (3 : Int32))), .val (.long ((j0 <<< ((32 : Int32) &&& 0x3f).toInt64) ||| ((((((k0.toUInt32 >>> ((2 : Int32) &&& 31).toUInt32).toInt32) % (12 : Int32)) - (2 : Int32)).toInt64) &&& (4294967295 : Int64)))), .second, .val (.ref w_LEGACY), .val (.ref w_LEGACY)] [(.int (8 : Int32))])) _
          refine XS.i2l X86.here hx rfl (hb hby at_84) rfl ?_
          show Steps p.tables e below (T86.setTop (mkF m 85 #[.val (.long j0), .second, .val (.int k0), .val (.long (((((k0.toUInt32 >>> ((2 : Int32) &&& 31).toUInt32).toInt32) % (12 : Int32)) - (2 : Int32)).toInt64)), .second, .val (.int (k0 &&& (3 : Int32))), .val (.long ((j0 <<< ((32 : Int32) &&& 0x3f).toInt64) ||| ((((((k0.toUInt32 >>> ((2 : Int32) &&& 31).toUInt32).toInt32) % (12 : Int32)) - (2 : Int32)).toInt64) &&& (4294967295 : Int64)))), .second, .val (.ref w_LEGACY), .val (.ref w_LEGACY)] [(.long ((8 : Int32).toInt64))])) _
          refine XS.lload X86.here hx rfl (hb hby at_85) rfl ?_
          show Steps p.tables e below (T86.setTop (mkF m 87 #[.val (.long j0), .second, .val (.int k0), .val (.long (((((k0.toUInt32 >>> ((2 : Int32) &&& 31).toUInt32).toInt32) % (12 : Int32)) - (2 : Int32)).toInt64)), .second, .val (.int (k0 &&& (3 : Int32))), .val (.long ((j0 <<< ((32 : Int32) &&& 0x3f).toInt64) ||| ((((((k0.toUInt32 >>> ((2 : Int32) &&& 31).toUInt32).toInt32) % (12 : Int32)) - (2 : Int32)).toInt64) &&& (4294967295 : Int64)))), .second, .val (.ref w_LEGACY), .val (.ref w_LEGACY)] [(.long ((j0 <<< ((32 : Int32) &&& 0x3f).toInt64) ||| ((((((k0.toUInt32 >>> ((2 : Int32) &&& 31).toUInt32).toInt32) % (12 : Int32)) - (2 : Int32)).toInt64) &&& (4294967295 : Int64)))), (.long ((8 : Int32).toInt64))])) _
          refine XS.lcmp X86.here hx rfl (hb hby at_87) rfl ?_
          show Steps p.tables e below (T86.setTop (mkF m 88 #[.val (.long j0), .second, .val (.int k0), .val (.long (((((k0.toUInt32 >>> ((2 : Int32) &&& 31).toUInt32).toInt32) % (12 : Int32)) - (2 : Int32)).toInt64)), .second, .val (.int (k0 &&& (3 : Int32))), .val (.long ((j0 <<< ((32 : Int32) &&& 0x3f).toInt64) ||| ((((((k0.toUInt32 >>> ((2 : Int32) &&& 31).toUInt32).toInt32) % (12 : Int32)) - (2 : Int32)).toInt64) &&& (4294967295 : Int64)))), .second, .val (.ref w_LEGACY), .val (.ref w_LEGACY)] [(.int (lcmpW ((8 : Int32).toInt64) ((j0 <<< ((32 : Int32) &&& 0x3f).toInt64) ||| ((((((k0.toUInt32 >>> ((2 : Int32) &&& 31).toUInt32).toInt32) % (12 : Int32)) - (2 : Int32)).toInt64) &&& (4294967295 : Int64)))))])) _
          refine XS.ifYes X86.here hx rfl (pc0 := 88) (pc' := 93) rfl (hb hby at_88) rfl ((if0 _ _).trans (teq ((lw_eq ((8 : Int32).toInt64) ((j0 <<< ((32 : Int32) &&& 0x3f).toInt64) ||| ((((((k0.toUInt32 >>> ((2 : Int32) &&& 31).toUInt32).toInt32) % (12 : Int32)) - (2 : Int32)).toInt64) &&& (4294967295 : Int64)))).mpr (Eq.trans (by decide) ht8.symm))).1) (by decide) (by decide) ?_
          show Steps p.tables e below (T86.setTop (mkF m 93 #[.val (.long j0), .second, .val (.int k0), .val (.long (((((k0.toUInt32 >>> ((2 : Int32) &&& 31).toUInt32).toInt32) % (12 : Int32)) - (2 : Int32)).toInt64)), .second, .val (.int (k0 &&& (3 : Int32))), .val (.long ((j0 <<< ((32 : Int32) &&& 0x3f).toInt64) ||| ((((((k0.toUInt32 >>> ((2 : Int32) &&& 31).toUInt32).toInt32) % (12 : Int32)) - (2 : Int32)).toInt64) &&& (4294967295 : Int64)))), .second, .val (.ref w_LEGACY), .val (.ref w_LEGACY)] [])) _
          refine XS.iconst X86.here hx rfl (hb hby at_93) ?_
          show Steps p.tables e below (T86.setTop (mkF m 94 #[.val (.long j0), .second, .val (.int k0), .val (.long (((((k0.toUInt32 >>> ((2 : Int32) &&& 31).toUInt32).toInt32) % (12 : Int32)) - (2 : Int32)).toInt64)), .second, .val (.int (k0 &&& (3 : Int32))), .val (.long ((j0 <<< ((32 : Int32) &&& 0x3f).toInt64) ||| ((((((k0.toUInt32 >>> ((2 : Int32) &&& 31).toUInt32).toInt32) % (12 : Int32)) - (2 : Int32)).toInt64) &&& (4294967295 : Int64)))), .second, .val (.ref w_LEGACY), .val (.ref w_LEGACY)] [(.int (1 : Int32))])) _
          exact k_)
        obtain ⟨fs, hr, hrun, hended, hW, hsame⟩ := X86.leave (v := some (.int (1 : Int32))) (fun h => by rw [Bd.returns] at h; cases h)
        refine ⟨_, _, pre87 _ ?_, hrun, hended, _, _, rfl, ?_, ⟨_, rfl⟩, hW, hsame.mono (by decide) (by decide)⟩
        · show Steps p.tables e below (T86.setTop (mkF m 94 #[.val (.long j0), .second, .val (.int k0), .val (.long (((((k0.toUInt32 >>> ((2 : Int32) &&& 31).toUInt32).toInt32) % (12 : Int32)) - (2 : Int32)).toInt64)), .second, .val (.int (k0 &&& (3 : Int32))), .val (.long ((j0 <<< ((32 : Int32) &&& 0x3f).toInt64) ||| ((((((k0.toUInt32 >>> ((2 : Int32) &&& 31).toUInt32).toInt32) % (12 : Int32)) - (2 : Int32)).toInt64) &&& (4294967295 : Int64)))), .second, .val (.ref w_LEGACY), .val (.ref w_LEGACY)] [(.int (1 : Int32))])) _
          exact retN X86 hx (t := .boolean) Bd.returns (by simp) (hb hby at_94) hr
        · show Q_0 Z j0 k0 w_STRING w_HASHED_STRING w_CLASS w_INSTANCE w_ROOTS w_OBJECT_ARRAY w_PRIMITIVE_ARRAY w_LEGACY w_BY_TAG cl_BY_TAG h0 n0 _ T86.heap _
          rw [e86]
          exact ⟨rfl, N86⟩
      have hq : (own_of ((j0 <<< ((32 : Int32) &&& 0x3f).toInt64) ||| ((((((k0.toUInt32 >>> ((2 : Int32) &&& 31).toUInt32).toInt32) % (12 : Int32)) - (2 : Int32)).toInt64) &&& (4294967295 : Int64))) w_STRING w_HASHED_STRING w_CLASS w_INSTANCE w_ROOTS w_OBJECT_ARRAY w_PRIMITIVE_ARRAY w_LEGACY) = .null := by rw [own_of, if_neg ht1, if_neg ht2, if_neg ht3, if_neg ht4, if_neg ht5, if_neg ht6, if_neg ht7, if_neg ht8]
      rw [hq] at pre71
      have pre88 : ∀ t_, Steps p.tables e below (T70.setTop (mkF m 94 #[.val (.long j0), .second, .val (.int k0), .val (.long (((((k0.toUInt32 >>> ((2 : Int32) &&& 31).toUInt32).toInt32) % (12 : Int32)) - (2 : Int32)).toInt64)), .second, .val (.int (k0 &&& (3 : Int32))), .val (.long ((j0 <<< ((32 : Int32) &&& 0x3f).toInt64) ||| ((((((k0.toUInt32 >>> ((2 : Int32) &&& 31).toUInt32).toInt32) % (12 : Int32)) - (2 : Int32)).toInt64) &&& (4294967295 : Int64)))), .second, .val .null, .val .null] [(.int (1 : Int32))])) t_ → Steps p.tables e below (s₁.setTop (entryFrame m #[(.long j0), (.int k0)] maxLocals)) t_ := fun t_ k_ => pre71 t_ (by
        show Steps p.tables e below (T70.setTop (mkF m 74 #[.val (.long j0), .second, .val (.int k0), .val (.long (((((k0.toUInt32 >>> ((2 : Int32) &&& 31).toUInt32).toInt32) % (12 : Int32)) - (2 : Int32)).toInt64)), .second, .val (.int (k0 &&& (3 : Int32))), .val (.long ((j0 <<< ((32 : Int32) &&& 0x3f).toInt64) ||| ((((((k0.toUInt32 >>> ((2 : Int32) &&& 31).toUInt32).toInt32) % (12 : Int32)) - (2 : Int32)).toInt64) &&& (4294967295 : Int64)))), .second, .val .null, .val .null] [])) _
        refine XS.aload X70.here hx rfl (hb hby at_74) rfl rfl ?_
        show Steps p.tables e below (T70.setTop (mkF m 76 #[.val (.long j0), .second, .val (.int k0), .val (.long (((((k0.toUInt32 >>> ((2 : Int32) &&& 31).toUInt32).toInt32) % (12 : Int32)) - (2 : Int32)).toInt64)), .second, .val (.int (k0 &&& (3 : Int32))), .val (.long ((j0 <<< ((32 : Int32) &&& 0x3f).toInt64) ||| ((((((k0.toUInt32 >>> ((2 : Int32) &&& 31).toUInt32).toInt32) % (12 : Int32)) - (2 : Int32)).toInt64) &&& (4294967295 : Int64)))), .second, .val .null, .val .null] [.null])) _
        refine XS.ifnullYes X70.here hx rfl (pc0 := 76) (pc' := 93) rfl (hb hby at_76) rfl (by decide) (by decide) ?_
        show Steps p.tables e below (T70.setTop (mkF m 93 #[.val (.long j0), .second, .val (.int k0), .val (.long (((((k0.toUInt32 >>> ((2 : Int32) &&& 31).toUInt32).toInt32) % (12 : Int32)) - (2 : Int32)).toInt64)), .second, .val (.int (k0 &&& (3 : Int32))), .val (.long ((j0 <<< ((32 : Int32) &&& 0x3f).toInt64) ||| ((((((k0.toUInt32 >>> ((2 : Int32) &&& 31).toUInt32).toInt32) % (12 : Int32)) - (2 : Int32)).toInt64) &&& (4294967295 : Int64)))), .second, .val .null, .val .null] [])) _
        refine XS.iconst X70.here hx rfl (hb hby at_93) ?_
        show Steps p.tables e below (T70.setTop (mkF m 94 #[.val (.long j0), .second, .val (.int k0), .val (.long (((((k0.toUInt32 >>> ((2 : Int32) &&& 31).toUInt32).toInt32) % (12 : Int32)) - (2 : Int32)).toInt64)), .second, .val (.int (k0 &&& (3 : Int32))), .val (.long ((j0 <<< ((32 : Int32) &&& 0x3f).toInt64) ||| ((((((k0.toUInt32 >>> ((2 : Int32) &&& 31).toUInt32).toInt32) % (12 : Int32)) - (2 : Int32)).toInt64) &&& (4294967295 : Int64)))), .second, .val .null, .val .null] [(.int (1 : Int32))])) _
        exact k_)
      obtain ⟨fs, hr, hrun, hended, hW, hsame⟩ := X70.leave (v := some (.int (1 : Int32))) (fun h => by rw [Bd.returns] at h; cases h)
      refine ⟨_, _, pre88 _ ?_, hrun, hended, _, _, rfl, ?_, ⟨_, rfl⟩, hW, hsame.mono (by decide) (by decide)⟩
      · show Steps p.tables e below (T70.setTop (mkF m 94 #[.val (.long j0), .second, .val (.int k0), .val (.long (((((k0.toUInt32 >>> ((2 : Int32) &&& 31).toUInt32).toInt32) % (12 : Int32)) - (2 : Int32)).toInt64)), .second, .val (.int (k0 &&& (3 : Int32))), .val (.long ((j0 <<< ((32 : Int32) &&& 0x3f).toInt64) ||| ((((((k0.toUInt32 >>> ((2 : Int32) &&& 31).toUInt32).toInt32) % (12 : Int32)) - (2 : Int32)).toInt64) &&& (4294967295 : Int64)))), .second, .val .null, .val .null] [(.int (1 : Int32))])) _
        exact retN X70 hx (t := .boolean) Bd.returns (by simp) (hb hby at_94) hr
      · show Q_0 Z j0 k0 w_STRING w_HASHED_STRING w_CLASS w_INSTANCE w_ROOTS w_OBJECT_ARRAY w_PRIMITIVE_ARRAY w_LEGACY w_BY_TAG cl_BY_TAG h0 n0 _ T70.heap _
        rw [e70]
        exact ⟨rfl, N70⟩
    · obtain ⟨v89, _, ⟨T89, L89, k89, n89⟩, -, X89, ⟨Lc89, hQ89, l89, y89, z89⟩, st89⟩ := Jvm.LawKit.callS X0 hx (y := (⟨"com/example/heapscribe/heapscribe/Bmd$RecordKind", "of", "(J)Lcom/example/heapscribe/heapscribe/Bmd$RecordKind;"⟩ : MethodName)) hown (mvT hZ (hw _ (List.mem_of_getElem? (i := 0) rfl))) (mvT hZ (hw _ (List.mem_of_getElem? (i := 1) rfl))) (mvT hZ (hw _ (List.mem_of_getElem? (i := 2) rfl))) (mvT hZ (hw _ (List.mem_of_getElem? (i := 3) rfl))) (by decide) (backOf (W := 0) (rm_1 l Z a0 hw [] (((((k0.toUInt32 >>> ((2 : Int32) &&& 31).toUInt32).toInt32) % (12 : Int32)) - (2 : Int32)).toInt64) w_STRING w_HASHED_STRING w_CLASS w_INSTANCE w_ROOTS w_OBJECT_ARRAY w_PRIMITIVE_ARRAY w_LEGACY w_BY_TAG cl_BY_TAG h0 n0 Z0 S_BY_TAG Ar_BY_TAG Z_BY_TAG hat) hZ (hw _ (List.mem_of_getElem? (i := 3) rfl)) (hw _ (List.mem_of_getElem? (i := 2) rfl)) (by decide) (by decide)) (g := (mkF m 53 #[.val (.long j0), .second, .val (.int k0), .val (.long (((((k0.toUInt32 >>> ((2 : Int32) &&& 31).toUInt32).toInt32) % (12 : Int32)) - (2 : Int32)).toInt64)), .second, .val (.int (k0 &&& (3 : Int32))), .val (.long (((((k0.toUInt32 >>> ((2 : Int32) &&& 31).toUInt32).toInt32) % (12 : Int32)) - (2 : Int32)).toInt64)), .second, .unset, .unset] [(.long (((((k0.toUInt32 >>> ((2 : Int32) &&& 31).toUInt32).toInt32) % (12 : Int32)) - (2 : Int32)).toInt64))])) rfl (by rw [hml]; rfl) (argsL := [(.long (((((k0.toUInt32 >>> ((2 : Int32) &&& 31).toUInt32).toInt32) % (12 : Int32)) - (2 : Int32)).toInt64))]) (rest := []) (lenOf pd_0 rfl) rfl (by show 2 * 0 + _ ≤ _; exact Nat.le_of_eq rfl) (hb hby at_53) (fun _ _ => ⟨rfl, e0, (by decide : 0 + 0 ≤ _), (by decide : 0 + 0 ≤ _)⟩)
      dsimp only [Pt.U, Pt.locs, Pt.cells, Pt.slots] at X89 l89 y89 z89 st89 hQ89
      subst l89 y89 z89
      obtain ⟨hv89, N89q, e89⟩ := hQ89
      have N89 := Fr.app N0 N89q
      subst hv89
      obtain ⟨v90, _, ⟨T90, L90, k90, n90⟩, -, X90, ⟨Lc90, hQ90, l90, y90, z90⟩, st90⟩ := Jvm.LawKit.callS X89 hx (y := (⟨"com/example/heapscribe/heapscribe/RecordKindOfPinLaw", "expected", "(J)Lcom/example/heapscribe/heapscribe/Bmd$RecordKind;"⟩ : MethodName)) hown (mvT hZ (hw _ (List.mem_of_getElem? (i := 7) rfl))) (mvT hZ (hw _ (List.mem_of_getElem? (i := 8) rfl))) (mvT hZ (hw _ (List.mem_of_getElem? (i := 9) rfl))) (mvT hZ (hw _ (List.mem_of_getElem? (i := 10) rfl))) (by decide) (backOf (W := 0) (rm_2 l Z a0 hw [] (((((k0.toUInt32 >>> ((2 : Int32) &&& 31).toUInt32).toInt32) % (12 : Int32)) - (2 : Int32)).toInt64) w_STRING w_HASHED_STRING w_CLASS w_INSTANCE w_ROOTS w_OBJECT_ARRAY w_PRIMITIVE_ARRAY w_LEGACY h0 n0 Z0 S_STRING S_HASHED_STRING S_CLASS S_INSTANCE S_ROOTS S_OBJECT_ARRAY S_PRIMITIVE_ARRAY S_LEGACY) hZ (hw _ (List.mem_of_getElem? (i := 10) rfl)) (hw _ (List.mem_of_getElem? (i := 9) rfl)) (by decide) (by decide)) (g := (mkF m 60 #[.val (.long j0), .second, .val (.int k0), .val (.long (((((k0.toUInt32 >>> ((2 : Int32) &&& 31).toUInt32).toInt32) % (12 : Int32)) - (2 : Int32)).toInt64)), .second, .val (.int (k0 &&& (3 : Int32))), .val (.long (((((k0.toUInt32 >>> ((2 : Int32) &&& 31).toUInt32).toInt32) % (12 : Int32)) - (2 : Int32)).toInt64)), .second, .val (own_of (((((k0.toUInt32 >>> ((2 : Int32) &&& 31).toUInt32).toInt32) % (12 : Int32)) - (2 : Int32)).toInt64) w_STRING w_HASHED_STRING w_CLASS w_INSTANCE w_ROOTS w_OBJECT_ARRAY w_PRIMITIVE_ARRAY w_LEGACY), .unset] [(.long (((((k0.toUInt32 >>> ((2 : Int32) &&& 31).toUInt32).toInt32) % (12 : Int32)) - (2 : Int32)).toInt64))])) rfl (by rw [hml]; rfl) (argsL := [(.long (((((k0.toUInt32 >>> ((2 : Int32) &&& 31).toUInt32).toInt32) % (12 : Int32)) - (2 : Int32)).toInt64))]) (rest := []) (lenOf pd_0 rfl) rfl (by show 2 * 0 + _ ≤ _; exact Nat.le_of_eq rfl) (hb hby at_60) (fun _ _ => ⟨rfl, e89, (by decide : 0 + 0 ≤ _), (by decide : 0 + 0 ≤ _)⟩)
      dsimp only [Pt.U, Pt.locs, Pt.cells, Pt.slots] at X90 l90 y90 z90 st90 hQ90
      subst l90 y90 z90
      obtain ⟨hv90, N90q, e90⟩ := hQ90
      have N90 := Fr.app N89 N90q
      subst hv90
      have pre91 : ∀ t_, Steps p.tables e below (T90.setTop (mkF m 74 #[.val (.long j0), .second, .val (.int k0), .val (.long (((((k0.toUInt32 >>> ((2 : Int32) &&& 31).toUInt32).toInt32) % (12 : Int32)) - (2 : Int32)).toInt64)), .second, .val (.int (k0 &&& (3 : Int32))), .val (.long (((((k0.toUInt32 >>> ((2 : Int32) &&& 31).toUInt32).toInt32) % (12 : Int32)) - (2 : Int32)).toInt64)), .second, .val (own_of (((((k0.toUInt32 >>> ((2 : Int32) &&& 31).toUInt32).toInt32) % (12 : Int32)) - (2 : Int32)).toInt64) w_STRING w_HASHED_STRING w_CLASS w_INSTANCE w_ROOTS w_OBJECT_ARRAY w_PRIMITIVE_ARRAY w_LEGACY), .val (own_of (((((k0.toUInt32 >>> ((2 : Int32) &&& 31).toUInt32).toInt32) % (12 : Int32)) - (2 : Int32)).toInt64) w_STRING w_HASHED_STRING w_CLASS w_INSTANCE w_ROOTS w_OBJECT_ARRAY w_PRIMITIVE_ARRAY w_LEGACY)] [])) t_ → Steps p.tables e below (s₁.setTop (entryFrame m #[(.long j0), (.int k0)] maxLocals)) t_ := fun t_ k_ => pre67 t_ (by
        show Steps p.tables e below (s₁.setTop (mkF m 30 #[.val (.long j0), .second, .val (.int k0), .val (.long (((((k0.toUInt32 >>> ((2 : Int32) &&& 31).toUInt32).toInt32) % (12 : Int32)) - (2 : Int32)).toInt64)), .second, .val (.int (k0 &&& (3 : Int32))), .unset, .unset, .unset, .unset] [(.int (3 : Int32)), (.int (k0 &&& (3 : Int32)))])) _
        refine XS.icmpYes X0.here hx rfl (pc0 := 30) (pc' := 48) rfl (hb hby at_30) rfl (feq hc30_68).2 (by decide) (by decide) ?_
        show Steps p.tables e below (s₁.setTop (mkF m 48 #[.val (.long j0), .second, .val (.int k0), .val (.long (((((k0.toUInt32 >>> ((2 : Int32) &&& 31).toUInt32).toInt32) % (12 : Int32)) - (2 : Int32)).toInt64)), .second, .val (.int (k0 &&& (3 : Int32))), .unset, .unset, .unset, .unset] [])) _
        refine XS.lloadN X0.here hx rfl (hb hby at_48) rfl ?_
        show Steps p.tables e below (s₁.setTop (mkF m 49 #[.val (.long j0), .second, .val (.int k0), .val (.long (((((k0.toUInt32 >>> ((2 : Int32) &&& 31).toUInt32).toInt32) % (12 : Int32)) - (2 : Int32)).toInt64)), .second, .val (.int (k0 &&& (3 : Int32))), .unset, .unset, .unset, .unset] [(.long (((((k0.toUInt32 >>> ((2 : Int32) &&& 31).toUInt32).toInt32) % (12 : Int32)) - (2 : Int32)).toInt64))])) _
        refine XS.lstore X0.here hx rfl (hb hby at_49) rfl (l' := #[.val (.long j0), .second, .val (.int k0), .val (.long (((((k0.toUInt32 >>> ((2 : Int32) &&& 31).toUInt32).toInt32) % (12 : Int32)) - (2 : Int32)).toInt64)), .second, .val (.int (k0 &&& (3 : Int32))), .val (.long (((((k0.toUInt32 >>> ((2 : Int32) &&& 31).toUInt32).toInt32) % (12 : Int32)) - (2 : Int32)).toInt64)), .second, .unset, .unset]) rfl ?_
        show Steps p.tables e below (s₁.setTop (mkF m 51 #[.val (.long j0), .second, .val (.int k0), .val (.long (((((k0.toUInt32 >>> ((2 : Int32) &&& 31).toUInt32).toInt32) % (12 : Int32)) - (2 : Int32)).toInt64)), .second, .val (.int (k0 &&& (3 : Int32))), .val (.long (((((k0.toUInt32 >>> ((2 : Int32) &&& 31).toUInt32).toInt32) % (12 : Int32)) - (2 : Int32)).toInt64)), .second, .unset, .unset] [])) _
        refine XS.lload X0.here hx rfl (hb hby at_51) rfl ?_
        show Steps p.tables e below (s₁.setTop (mkF m 53 #[.val (.long j0), .second, .val (.int k0), .val (.long (((((k0.toUInt32 >>> ((2 : Int32) &&& 31).toUInt32).toInt32) % (12 : Int32)) - (2 : Int32)).toInt64)), .second, .val (.int (k0 &&& (3 : Int32))), .val (.long (((((k0.toUInt32 >>> ((2 : Int32) &&& 31).toUInt32).toInt32) % (12 : Int32)) - (2 : Int32)).toInt64)), .second, .unset, .unset] [(.long (((((k0.toUInt32 >>> ((2 : Int32) &&& 31).toUInt32).toInt32) % (12 : Int32)) - (2 : Int32)).toInt64))])) _
        refine st89 _ ?_
        show Steps p.tables e below (T89.setTop (mkF m 56 #[.val (.long j0), .second, .val (.int k0), .val (.long (((((k0.toUInt32 >>> ((2 : Int32) &&& 31).toUInt32).toInt32) % (12 : Int32)) - (2 : Int32)).toInt64)), .second, .val (.int (k0 &&& (3 : Int32))), .val (.long (((((k0.toUInt32 >>> ((2 : Int32) &&& 31).toUInt32).toInt32) % (12 : Int32)) - (2 : Int32)).toInt64)), .second, .unset, .unset] [(own_of (((((k0.toUInt32 >>> ((2 : Int32) &&& 31).toUInt32).toInt32) % (12 : Int32)) - (2 : Int32)).toInt64) w_STRING w_HASHED_STRING w_CLASS w_INSTANCE w_ROOTS w_OBJECT_ARRAY w_PRIMITIVE_ARRAY w_LEGACY)])) _
        refine XS.astoreS X89.here hx rfl (hb hby at_56) rfl (own_of_ref (((((k0.toUInt32 >>> ((2 : Int32) &&& 31).toUInt32).toInt32) % (12 : Int32)) - (2 : Int32)).toInt64) w_STRING w_HASHED_STRING w_CLASS w_INSTANCE w_ROOTS w_OBJECT_ARRAY w_PRIMITIVE_ARRAY w_LEGACY) (Jvm.Free.XT.cat1 (own_of_ref (((((k0.toUInt32 >>> ((2 : Int32) &&& 31).toUInt32).toInt32) % (12 : Int32)) - (2 : Int32)).toInt64) w_STRING w_HASHED_STRING w_CLASS w_INSTANCE w_ROOTS w_OBJECT_ARRAY w_PRIMITIVE_ARRAY w_LEGACY)) rfl (Or.inl rfl) ?_
        show Steps p.tables e below (T89.setTop (mkF m 58 #[.val (.long j0), .second, .val (.int k0), .val (.long (((((k0.toUInt32 >>> ((2 : Int32) &&& 31).toUInt32).toInt32) % (12 : Int32)) - (2 : Int32)).toInt64)), .second, .val (.int (k0 &&& (3 : Int32))), .val (.long (((((k0.toUInt32 >>> ((2 : Int32) &&& 31).toUInt32).toInt32) % (12 : Int32)) - (2 : Int32)).toInt64)), .second, .val (own_of (((((k0.toUInt32 >>> ((2 : Int32) &&& 31).toUInt32).toInt32) % (12 : Int32)) - (2 : Int32)).toInt64) w_STRING w_HASHED_STRING w_CLASS w_INSTANCE w_ROOTS w_OBJECT_ARRAY w_PRIMITIVE_ARRAY w_LEGACY), .unset] [])) _
        refine XS.lload X89.here hx rfl (hb hby at_58) rfl ?_
        show Steps p.tables e below (T89.setTop (mkF m 60 #[.val (.long j0), .second, .val (.int k0), .val (.long (((((k0.toUInt32 >>> ((2 : Int32) &&& 31).toUInt32).toInt32) % (12 : Int32)) - (2 : Int32)).toInt64)), .second, .val (.int (k0 &&& (3 : Int32))), .val (.long (((((k0.toUInt32 >>> ((2 : Int32) &&& 31).toUInt32).toInt32) % (12 : Int32)) - (2 : Int32)).toInt64)), .second, .val (own_of (((((k0.toUInt32 >>> ((2 : Int32) &&& 31).toUInt32).toInt32) % (12 : Int32)) - (2 : Int32)).toInt64) w_STRING w_HASHED_STRING w_CLASS w_INSTANCE w_ROOTS w_OBJECT_ARRAY w_PRIMITIVE_ARRAY w_LEGACY), .unset] [(.long (((((k0.toUInt32 >>> ((2 : Int32) &&& 31).toUInt32).toInt32) % (12 : Int32)) - (2 : Int32)).toInt64))])) _
        refine st90 _ ?_
        show Steps p.tables e below (T90.setTop (mkF m 63 #[.val (.long j0), .second, .val (.int k0), .val (.long (((((k0.toUInt32 >>> ((2 : Int32) &&& 31).toUInt32).toInt32) % (12 : Int32)) - (2 : Int32)).toInt64)), .second, .val (.int (k0 &&& (3 : Int32))), .val (.long (((((k0.toUInt32 >>> ((2 : Int32) &&& 31).toUInt32).toInt32) % (12 : Int32)) - (2 : Int32)).toInt64)), .second, .val (own_of (((((k0.toUInt32 >>> ((2 : Int32) &&& 31).toUInt32).toInt32) % (12 : Int32)) - (2 : Int32)).toInt64) w_STRING w_HASHED_STRING w_CLASS w_INSTANCE w_ROOTS w_OBJECT_ARRAY w_PRIMITIVE_ARRAY w_LEGACY), .unset] [(own_of (((((k0.toUInt32 >>> ((2 : Int32) &&& 31).toUInt32).toInt32) % (12 : Int32)) - (2 : Int32)).toInt64) w_STRING w_HASHED_STRING w_CLASS w_INSTANCE w_ROOTS w_OBJECT_ARRAY w_PRIMITIVE_ARRAY w_LEGACY)])) _
        refine XS.astoreS X90.here hx rfl (hb hby at_63) rfl (own_of_ref (((((k0.toUInt32 >>> ((2 : Int32) &&& 31).toUInt32).toInt32) % (12 : Int32)) - (2 : Int32)).toInt64) w_STRING w_HASHED_STRING w_CLASS w_INSTANCE w_ROOTS w_OBJECT_ARRAY w_PRIMITIVE_ARRAY w_LEGACY) (Jvm.Free.XT.cat1 (own_of_ref (((((k0.toUInt32 >>> ((2 : Int32) &&& 31).toUInt32).toInt32) % (12 : Int32)) - (2 : Int32)).toInt64) w_STRING w_HASHED_STRING w_CLASS w_INSTANCE w_ROOTS w_OBJECT_ARRAY w_PRIMITIVE_ARRAY w_LEGACY)) rfl (Or.inl rfl) ?_
        show Steps p.tables e below (T90.setTop (mkF m 65 #[.val (.long j0), .second, .val (.int k0), .val (.long (((((k0.toUInt32 >>> ((2 : Int32) &&& 31).toUInt32).toInt32) % (12 : Int32)) - (2 : Int32)).toInt64)), .second, .val (.int (k0 &&& (3 : Int32))), .val (.long (((((k0.toUInt32 >>> ((2 : Int32) &&& 31).toUInt32).toInt32) % (12 : Int32)) - (2 : Int32)).toInt64)), .second, .val (own_of (((((k0.toUInt32 >>> ((2 : Int32) &&& 31).toUInt32).toInt32) % (12 : Int32)) - (2 : Int32)).toInt64) w_STRING w_HASHED_STRING w_CLASS w_INSTANCE w_ROOTS w_OBJECT_ARRAY w_PRIMITIVE_ARRAY w_LEGACY), .val (own_of (((((k0.toUInt32 >>> ((2 : Int32) &&& 31).toUInt32).toInt32) % (12 : Int32)) - (2 : Int32)).toInt64) w_STRING w_HASHED_STRING w_CLASS w_INSTANCE w_ROOTS w_OBJECT_ARRAY w_PRIMITIVE_ARRAY w_LEGACY)] [])) _
        refine XS.aload X90.here hx rfl (hb hby at_65) rfl (own_of_ref (((((k0.toUInt32 >>> ((2 : Int32) &&& 31).toUInt32).toInt32) % (12 : Int32)) - (2 : Int32)).toInt64) w_STRING w_HASHED_STRING w_CLASS w_INSTANCE w_ROOTS w_OBJECT_ARRAY w_PRIMITIVE_ARRAY w_LEGACY) ?_
        show Steps p.tables e below (T90.setTop (mkF m 67 #[.val (.long j0), .second, .val (.int k0), .val (.long (((((k0.toUInt32 >>> ((2 : Int32) &&& 31).toUInt32).toInt32) % (12 : Int32)) - (2 : Int32)).toInt64)), .second, .val (.int (k0 &&& (3 : Int32))), .val (.long (((((k0.toUInt32 >>> ((2 : Int32) &&& 31).toUInt32).toInt32) % (12 : Int32)) - (2 : Int32)).toInt64)), .second, .val (own_of (((((k0.toUInt32 >>> ((2 : Int32) &&& 31).toUInt32).toInt32) % (12 : Int32)) - (2 : Int32)).toInt64) w_STRING w_HASHED_STRING w_CLASS w_INSTANCE w_ROOTS w_OBJECT_ARRAY w_PRIMITIVE_ARRAY w_LEGACY), .val (own_of (((((k0.toUInt32 >>> ((2 : Int32) &&& 31).toUInt32).toInt32) % (12 : Int32)) - (2 : Int32)).toInt64) w_STRING w_HASHED_STRING w_CLASS w_INSTANCE w_ROOTS w_OBJECT_ARRAY w_PRIMITIVE_ARRAY w_LEGACY)] [(own_of (((((k0.toUInt32 >>> ((2 : Int32) &&& 31).toUInt32).toInt32) % (12 : Int32)) - (2 : Int32)).toInt64) w_STRING w_HASHED_STRING w_CLASS w_INSTANCE w_ROOTS w_OBJECT_ARRAY w_PRIMITIVE_ARRAY w_LEGACY)])) _
        refine XS.aload X90.here hx rfl (hb hby at_67) rfl (own_of_ref (((((k0.toUInt32 >>> ((2 : Int32) &&& 31).toUInt32).toInt32) % (12 : Int32)) - (2 : Int32)).toInt64) w_STRING w_HASHED_STRING w_CLASS w_INSTANCE w_ROOTS w_OBJECT_ARRAY w_PRIMITIVE_ARRAY w_LEGACY) ?_
        show Steps p.tables e below (T90.setTop (mkF m 69 #[.val (.long j0), .second, .val (.int k0), .val (.long (((((k0.toUInt32 >>> ((2 : Int32) &&& 31).toUInt32).toInt32) % (12 : Int32)) - (2 : Int32)).toInt64)), .second, .val (.int (k0 &&& (3 : Int32))), .val (.long (((((k0.toUInt32 >>> ((2 : Int32) &&& 31).toUInt32).toInt32) % (12 : Int32)) - (2 : Int32)).toInt64)), .second, .val (own_of (((((k0.toUInt32 >>> ((2 : Int32) &&& 31).toUInt32).toInt32) % (12 : Int32)) - (2 : Int32)).toInt64) w_STRING w_HASHED_STRING w_CLASS w_INSTANCE w_ROOTS w_OBJECT_ARRAY w_PRIMITIVE_ARRAY w_LEGACY), .val (own_of (((((k0.toUInt32 >>> ((2 : Int32) &&& 31).toUInt32).toInt32) % (12 : Int32)) - (2 : Int32)).toInt64) w_STRING w_HASHED_STRING w_CLASS w_INSTANCE w_ROOTS w_OBJECT_ARRAY w_PRIMITIVE_ARRAY w_LEGACY)] [(own_of (((((k0.toUInt32 >>> ((2 : Int32) &&& 31).toUInt32).toInt32) % (12 : Int32)) - (2 : Int32)).toInt64) w_STRING w_HASHED_STRING w_CLASS w_INSTANCE w_ROOTS w_OBJECT_ARRAY w_PRIMITIVE_ARRAY w_LEGACY), (own_of (((((k0.toUInt32 >>> ((2 : Int32) &&& 31).toUInt32).toInt32) % (12 : Int32)) - (2 : Int32)).toInt64) w_STRING w_HASHED_STRING w_CLASS w_INSTANCE w_ROOTS w_OBJECT_ARRAY w_PRIMITIVE_ARRAY w_LEGACY)])) _
        refine Jvm.RoadKit.acmp (g := (mkF m 69 #[.val (.long j0), .second, .val (.int k0), .val (.long (((((k0.toUInt32 >>> ((2 : Int32) &&& 31).toUInt32).toInt32) % (12 : Int32)) - (2 : Int32)).toInt64)), .second, .val (.int (k0 &&& (3 : Int32))), .val (.long (((((k0.toUInt32 >>> ((2 : Int32) &&& 31).toUInt32).toInt32) % (12 : Int32)) - (2 : Int32)).toInt64)), .second, .val (own_of (((((k0.toUInt32 >>> ((2 : Int32) &&& 31).toUInt32).toInt32) % (12 : Int32)) - (2 : Int32)).toInt64) w_STRING w_HASHED_STRING w_CLASS w_INSTANCE w_ROOTS w_OBJECT_ARRAY w_PRIMITIVE_ARRAY w_LEGACY), .val (own_of (((((k0.toUInt32 >>> ((2 : Int32) &&& 31).toUInt32).toInt32) % (12 : Int32)) - (2 : Int32)).toInt64) w_STRING w_HASHED_STRING w_CLASS w_INSTANCE w_ROOTS w_OBJECT_ARRAY w_PRIMITIVE_ARRAY w_LEGACY)] [(own_of (((((k0.toUInt32 >>> ((2 : Int32) &&& 31).toUInt32).toInt32) % (12 : Int32)) - (2 : Int32)).toInt64) w_STRING w_HASHED_STRING w_CLASS w_INSTANCE w_ROOTS w_OBJECT_ARRAY w_PRIMITIVE_ARRAY w_LEGACY), (own_of (((((k0.toUInt32 >>> ((2 : Int32) &&& 31).toUInt32).toInt32) % (12 : Int32)) - (2 : Int32)).toInt64) w_STRING w_HASHED_STRING w_CLASS w_INSTANCE w_ROOTS w_OBJECT_ARRAY w_PRIMITIVE_ARRAY w_LEGACY)])) X90 hx rfl (own_of_ref (((((k0.toUInt32 >>> ((2 : Int32) &&& 31).toUInt32).toInt32) % (12 : Int32)) - (2 : Int32)).toInt64) w_STRING w_HASHED_STRING w_CLASS w_INSTANCE w_ROOTS w_OBJECT_ARRAY w_PRIMITIVE_ARRAY w_LEGACY) (own_of_ref (((((k0.toUInt32 >>> ((2 : Int32) &&& 31).toUInt32).toInt32) % (12 : Int32)) - (2 : Int32)).toInt64) w_STRING w_HASHED_STRING w_CLASS w_INSTANCE w_ROOTS w_OBJECT_ARRAY w_PRIMITIVE_ARRAY w_LEGACY) (pc0 := 69) (pc' := 74) (same := true) rfl (hb hby at_69) rfl (decide_eq_true rfl) (by decide) (by decide) ?_
        show Steps p.tables e below (T90.setTop (mkF m 74 #[.val (.long j0), .second, .val (.int k0), .val (.long (((((k0.toUInt32 >>> ((2 : Int32) &&& 31).toUInt32).toInt32) % (12 : Int32)) - (2 : Int32)).toInt64)), .second, .val (.int (k0 &&& (3 : Int32))), .val (.long (((((k0.toUInt32 >>> ((2 : Int32) &&& 31).toUInt32).toInt32) % (12 : Int32)) - (2 : Int32)).toInt64)), .second, .val (own_of (((((k0.toUInt32 >>> ((2 : Int32) &&& 31).toUInt32).toInt32) % (12 : Int32)) - (2 : Int32)).toInt64) w_STRING w_HASHED_STRING w_CLASS w_INSTANCE w_ROOTS w_OBJECT_ARRAY w_PRIMITIVE_ARRAY w_LEGACY), .val (own_of (((((k0.toUInt32 >>> ((2 : Int32) &&& 31).toUInt32).toInt32) % (12 : Int32)) - (2 : Int32)).toInt64) w_STRING w_HASHED_STRING w_CLASS w_INSTANCE w_ROOTS w_OBJECT_ARRAY w_PRIMITIVE_ARRAY w_LEGACY)] [])) _
        exact k_)
      by_cases ht1 : (((((k0.toUInt32 >>> ((2 : Int32) &&& 31).toUInt32).toInt32) % (12 : Int32)) - (2 : Int32)).toInt64) = (1 : Int64)
      · have hq : (own_of (((((k0.toUInt32 >>> ((2 : Int32) &&& 31).toUInt32).toInt32) % (12 : Int32)) - (2 : Int32)).toInt64) w_STRING w_HASHED_STRING w_CLASS w_INSTANCE w_ROOTS w_OBJECT_ARRAY w_PRIMITIVE_ARRAY w_LEGACY) = .ref w_STRING := by rw [own_of, if_pos ht1]
        rw [hq] at pre91
        obtain ⟨cq92, kq92, q92a, q92b, q92c⟩ := isOf hZ e90 E_STRING
        obtain ⟨v92, _, ⟨T92, L92, k92, n92⟩, -, X92, ⟨Lc92, hQ92, l92, y92, z92⟩, st92⟩ := X90.virtualBack hx (y := (⟨"com/example/heapscribe/heapscribe/Bmd$RecordKind", "tag", "()I"⟩ : MethodName)) (z := (⟨"com/example/heapscribe/heapscribe/Bmd$RecordKind", "tag", "()I"⟩ : MethodName)) hown (mvT hZ (hw _ (List.mem_of_getElem? (i := 14) rfl))) (mvT hZ (hw _ (List.mem_of_getElem? (i := 15) rfl))) (notFace_of_selects (args := #[]) (mvT hZ (hw _ (List.mem_of_getElem? (i := 17) rfl)))) (mvT hZ (hw _ (List.mem_of_getElem? (i := 17) rfl))) (mvT hZ (hw _ (List.mem_of_getElem? (i := 16) rfl))) (by decide) (backOf (W := 0) (rm_3 l Z a0 hw [] w_STRING (1 : Int32) h0 n0 Z0 F_STRING_tag) hZ (hw _ (List.mem_of_getElem? (i := 18) rfl)) (hw _ (List.mem_of_getElem? (i := 2) rfl)) (by decide) (by decide)) q92a q92c (g := (mkF m 81 #[.val (.long j0), .second, .val (.int k0), .val (.long (((((k0.toUInt32 >>> ((2 : Int32) &&& 31).toUInt32).toInt32) % (12 : Int32)) - (2 : Int32)).toInt64)), .second, .val (.int (k0 &&& (3 : Int32))), .val (.long (((((k0.toUInt32 >>> ((2 : Int32) &&& 31).toUInt32).toInt32) % (12 : Int32)) - (2 : Int32)).toInt64)), .second, .val (.ref w_STRING), .val (.ref w_STRING)] [(.ref w_STRING)])) rfl (by rw [hml]; rfl) (Steps.refl _) (argsL := []) (rest := []) (lenOf pd_1 rfl) rfl (by show 2 * 0 + _ ≤ _; exact Nat.le_of_eq rfl) (hb hby at_81) (fun _ _ => ⟨rfl, e90, (by decide : 0 + 0 ≤ _), (by decide : 0 + 0 ≤ _)⟩)
        dsimp only [Pt.U, Pt.locs, Pt.cells, Pt.slots] at X92 l92 y92 z92 st92 hQ92
        subst l92 y92 z92
        obtain ⟨hv92, N92q, e92⟩ := hQ92
        have N92 := Fr.app N90 N92q
        subst hv92
        have pre93 : ∀ t_, Steps p.tables e below (T92.setTop (mkF m 94 #[.val (.long j0), .second, .val (.int k0), .val (.long (((((k0.toUInt32 >>> ((2 : Int32) &&& 31).toUInt32).toInt32) % (12 : Int32)) - (2 : Int32)).toInt64)), .second, .val (.int (k0 &&& (3 : Int32))), .val (.long (((((k0.toUInt32 >>> ((2 : Int32) &&& 31).toUInt32).toInt32) % (12 : Int32)) - (2 : Int32)).toInt64)), .second, .val (.ref w_STRING), .val (.ref w_STRING)] [(.int (1 : Int32))])) t_ → Steps p.tables e below (s₁.setTop (entryFrame m #[(.long j0), (.int k0)] maxLocals)) t_ := fun t_ k_ => pre91 t_ (by
          show Steps p.tables e below (T90.setTop (mkF m 74 #[.val (.long j0), .second, .val (.int k0), .val (.long (((((k0.toUInt32 >>> ((2 : Int32) &&& 31).toUInt32).toInt32) % (12 : Int32)) - (2 : Int32)).toInt64)), .second, .val (.int (k0 &&& (3 : Int32))), .val (.long (((((k0.toUInt32 >>> ((2 : Int32) &&& 31).toUInt32).toInt32) % (12 : Int32)) - (2 : Int32)).toInt64)), .second, .val (.ref w_STRING), .val (.ref w_STRING)] [])) _
          refine XS.aload X90.here hx rfl (hb hby at_74) rfl rfl ?_
          show Steps p.tables e below (T90.setTop (mkF m 76 #[.val (.long j0), .second, .val (.int k0), .val (.long (((((k0.toUInt32 >>> ((2 : Int32) &&& 31).toUInt32).toInt32) % (12 : Int32)) - (2 : Int32)).toInt64)), .second, .val (.int (k0 &&& (3 : Int32))), .val (.long (((((k0.toUInt32 >>> ((2 : Int32) &&& 31).toUInt32).toInt32) % (12 : Int32)) - (2 : Int32)).toInt64)), .second, .val (.ref w_STRING), .val (.ref w_STRING)] [(.ref w_STRING)])) _
          refine XS.ifnullNo X90.here hx rfl (hb hby at_76) rfl ?_
          show Steps p.tables e below (T90.setTop (mkF m 79 #[.val (.long j0), .second, .val (.int k0), .val (.long (((((k0.toUInt32 >>> ((2 : Int32) &&& 31).toUInt32).toInt32) % (12 : Int32)) - (2 : Int32)).toInt64)), .second, .val (.int (k0 &&& (3 : Int32))), .val (.long (((((k0.toUInt32 >>> ((2 : Int32) &&& 31).toUInt32).toInt32) % (12 : Int32)) - (2 : Int32)).toInt64)), .second, .val (.ref w_STRING), .val (.ref w_STRING)] [])) _
          refine XS.aload X90.here hx rfl (hb hby at_79) rfl rfl ?_
          show Steps p.tables e below (T90.setTop (mkF m 81 #[.val (.long j0), .second, .val (.int k0), .val (.long (((((k0.toUInt32 >>> ((2 : Int32) &&& 31).toUInt32).toInt32) % (12 : Int32)) - (2 : Int32)).toInt64)), .second, .val (.int (k0 &&& (3 : Int32))), .val (.long (((((k0.toUInt32 >>> ((2 : Int32) &&& 31).toUInt32).toInt32) % (12 : Int32)) - (2 : Int32)).toInt64)), .second, .val (.ref w_STRING), .val (.ref w_STRING)] [(.ref w_STRING)])) _
          refine st92.trans ?_
          show Steps p.tables e below (T92.setTop (mkF m 84 #[.val (.long j0), .second, .val (.int k0), .val (.long (((((k0.toUInt32 >>> ((2 : Int32) &&& 31).toUInt32).toInt32) % (12 : Int32)) - (2 : Int32)).toInt64)), .second, .val (.int (k0 &&& (3 : Int32))), .val (.long (((((k0.toUInt32 >>> ((2 : Int32) &&& 31).toUInt32).toInt32) % (12 : Int32)) - (2 : Int32)).toInt64)), .second, .val (.ref w_STRING), .val (.ref w_STRING)] [(.int (1 : Int32))])) _
          refine XS.i2l X92.here hx rfl (hb hby at_84) rfl ?_
          show Steps p.tables e below (T92.setTop (mkF m 85 #[.val (.long j0), .second, .val (.int k0), .val (.long (((((k0.toUInt32 >>> ((2 : Int32) &&& 31).toUInt32).toInt32) % (12 : Int32)) - (2 : Int32)).toInt64)), .second, .val (.int (k0 &&& (3 : Int32))), .val (.long (((((k0.toUInt32 >>> ((2 : Int32) &&& 31).toUInt32).toInt32) % (12 : Int32)) - (2 : Int32)).toInt64)), .second, .val (.ref w_STRING), .val (.ref w_STRING)] [(.long ((1 : Int32).toInt64))])) _
          refine XS.lload X92.here hx rfl (hb hby at_85) rfl ?_
          show Steps p.tables e below (T92.setTop (mkF m 87 #[.val (.long j0), .second, .val (.int k0), .val (.long (((((k0.toUInt32 >>> ((2 : Int32) &&& 31).toUInt32).toInt32) % (12 : Int32)) - (2 : Int32)).toInt64)), .second, .val (.int (k0 &&& (3 : Int32))), .val (.long (((((k0.toUInt32 >>> ((2 : Int32) &&& 31).toUInt32).toInt32) % (12 : Int32)) - (2 : Int32)).toInt64)), .second, .val (.ref w_STRING), .val (.ref w_STRING)] [(.long (((((k0.toUInt32 >>> ((2 : Int32) &&& 31).toUInt32).toInt32) % (12 : Int32)) - (2 : Int32)).toInt64)), (.long ((1 : Int32).toInt64))])) _
          refine XS.lcmp X92.here hx rfl (hb hby at_87) rfl ?_
          show Steps p.tables e below (T92.setTop (mkF m 88 #[.val (.long j0), .second, .val (.int k0), .val (.long (((((k0.toUInt32 >>> ((2 : Int32) &&& 31).toUInt32).toInt32) % (12 : Int32)) - (2 : Int32)).toInt64)), .second, .val (.int (k0 &&& (3 : Int32))), .val (.long (((((k0.toUInt32 >>> ((2 : Int32) &&& 31).toUInt32).toInt32) % (12 : Int32)) - (2 : Int32)).toInt64)), .second, .val (.ref w_STRING), .val (.ref w_STRING)] [(.int (lcmpW ((1 : Int32).toInt64) (((((k0.toUInt32 >>> ((2 : Int32) &&& 31).toUInt32).toInt32) % (12 : Int32)) - (2 : Int32)).toInt64)))])) _
          refine XS.ifYes X92.here hx rfl (pc0 := 88) (pc' := 93) rfl (hb hby at_88) rfl ((if0 _ _).trans (teq ((lw_eq ((1 : Int32).toInt64) (((((k0.toUInt32 >>> ((2 : Int32) &&& 31).toUInt32).toInt32) % (12 : Int32)) - (2 : Int32)).toInt64)).mpr (Eq.trans (by decide) ht1.symm))).1) (by decide) (by decide) ?_
          show Steps p.tables e below (T92.setTop (mkF m 93 #[.val (.long j0), .second, .val (.int k0), .val (.long (((((k0.toUInt32 >>> ((2 : Int32) &&& 31).toUInt32).toInt32) % (12 : Int32)) - (2 : Int32)).toInt64)), .second, .val (.int (k0 &&& (3 : Int32))), .val (.long (((((k0.toUInt32 >>> ((2 : Int32) &&& 31).toUInt32).toInt32) % (12 : Int32)) - (2 : Int32)).toInt64)), .second, .val (.ref w_STRING), .val (.ref w_STRING)] [])) _
          refine XS.iconst X92.here hx rfl (hb hby at_93) ?_
          show Steps p.tables e below (T92.setTop (mkF m 94 #[.val (.long j0), .second, .val (.int k0), .val (.long (((((k0.toUInt32 >>> ((2 : Int32) &&& 31).toUInt32).toInt32) % (12 : Int32)) - (2 : Int32)).toInt64)), .second, .val (.int (k0 &&& (3 : Int32))), .val (.long (((((k0.toUInt32 >>> ((2 : Int32) &&& 31).toUInt32).toInt32) % (12 : Int32)) - (2 : Int32)).toInt64)), .second, .val (.ref w_STRING), .val (.ref w_STRING)] [(.int (1 : Int32))])) _
          exact k_)
        obtain ⟨fs, hr, hrun, hended, hW, hsame⟩ := X92.leave (v := some (.int (1 : Int32))) (fun h => by rw [Bd.returns] at h; cases h)
        refine ⟨_, _, pre93 _ ?_, hrun, hended, _, _, rfl, ?_, ⟨_, rfl⟩, hW, hsame.mono (by decide) (by decide)⟩
        · show Steps p.tables e below (T92.setTop (mkF m 94 #[.val (.long j0), .second, .val (.int k0), .val (.long (((((k0.toUInt32 >>> ((2 : Int32) &&& 31).toUInt32).toInt32) % (12 : Int32)) - (2 : Int32)).toInt64)), .second, .val (.int (k0 &&& (3 : Int32))), .val (.long (((((k0.toUInt32 >>> ((2 : Int32) &&& 31).toUInt32).toInt32) % (12 : Int32)) - (2 : Int32)).toInt64)), .second, .val (.ref w_STRING), .val (.ref w_STRING)] [(.int (1 : Int32))])) _
          exact retN X92 hx (t := .boolean) Bd.returns (by simp) (hb hby at_94) hr
        · show Q_0 Z j0 k0 w_STRING w_HASHED_STRING w_CLASS w_INSTANCE w_ROOTS w_OBJECT_ARRAY w_PRIMITIVE_ARRAY w_LEGACY w_BY_TAG cl_BY_TAG h0 n0 _ T92.heap _
          rw [e92]
          exact ⟨rfl, N92⟩
      by_cases ht2 : (((((k0.toUInt32 >>> ((2 : Int32) &&& 31).toUInt32).toInt32) % (12 : Int32)) - (2 : Int32)).toInt64) = (2 : Int64)
      · have hq : (own_of (((((k0.toUInt32 >>> ((2 : Int32) &&& 31).toUInt32).toInt32) % (12 : Int32)) - (2 : Int32)).toInt64) w_STRING w_HASHED_STRING w_CLASS w_INSTANCE w_ROOTS w_OBJECT_ARRAY w_PRIMITIVE_ARRAY w_LEGACY) = .ref w_HASHED_STRING := by rw [own_of, if_neg ht1, if_pos ht2]
        rw [hq] at pre91
        obtain ⟨cq94, kq94, q94a, q94b, q94c⟩ := isOf hZ e90 E_HASHED_STRING
        obtain ⟨v94, _, ⟨T94, L94, k94, n94⟩, -, X94, ⟨Lc94, hQ94, l94, y94, z94⟩, st94⟩ := X90.virtualBack hx (y := (⟨"com/example/heapscribe/heapscribe/Bmd$RecordKind", "tag", "()I"⟩ : MethodName)) (z := (⟨"com/example/heapscribe/heapscribe/Bmd$RecordKind", "tag", "()I"⟩ : MethodName)) hown (mvT hZ (hw _ (List.mem_of_getElem? (i := 14) rfl))) (mvT hZ (hw _ (List.mem_of_getElem? (i := 15) rfl))) (notFace_of_selects (args := #[]) (mvT hZ (hw _ (List.mem_of_getElem? (i := 17) rfl)))) (mvT hZ (hw _ (List.mem_of_getElem? (i := 17) rfl))) (mvT hZ (hw _ (List.mem_of_getElem? (i := 16) rfl))) (by decide) (backOf (W := 0) (rm_3 l Z a0 hw [] w_HASHED_STRING (2 : Int32) h0 n0 Z0 F_HASHED_STRING_tag) hZ (hw _ (List.mem_of_getElem? (i := 18) rfl)) (hw _ (List.mem_of_getElem? (i := 2) rfl)) (by decide) (by decide)) q94a q94c (g := (mkF m 81 #[.val (.long j0), .second, .val (.int k0), .val (.long (((((k0.toUInt32 >>> ((2 : Int32) &&& 31).toUInt32).toInt32) % (12 : Int32)) - (2 : Int32)).toInt64)), .second, .val (.int (k0 &&& (3 : Int32))), .val (.long (((((k0.toUInt32 >>> ((2 : Int32) &&& 31).toUInt32).toInt32) % (12 : Int32)) - (2 : Int32)).toInt64)), .second, .val (.ref w_HASHED_STRING), .val (.ref w_HASHED_STRING)] [(.ref w_HASHED_STRING)])) rfl (by rw [hml]; rfl) (Steps.refl _) (argsL := []) (rest := []) (lenOf pd_1 rfl) rfl (by show 2 * 0 + _ ≤ _; exact Nat.le_of_eq rfl) (hb hby at_81) (fun _ _ => ⟨rfl, e90, (by decide : 0 + 0 ≤ _), (by decide : 0 + 0 ≤ _)⟩)
        dsimp only [Pt.U, Pt.locs, Pt.cells, Pt.slots] at X94 l94 y94 z94 st94 hQ94
        subst l94 y94 z94
        obtain ⟨hv94, N94q, e94⟩ := hQ94
        have N94 := Fr.app N90 N94q
        subst hv94
        have pre95 : ∀ t_, Steps p.tables e below (T94.setTop (mkF m 94 #[.val (.long j0), .second, .val (.int k0), .val (.long (((((k0.toUInt32 >>> ((2 : Int32) &&& 31).toUInt32).toInt32) % (12 : Int32)) - (2 : Int32)).toInt64)), .second, .val (.int (k0 &&& (3 : Int32))), .val (.long (((((k0.toUInt32 >>> ((2 : Int32) &&& 31).toUInt32).toInt32) % (12 : Int32)) - (2 : Int32)).toInt64)), .second, .val (.ref w_HASHED_STRING), .val (.ref w_HASHED_STRING)] [(.int (1 : Int32))])) t_ → Steps p.tables e below (s₁.setTop (entryFrame m #[(.long j0), (.int k0)] maxLocals)) t_ := fun t_ k_ => pre91 t_ (by
          show Steps p.tables e below (T90.setTop (mkF m 74 #[.val (.long j0), .second, .val (.int k0), .val (.long (((((k0.toUInt32 >>> ((2 : Int32) &&& 31).toUInt32).toInt32) % (12 : Int32)) - (2 : Int32)).toInt64)), .second, .val (.int (k0 &&& (3 : Int32))), .val (.long (((((k0.toUInt32 >>> ((2 : Int32) &&& 31).toUInt32).toInt32) % (12 : Int32)) - (2 : Int32)).toInt64)), .second, .val (.ref w_HASHED_STRING), .val (.ref w_HASHED_STRING)] [])) _
          refine XS.aload X90.here hx rfl (hb hby at_74) rfl rfl ?_
          show Steps p.tables e below (T90.setTop (mkF m 76 #[.val (.long j0), .second, .val (.int k0), .val (.long (((((k0.toUInt32 >>> ((2 : Int32) &&& 31).toUInt32).toInt32) % (12 : Int32)) - (2 : Int32)).toInt64)), .second, .val (.int (k0 &&& (3 : Int32))), .val (.long (((((k0.toUInt32 >>> ((2 : Int32) &&& 31).toUInt32).toInt32) % (12 : Int32)) - (2 : Int32)).toInt64)), .second, .val (.ref w_HASHED_STRING), .val (.ref w_HASHED_STRING)] [(.ref w_HASHED_STRING)])) _
          refine XS.ifnullNo X90.here hx rfl (hb hby at_76) rfl ?_
          show Steps p.tables e below (T90.setTop (mkF m 79 #[.val (.long j0), .second, .val (.int k0), .val (.long (((((k0.toUInt32 >>> ((2 : Int32) &&& 31).toUInt32).toInt32) % (12 : Int32)) - (2 : Int32)).toInt64)), .second, .val (.int (k0 &&& (3 : Int32))), .val (.long (((((k0.toUInt32 >>> ((2 : Int32) &&& 31).toUInt32).toInt32) % (12 : Int32)) - (2 : Int32)).toInt64)), .second, .val (.ref w_HASHED_STRING), .val (.ref w_HASHED_STRING)] [])) _
          refine XS.aload X90.here hx rfl (hb hby at_79) rfl rfl ?_
          show Steps p.tables e below (T90.setTop (mkF m 81 #[.val (.long j0), .second, .val (.int k0), .val (.long (((((k0.toUInt32 >>> ((2 : Int32) &&& 31).toUInt32).toInt32) % (12 : Int32)) - (2 : Int32)).toInt64)), .second, .val (.int (k0 &&& (3 : Int32))), .val (.long (((((k0.toUInt32 >>> ((2 : Int32) &&& 31).toUInt32).toInt32) % (12 : Int32)) - (2 : Int32)).toInt64)), .second, .val (.ref w_HASHED_STRING), .val (.ref w_HASHED_STRING)] [(.ref w_HASHED_STRING)])) _
          refine st94.trans ?_
          show Steps p.tables e below (T94.setTop (mkF m 84 #[.val (.long j0), .second, .val (.int k0), .val (.long (((((k0.toUInt32 >>> ((2 : Int32) &&& 31).toUInt32).toInt32) % (12 : Int32)) - (2 : Int32)).toInt64)), .second, .val (.int (k0 &&& (3 : Int32))), .val (.long (((((k0.toUInt32 >>> ((2 : Int32) &&& 31).toUInt32).toInt32) % (12 : Int32)) - (2 : Int32)).toInt64)), .second, .val (.ref w_HASHED_STRING), .val (.ref w_HASHED_STRING)] [(.int (2 : Int32))])) _
          refine XS.i2l X94.here hx rfl (hb hby at_84) rfl ?_
          show Steps p.tables e below (T94.setTop (mkF m 85 #[.val (.long j0), .second, .val (.int k0), .val (.long (((((k0.toUInt32 >>> ((2 : Int32) &&& 31).toUInt32).toInt32) % (12 : Int32)) - (2 : Int32)).toInt64)), .second, .val (.int (k0 &&& (3 : Int32))), .val (.long (((((k0.toUInt32 >>> ((2 : Int32) &&& 31).toUInt32).toInt32) % (12 : Int32)) - (2 : Int32)).toInt64)), .second, .val (.ref w_HASHED_STRING), .val (.ref w_HASHED_STRING)] [(.long ((2 : Int32).toInt64))])) _
          refine XS.lload X94.here hx rfl (hb hby at_85) rfl ?_
          show Steps p.tables e below (T94.setTop (mkF m 87 #[.val (.long j0), .second, .val (.int k0), .val (.long (((((k0.toUInt32 >>> ((2 : Int32) &&& 31).toUInt32).toInt32) % (12 : Int32)) - (2 : Int32)).toInt64)), .second, .val (.int (k0 &&& (3 : Int32))), .val (.long (((((k0.toUInt32 >>> ((2 : Int32) &&& 31).toUInt32).toInt32) % (12 : Int32)) - (2 : Int32)).toInt64)), .second, .val (.ref w_HASHED_STRING), .val (.ref w_HASHED_STRING)] [(.long (((((k0.toUInt32 >>> ((2 : Int32) &&& 31).toUInt32).toInt32) % (12 : Int32)) - (2 : Int32)).toInt64)), (.long ((2 : Int32).toInt64))])) _
          refine XS.lcmp X94.here hx rfl (hb hby at_87) rfl ?_
          show Steps p.tables e below (T94.setTop (mkF m 88 #[.val (.long j0), .second, .val (.int k0), .val (.long (((((k0.toUInt32 >>> ((2 : Int32) &&& 31).toUInt32).toInt32) % (12 : Int32)) - (2 : Int32)).toInt64)), .second, .val (.int (k0 &&& (3 : Int32))), .val (.long (((((k0.toUInt32 >>> ((2 : Int32) &&& 31).toUInt32).toInt32) % (12 : Int32)) - (2 : Int32)).toInt64)), .second, .val (.ref w_HASHED_STRING), .val (.ref w_HASHED_STRING)] [(.int (lcmpW ((2 : Int32).toInt64) (((((k0.toUInt32 >>> ((2 : Int32) &&& 31).toUInt32).toInt32) % (12 : Int32)) - (2 : Int32)).toInt64)))])) _
          refine XS.ifYes X94.here hx rfl (pc0 := 88) (pc' := 93) rfl (hb hby at_88) rfl ((if0 _ _).trans (teq ((lw_eq ((2 : Int32).toInt64) (((((k0.toUInt32 >>> ((2 : Int32) &&& 31).toUInt32).toInt32) % (12 : Int32)) - (2 : Int32)).toInt64)).mpr (Eq.trans (by decide) ht2.symm))).1) (by decide) (by decide) ?_
          show Steps p.tables e below (T94.setTop (mkF m 93 #[.val (.long j0), .second, .val (.int k0), .val (.long (((((k0.toUInt32 >>> ((2 : Int32) &&& 31).toUInt32).toInt32) % (12 : Int32)) - (2 : Int32)).toInt64)), .second, .val (.int (k0 &&& (3 : Int32))), .val (.long (((((k0.toUInt32 >>> ((2 : Int32) &&& 31).toUInt32).toInt32) % (12 : Int32)) - (2 : Int32)).toInt64)), .second, .val (.ref w_HASHED_STRING), .val (.ref w_HASHED_STRING)] [])) _
          refine XS.iconst X94.here hx rfl (hb hby at_93) ?_
          show Steps p.tables e below (T94.setTop (mkF m 94 #[.val (.long j0), .second, .val (.int k0), .val (.long (((((k0.toUInt32 >>> ((2 : Int32) &&& 31).toUInt32).toInt32) % (12 : Int32)) - (2 : Int32)).toInt64)), .second, .val (.int (k0 &&& (3 : Int32))), .val (.long (((((k0.toUInt32 >>> ((2 : Int32) &&& 31).toUInt32).toInt32) % (12 : Int32)) - (2 : Int32)).toInt64)), .second, .val (.ref w_HASHED_STRING), .val (.ref w_HASHED_STRING)] [(.int (1 : Int32))])) _
          exact k_)
        obtain ⟨fs, hr, hrun, hended, hW, hsame⟩ := X94.leave (v := some (.int (1 : Int32))) (fun h => by rw [Bd.returns] at h; cases h)
        refine ⟨_, _, pre95 _ ?_, hrun, hended, _, _, rfl, ?_, ⟨_, rfl⟩, hW, hsame.mono (by decide) (by decide)⟩
        · show Steps p.tables e below (T94.setTop (mkF m 94 #[.val (.long j0), .second, .val (.int k0), .val (.long (((((k0.toUInt32 >>> ((2 : Int32) &&& 31).toUInt32).toInt32) % (12 : Int32)) - (2 : Int32)).toInt64)), .second, .val (.int (k0 &&& (3 : Int32))), .val (.long (((((k0.toUInt32 >>> ((2 : Int32) &&& 31).toUInt32).toInt32) % (12 : Int32)) - (2 : Int32)).toInt64)), .second, .val (.ref w_HASHED_STRING), .val (.ref w_HASHED_STRING)] [(.int (1 : Int32))])) _
          exact retN X94 hx (t := .boolean) Bd.returns (by simp) (hb hby at_94) hr
        · show Q_0 Z j0 k0 w_STRING w_HASHED_STRING w_CLASS w_INSTANCE w_ROOTS w_OBJECT_ARRAY w_PRIMITIVE_ARRAY w_LEGACY w_BY_TAG cl_BY_TAG h0 n0 _ T94.heap _
          rw [e94]
          exact ⟨rfl, N94⟩
      by_cases ht3 : (((((k0.toUInt32 >>> ((2 : Int32) &&& 31).toUInt32).toInt32) % (12 : Int32)) - (2 : Int32)).toInt64) = (3 : Int64)
      · have hq : (own_of (((((k0.toUInt32 >>> ((2 : Int32) &&& 31).toUInt32).toInt32) % (12 : Int32)) - (2 : Int32)).toInt64) w_STRING w_HASHED_STRING w_CLASS w_INSTANCE w_ROOTS w_OBJECT_ARRAY w_PRIMITIVE_ARRAY w_LEGACY) = .ref w_CLASS := by rw [own_of, if_neg ht1, if_neg ht2, if_pos ht3]
        rw [hq] at pre91
        obtain ⟨cq96, kq96, q96a, q96b, q96c⟩ := isOf hZ e90 E_CLASS
        obtain ⟨v96, _, ⟨T96, L96, k96, n96⟩, -, X96, ⟨Lc96, hQ96, l96, y96, z96⟩, st96⟩ := X90.virtualBack hx (y := (⟨"com/example/heapscribe/heapscribe/Bmd$RecordKind", "tag", "()I"⟩ : MethodName)) (z := (⟨"com/example/heapscribe/heapscribe/Bmd$RecordKind", "tag", "()I"⟩ : MethodName)) hown (mvT hZ (hw _ (List.mem_of_getElem? (i := 14) rfl))) (mvT hZ (hw _ (List.mem_of_getElem? (i := 15) rfl))) (notFace_of_selects (args := #[]) (mvT hZ (hw _ (List.mem_of_getElem? (i := 17) rfl)))) (mvT hZ (hw _ (List.mem_of_getElem? (i := 17) rfl))) (mvT hZ (hw _ (List.mem_of_getElem? (i := 16) rfl))) (by decide) (backOf (W := 0) (rm_3 l Z a0 hw [] w_CLASS (3 : Int32) h0 n0 Z0 F_CLASS_tag) hZ (hw _ (List.mem_of_getElem? (i := 18) rfl)) (hw _ (List.mem_of_getElem? (i := 2) rfl)) (by decide) (by decide)) q96a q96c (g := (mkF m 81 #[.val (.long j0), .second, .val (.int k0), .val (.long (((((k0.toUInt32 >>> ((2 : Int32) &&& 31).toUInt32).toInt32) % (12 : Int32)) - (2 : Int32)).toInt64)), .second, .val (.int (k0 &&& (3 : Int32))), .val (.long (((((k0.toUInt32 >>> ((2 : Int32) &&& 31).toUInt32).toInt32) % (12 : Int32)) - (2 : Int32)).toInt64)), .second, .val (.ref w_CLASS), .val (.ref w_CLASS)] [(.ref w_CLASS)])) rfl (by rw [hml]; rfl) (Steps.refl _) (argsL := []) (rest := []) (lenOf pd_1 rfl) rfl (by show 2 * 0 + _ ≤ _; exact Nat.le_of_eq rfl) (hb hby at_81) (fun _ _ => ⟨rfl, e90, (by decide : 0 + 0 ≤ _), (by decide : 0 + 0 ≤ _)⟩)
        dsimp only [Pt.U, Pt.locs, Pt.cells, Pt.slots] at X96 l96 y96 z96 st96 hQ96
        subst l96 y96 z96
        obtain ⟨hv96, N96q, e96⟩ := hQ96
        have N96 := Fr.app N90 N96q
        subst hv96
        have pre97 : ∀ t_, Steps p.tables e below (T96.setTop (mkF m 94 #[.val (.long j0), .second, .val (.int k0), .val (.long (((((k0.toUInt32 >>> ((2 : Int32) &&& 31).toUInt32).toInt32) % (12 : Int32)) - (2 : Int32)).toInt64)), .second, .val (.int (k0 &&& (3 : Int32))), .val (.long (((((k0.toUInt32 >>> ((2 : Int32) &&& 31).toUInt32).toInt32) % (12 : Int32)) - (2 : Int32)).toInt64)), .second, .val (.ref w_CLASS), .val (.ref w_CLASS)] [(.int (1 : Int32))])) t_ → Steps p.tables e below (s₁.setTop (entryFrame m #[(.long j0), (.int k0)] maxLocals)) t_ := fun t_ k_ => pre91 t_ (by
          show Steps p.tables e below (T90.setTop (mkF m 74 #[.val (.long j0), .second, .val (.int k0), .val (.long (((((k0.toUInt32 >>> ((2 : Int32) &&& 31).toUInt32).toInt32) % (12 : Int32)) - (2 : Int32)).toInt64)), .second, .val (.int (k0 &&& (3 : Int32))), .val (.long (((((k0.toUInt32 >>> ((2 : Int32) &&& 31).toUInt32).toInt32) % (12 : Int32)) - (2 : Int32)).toInt64)), .second, .val (.ref w_CLASS), .val (.ref w_CLASS)] [])) _
          refine XS.aload X90.here hx rfl (hb hby at_74) rfl rfl ?_
          show Steps p.tables e below (T90.setTop (mkF m 76 #[.val (.long j0), .second, .val (.int k0), .val (.long (((((k0.toUInt32 >>> ((2 : Int32) &&& 31).toUInt32).toInt32) % (12 : Int32)) - (2 : Int32)).toInt64)), .second, .val (.int (k0 &&& (3 : Int32))), .val (.long (((((k0.toUInt32 >>> ((2 : Int32) &&& 31).toUInt32).toInt32) % (12 : Int32)) - (2 : Int32)).toInt64)), .second, .val (.ref w_CLASS), .val (.ref w_CLASS)] [(.ref w_CLASS)])) _
          refine XS.ifnullNo X90.here hx rfl (hb hby at_76) rfl ?_
          show Steps p.tables e below (T90.setTop (mkF m 79 #[.val (.long j0), .second, .val (.int k0), .val (.long (((((k0.toUInt32 >>> ((2 : Int32) &&& 31).toUInt32).toInt32) % (12 : Int32)) - (2 : Int32)).toInt64)), .second, .val (.int (k0 &&& (3 : Int32))), .val (.long (((((k0.toUInt32 >>> ((2 : Int32) &&& 31).toUInt32).toInt32) % (12 : Int32)) - (2 : Int32)).toInt64)), .second, .val (.ref w_CLASS), .val (.ref w_CLASS)] [])) _
          refine XS.aload X90.here hx rfl (hb hby at_79) rfl rfl ?_
          show Steps p.tables e below (T90.setTop (mkF m 81 #[.val (.long j0), .second, .val (.int k0), .val (.long (((((k0.toUInt32 >>> ((2 : Int32) &&& 31).toUInt32).toInt32) % (12 : Int32)) - (2 : Int32)).toInt64)), .second, .val (.int (k0 &&& (3 : Int32))), .val (.long (((((k0.toUInt32 >>> ((2 : Int32) &&& 31).toUInt32).toInt32) % (12 : Int32)) - (2 : Int32)).toInt64)), .second, .val (.ref w_CLASS), .val (.ref w_CLASS)] [(.ref w_CLASS)])) _
          refine st96.trans ?_
          show Steps p.tables e below (T96.setTop (mkF m 84 #[.val (.long j0), .second, .val (.int k0), .val (.long (((((k0.toUInt32 >>> ((2 : Int32) &&& 31).toUInt32).toInt32) % (12 : Int32)) - (2 : Int32)).toInt64)), .second, .val (.int (k0 &&& (3 : Int32))), .val (.long (((((k0.toUInt32 >>> ((2 : Int32) &&& 31).toUInt32).toInt32) % (12 : Int32)) - (2 : Int32)).toInt64)), .second, .val (.ref w_CLASS), .val (.ref w_CLASS)] [(.int (3 : Int32))])) _
          refine XS.i2l X96.here hx rfl (hb hby at_84) rfl ?_
          show Steps p.tables e below (T96.setTop (mkF m 85 #[.val (.long j0), .second, .val (.int k0), .val (.long (((((k0.toUInt32 >>> ((2 : Int32) &&& 31).toUInt32).toInt32) % (12 : Int32)) - (2 : Int32)).toInt64)), .second, .val (.int (k0 &&& (3 : Int32))), .val (.long (((((k0.toUInt32 >>> ((2 : Int32) &&& 31).toUInt32).toInt32) % (12 : Int32)) - (2 : Int32)).toInt64)), .second, .val (.ref w_CLASS), .val (.ref w_CLASS)] [(.long ((3 : Int32).toInt64))])) _
          refine XS.lload X96.here hx rfl (hb hby at_85) rfl ?_
          show Steps p.tables e below (T96.setTop (mkF m 87 #[.val (.long j0), .second, .val (.int k0), .val (.long (((((k0.toUInt32 >>> ((2 : Int32) &&& 31).toUInt32).toInt32) % (12 : Int32)) - (2 : Int32)).toInt64)), .second, .val (.int (k0 &&& (3 : Int32))), .val (.long (((((k0.toUInt32 >>> ((2 : Int32) &&& 31).toUInt32).toInt32) % (12 : Int32)) - (2 : Int32)).toInt64)), .second, .val (.ref w_CLASS), .val (.ref w_CLASS)] [(.long (((((k0.toUInt32 >>> ((2 : Int32) &&& 31).toUInt32).toInt32) % (12 : Int32)) - (2 : Int32)).toInt64)), (.long ((3 : Int32).toInt64))])) _
          refine XS.lcmp X96.here hx rfl (hb hby at_87) rfl ?_
          show Steps p.tables e below (T96.setTop (mkF m 88 #[.val (.long j0), .second, .val (.int k0), .val (.long (((((k0.toUInt32 >>> ((2 : Int32) &&& 31).toUInt32).toInt32) % (12 : Int32)) - (2 : Int32)).toInt64)), .second, .val (.int (k0 &&& (3 : Int32))), .val (.long (((((k0.toUInt32 >>> ((2 : Int32) &&& 31).toUInt32).toInt32) % (12 : Int32)) - (2 : Int32)).toInt64)), .second, .val (.ref w_CLASS), .val (.ref w_CLASS)] [(.int (lcmpW ((3 : Int32).toInt64) (((((k0.toUInt32 >>> ((2 : Int32) &&& 31).toUInt32).toInt32) % (12 : Int32)) - (2 : Int32)).toInt64)))])) _
          refine XS.ifYes X96.here hx rfl (pc0 := 88) (pc' := 93) rfl (hb hby at_88) rfl ((if0 _ _).trans (teq ((lw_eq ((3 : Int32).toInt64) (((((k0.toUInt32 >>> ((2 : Int32) &&& 31).toUInt32).toInt32) % (12 : Int32)) - (2 : Int32)).toInt64)).mpr (Eq.trans (by decide) ht3.symm))).1) (by decide) (by decide) ?_
          show Steps p.tables e below (T96.setTop (mkF m 93 #[.val (.long j0), .second, .val (.int k0), .val (.long (((((k0.toUInt32 >>> ((2 : Int32) &&& 31).toUInt32).toInt32) % (12 : Int32)) - (2 : Int32)).toInt64)), .second, .val (.int (k0 &&& (3 : Int32))), .val (.long (((((k0.toUInt32 >>> ((2 : Int32) &&& 31).toUInt32).toInt32) % (12 : Int32)) - (2 : Int32)).toInt64)), .second, .val (.ref w_CLASS), .val (.ref w_CLASS)] [])) _
          refine XS.iconst X96.here hx rfl (hb hby at_93) ?_
          show Steps p.tables e below (T96.setTop (mkF m 94 #[.val (.long j0), .second, .val (.int k0), .val (.long (((((k0.toUInt32 >>> ((2 : Int32) &&& 31).toUInt32).toInt32) % (12 : Int32)) - (2 : Int32)).toInt64)), .second, .val (.int (k0 &&& (3 : Int32))), .val (.long (((((k0.toUInt32 >>> ((2 : Int32) &&& 31).toUInt32).toInt32) % (12 : Int32)) - (2 : Int32)).toInt64)), .second, .val (.ref w_CLASS), .val (.ref w_CLASS)] [(.int (1 : Int32))])) _
          exact k_)
        obtain ⟨fs, hr, hrun, hended, hW, hsame⟩ := X96.leave (v := some (.int (1 : Int32))) (fun h => by rw [Bd.returns] at h; cases h)
        refine ⟨_, _, pre97 _ ?_, hrun, hended, _, _, rfl, ?_, ⟨_, rfl⟩, hW, hsame.mono (by decide) (by decide)⟩
        · show Steps p.tables e below (T96.setTop (mkF m 94 #[.val (.long j0), .second, .val (.int k0), .val (.long (((((k0.toUInt32 >>> ((2 : Int32) &&& 31).toUInt32).toInt32) % (12 : Int32)) - (2 : Int32)).toInt64)), .second, .val (.int (k0 &&& (3 : Int32))), .val (.long (((((k0.toUInt32 >>> ((2 : Int32) &&& 31).toUInt32).toInt32) % (12 : Int32)) - (2 : Int32)).toInt64)), .second, .val (.ref w_CLASS), .val (.ref w_CLASS)] [(.int (1 : Int32))])) _
          exact retN X96 hx (t := .boolean) Bd.returns (by simp) (hb hby at_94) hr
        · show Q_0 Z j0 k0 w_STRING w_HASHED_STRING w_CLASS w_INSTANCE w_ROOTS w_OBJECT_ARRAY w_PRIMITIVE_ARRAY w_LEGACY w_BY_TAG cl_BY_TAG h0 n0 _ T96.heap _
          rw [e96]
          exact ⟨rfl, N96⟩
      by_cases ht4 : (((((k0.toUInt32 >>> ((2 : Int32) &&& 31).toUInt32).toInt32) % (12 : Int32)) - (2 : Int32)).toInt64) = (4 : Int64)
      · have hq : (own_of (((((k0.toUInt32 >>> ((2 : Int32) &&& 31).toUInt32).toInt32) % (12 : Int32)) - (2 : Int32)).toInt64) w_STRING w_HASHED_STRING w_CLASS w_INSTANCE w_ROOTS w_OBJECT_ARRAY w_PRIMITIVE_ARRAY w_LEGACY) = .ref w_INSTANCE := by rw [own_of, if_neg ht1, if_neg ht2, if_neg ht3, if_pos ht4]
        rw [hq] at pre91
        obtain ⟨cq98, kq98, q98a, q98b, q98c⟩ := isOf hZ e90 E_INSTANCE
        obtain ⟨v98, _, ⟨T98, L98, k98, n98⟩, -, X98, ⟨Lc98, hQ98, l98, y98, z98⟩, st98⟩ := X90.virtualBack hx (y := (⟨"com/example/heapscribe/heapscribe/Bmd$RecordKind", "tag", "()I"⟩ : MethodName)) (z := (⟨"com/example/heapscribe/heapscribe/Bmd$RecordKind", "tag", "()I"⟩ : MethodName)) hown (mvT hZ (hw _ (List.mem_of_getElem? (i := 14) rfl))) (mvT hZ (hw _ (List.mem_of_getElem? (i := 15) rfl))) (notFace_of_selects (args := #[]) (mvT hZ (hw _ (List.mem_of_getElem? (i := 17) rfl)))) (mvT hZ (hw _ (List.mem_of_getElem? (i := 17) rfl))) (mvT hZ (hw _ (List.mem_of_getElem? (i := 16) rfl))) (by decide) (backOf (W := 0) (rm_3 l Z a0 hw [] w_INSTANCE (4 : Int32) h0 n0 Z0 F_INSTANCE_tag) hZ (hw _ (List.mem_of_getElem? (i := 18) rfl)) (hw _ (List.mem_of_getElem? (i := 2) rfl)) (by decide) (by decide)) q98a q98c (g := (mkF m 81 #[.val (.long j0), .second, .val (.int k0), .val (.long (((((k0.toUInt32 >>> ((2 : Int32) &&& 31).toUInt32).toInt32) % (12 : Int32)) - (2 : Int32)).toInt64)), .second, .val (.int (k0 &&& (3 : Int32))), .val (.long (((((k0.toUInt32 >>> ((2 : Int32) &&& 31).toUInt32).toInt32) % (12 : Int32)) - (2 : Int32)).toInt64)), .second, .val (.ref w_INSTANCE), .val (.ref w_INSTANCE)] [(.ref w_INSTANCE)])) rfl (by rw [hml]; rfl) (Steps.refl _) (argsL := []) (rest := []) (lenOf pd_1 rfl) rfl (by show 2 * 0 + _ ≤ _; exact Nat.le_of_eq rfl) (hb hby at_81) (fun _ _ => ⟨rfl, e90, (by decide : 0 + 0 ≤ _), (by decide : 0 + 0 ≤ _)⟩)
        dsimp only [Pt.U, Pt.locs, Pt.cells, Pt.slots] at X98 l98 y98 z98 st98 hQ98
        subst l98 y98 z98
        obtain ⟨hv98, N98q, e98⟩ := hQ98
        have N98 := Fr.app N90 N98q
        subst hv98
        have pre99 : ∀ t_, Steps p.tables e below (T98.setTop (mkF m 94 #[.val (.long j0), .second, .val (.int k0), .val (.long (((((k0.toUInt32 >>> ((2 : Int32) &&& 31).toUInt32).toInt32) % (12 : Int32)) - (2 : Int32)).toInt64)), .second, .val (.int (k0 &&& (3 : Int32))), .val (.long (((((k0.toUInt32 >>> ((2 : Int32) &&& 31).toUInt32).toInt32) % (12 : Int32)) - (2 : Int32)).toInt64)), .second, .val (.ref w_INSTANCE), .val (.ref w_INSTANCE)] [(.int (1 : Int32))])) t_ → Steps p.tables e below (s₁.setTop (entryFrame m #[(.long j0), (.int k0)] maxLocals)) t_ := fun t_ k_ => pre91 t_ (by
          show Steps p.tables e below (T90.setTop (mkF m 74 #[.val (.long j0), .second, .val (.int k0), .val (.long (((((k0.toUInt32 >>> ((2 : Int32) &&& 31).toUInt32).toInt32) % (12 : Int32)) - (2 : Int32)).toInt64)), .second, .val (.int (k0 &&& (3 : Int32))), .val (.long (((((k0.toUInt32 >>> ((2 : Int32) &&& 31).toUInt32).toInt32) % (12 : Int32)) - (2 : Int32)).toInt64)), .second, .val (.ref w_INSTANCE), .val (.ref w_INSTANCE)] [])) _
          refine XS.aload X90.here hx rfl (hb hby at_74) rfl rfl ?_
          show Steps p.tables e below (T90.setTop (mkF m 76 #[.val (.long j0), .second, .val (.int k0), .val (.long (((((k0.toUInt32 >>> ((2 : Int32) &&& 31).toUInt32).toInt32) % (12 : Int32)) - (2 : Int32)).toInt64)), .second, .val (.int (k0 &&& (3 : Int32))), .val (.long (((((k0.toUInt32 >>> ((2 : Int32) &&& 31).toUInt32).toInt32) % (12 : Int32)) - (2 : Int32)).toInt64)), .second, .val (.ref w_INSTANCE), .val (.ref w_INSTANCE)] [(.ref w_INSTANCE)])) _
          refine XS.ifnullNo X90.here hx rfl (hb hby at_76) rfl ?_
          show Steps p.tables e below (T90.setTop (mkF m 79 #[.val (.long j0), .second, .val (.int k0), .val (.long (((((k0.toUInt32 >>> ((2 : Int32) &&& 31).toUInt32).toInt32) % (12 : Int32)) - (2 : Int32)).toInt64)), .second, .val (.int (k0 &&& (3 : Int32))), .val (.long (((((k0.toUInt32 >>> ((2 : Int32) &&& 31).toUInt32).toInt32) % (12 : Int32)) - (2 : Int32)).toInt64)), .second, .val (.ref w_INSTANCE), .val (.ref w_INSTANCE)] [])) _
          refine XS.aload X90.here hx rfl (hb hby at_79) rfl rfl ?_
          show Steps p.tables e below (T90.setTop (mkF m 81 #[.val (.long j0), .second, .val (.int k0), .val (.long (((((k0.toUInt32 >>> ((2 : Int32) &&& 31).toUInt32).toInt32) % (12 : Int32)) - (2 : Int32)).toInt64)), .second, .val (.int (k0 &&& (3 : Int32))), .val (.long (((((k0.toUInt32 >>> ((2 : Int32) &&& 31).toUInt32).toInt32) % (12 : Int32)) - (2 : Int32)).toInt64)), .second, .val (.ref w_INSTANCE), .val (.ref w_INSTANCE)] [(.ref w_INSTANCE)])) _
          refine st98.trans ?_
          show Steps p.tables e below (T98.setTop (mkF m 84 #[.val (.long j0), .second, .val (.int k0), .val (.long (((((k0.toUInt32 >>> ((2 : Int32) &&& 31).toUInt32).toInt32) % (12 : Int32)) - (2 : Int32)).toInt64)), .second, .val (.int (k0 &&& (3 : Int32))), .val (.long (((((k0.toUInt32 >>> ((2 : Int32) &&& 31).toUInt32).toInt32) % (12 : Int32)) - (2 : Int32)).toInt64)), .second, .val (.ref w_INSTANCE), .val (.ref w_INSTANCE)] [(.int (4 : Int32))])) _
          refine XS.i2l X98.here hx rfl (hb hby at_84) rfl ?_
          show Steps p.tables e below (T98.setTop (mkF m 85 #[.val (.long j0), .second, .val (.int k0), .val (.long (((((k0.toUInt32 >>> ((2 : Int32) &&& 31).toUInt32).toInt32) % (12 : Int32)) - (2 : Int32)).toInt64)), .second, .val (.int (k0 &&& (3 : Int32))), .val (.long (((((k0.toUInt32 >>> ((2 : Int32) &&& 31).toUInt32).toInt32) % (12 : Int32)) - (2 : Int32)).toInt64)), .second, .val (.ref w_INSTANCE), .val (.ref w_INSTANCE)] [(.long ((4 : Int32).toInt64))])) _
          refine XS.lload X98.here hx rfl (hb hby at_85) rfl ?_
          show Steps p.tables e below (T98.setTop (mkF m 87 #[.val (.long j0), .second, .val (.int k0), .val (.long (((((k0.toUInt32 >>> ((2 : Int32) &&& 31).toUInt32).toInt32) % (12 : Int32)) - (2 : Int32)).toInt64)), .second, .val (.int (k0 &&& (3 : Int32))), .val (.long (((((k0.toUInt32 >>> ((2 : Int32) &&& 31).toUInt32).toInt32) % (12 : Int32)) - (2 : Int32)).toInt64)), .second, .val (.ref w_INSTANCE), .val (.ref w_INSTANCE)] [(.long (((((k0.toUInt32 >>> ((2 : Int32) &&& 31).toUInt32).toInt32) % (12 : Int32)) - (2 : Int32)).toInt64)), (.long ((4 : Int32).toInt64))])) _
          refine XS.lcmp X98.here hx rfl (hb hby at_87) rfl ?_
          show Steps p.tables e below (T98.setTop (mkF m 88 #[.val (.long j0), .second, .val (.int k0), .val (.long (((((k0.toUInt32 >>> ((2 : Int32) &&& 31).toUInt32).toInt32) % (12 : Int32)) - (2 : Int32)).toInt64)), .second, .val (.int (k0 &&& (3 : Int32))), .val (.long (((((k0.toUInt32 >>> ((2 : Int32) &&& 31).toUInt32).toInt32) % (12 : Int32)) - (2 : Int32)).toInt64)), .second, .val (.ref w_INSTANCE), .val (.ref w_INSTANCE)] [(.int (lcmpW ((4 : Int32).toInt64) (((((k0.toUInt32 >>> ((2 : Int32) &&& 31).toUInt32).toInt32) % (12 : Int32)) - (2 : Int32)).toInt64)))])) _
          refine XS.ifYes X98.here hx rfl (pc0 := 88) (pc' := 93) rfl (hb hby at_88) rfl ((if0 _ _).trans (teq ((lw_eq ((4 : Int32).toInt64) (((((k0.toUInt32 >>> ((2 : Int32) &&& 31).toUInt32).toInt32) % (12 : Int32)) - (2 : Int32)).toInt64)).mpr (Eq.trans (by decide) ht4.symm))).1) (by decide) (by decide) ?_
          show Steps p.tables e below (T98.setTop (mkF m 93 #[.val (.long j0), .second, .val (.int k0), .val (.long (((((k0.toUInt32 >>> ((2 : Int32) &&& 31).toUInt32).toInt32) % (12 : Int32)) - (2 : Int32)).toInt64)), .second, .val (.int (k0 &&& (3 : Int32))), .val (.long (((((k0.toUInt32 >>> ((2 : Int32) &&& 31).toUInt32).toInt32) % (12 : Int32)) - (2 : Int32)).toInt64)), .second, .val (.ref w_INSTANCE), .val (.ref w_INSTANCE)] [])) _
          refine XS.iconst X98.here hx rfl (hb hby at_93) ?_
          show Steps p.tables e below (T98.setTop (mkF m 94 #[.val (.long j0), .second, .val (.int k0), .val (.long (((((k0.toUInt32 >>> ((2 : Int32) &&& 31).toUInt32).toInt32) % (12 : Int32)) - (2 : Int32)).toInt64)), .second, .val (.int (k0 &&& (3 : Int32))), .val (.long (((((k0.toUInt32 >>> ((2 : Int32) &&& 31).toUInt32).toInt32) % (12 : Int32)) - (2 : Int32)).toInt64)), .second, .val (.ref w_INSTANCE), .val (.ref w_INSTANCE)] [(.int (1 : Int32))])) _
          exact k_)
        obtain ⟨fs, hr, hrun, hended, hW, hsame⟩ := X98.leave (v := some (.int (1 : Int32))) (fun h => by rw [Bd.returns] at h; cases h)
        refine ⟨_, _, pre99 _ ?_, hrun, hended, _, _, rfl, ?_, ⟨_, rfl⟩, hW, hsame.mono (by decide) (by decide)⟩
        · show Steps p.tables e below (T98.setTop (mkF m 94 #[.val (.long j0), .second, .val (.int k0), .val (.long (((((k0.toUInt32 >>> ((2 : Int32) &&& 31).toUInt32).toInt32) % (12 : Int32)) - (2 : Int32)).toInt64)), .second, .val (.int (k0 &&& (3 : Int32))), .val (.long (((((k0.toUInt32 >>> ((2 : Int32) &&& 31).toUInt32).toInt32) % (12 : Int32)) - (2 : Int32)).toInt64)), .second, .val (.ref w_INSTANCE), .val (.ref w_INSTANCE)] [(.int (1 : Int32))])) _
          exact retN X98 hx (t := .boolean) Bd.returns (by simp) (hb hby at_94) hr
        · show Q_0 Z j0 k0 w_STRING w_HASHED_STRING w_CLASS w_INSTANCE w_ROOTS w_OBJECT_ARRAY w_PRIMITIVE_ARRAY w_LEGACY w_BY_TAG cl_BY_TAG h0 n0 _ T98.heap _
          rw [e98]
          exact ⟨rfl, N98⟩
      by_cases ht5 : (((((k0.toUInt32 >>> ((2 : Int32) &&& 31).toUInt32).toInt32) % (12 : Int32)) - (2 : Int32)).toInt64) = (5 : Int64)
      · have hq : (own_of (((((k0.toUInt32 >>> ((2 : Int32) &&& 31).toUInt32).toInt32) % (12 : Int32)) - (2 : Int32)).toInt64) w_STRING w_HASHED_STRING w_CLASS w_INSTANCE w_ROOTS w_OBJECT_ARRAY w_PRIMITIVE_ARRAY w_LEGACY) = .ref w_ROOTS := by rw [own_of, if_neg ht1, if_neg ht2, if_neg ht3, if_neg ht4, if_pos ht5]
        rw [hq] at pre91
        obtain ⟨cq100, kq100, q100a, q100b, q100c⟩ := isOf hZ e90 E_ROOTS
        obtain ⟨v100, _, ⟨T100, L100, k100, n100⟩, -, X100, ⟨Lc100, hQ100, l100, y100, z100⟩, st100⟩ := X90.virtualBack hx (y := (⟨"com/example/heapscribe/heapscribe/Bmd$RecordKind", "tag", "()I"⟩ : MethodName)) (z := (⟨"com/example/heapscribe/heapscribe/Bmd$RecordKind", "tag", "()I"⟩ : MethodName)) hown (mvT hZ (hw _ (List.mem_of_getElem? (i := 14) rfl))) (mvT hZ (hw _ (List.mem_of_getElem? (i := 15) rfl))) (notFace_of_selects (args := #[]) (mvT hZ (hw _ (List.mem_of_getElem? (i := 17) rfl)))) (mvT hZ (hw _ (List.mem_of_getElem? (i := 17) rfl))) (mvT hZ (hw _ (List.mem_of_getElem? (i := 16) rfl))) (by decide) (backOf (W := 0) (rm_3 l Z a0 hw [] w_ROOTS (5 : Int32) h0 n0 Z0 F_ROOTS_tag) hZ (hw _ (List.mem_of_getElem? (i := 18) rfl)) (hw _ (List.mem_of_getElem? (i := 2) rfl)) (by decide) (by decide)) q100a q100c (g := (mkF m 81 #[.val (.long j0), .second, .val (.int k0), .val (.long (((((k0.toUInt32 >>> ((2 : Int32) &&& 31).toUInt32).toInt32) % (12 : Int32)) - (2 : Int32)).toInt64)), .second, .val (.int (k0 &&& (3 : Int32))), .val (.long (((((k0.toUInt32 >>> ((2 : Int32) &&& 31).toUInt32).toInt32) % (12 : Int32)) - (2 : Int32)).toInt64)), .second, .val (.ref w_ROOTS), .val (.ref w_ROOTS)] [(.ref w_ROOTS)])) rfl (by rw [hml]; rfl) (Steps.refl _) (argsL := []) (rest := []) (lenOf pd_1 rfl) rfl (by show 2 * 0 + _ ≤ _; exact Nat.le_of_eq rfl) (hb hby at_81) (fun _ _ => ⟨rfl, e90, (by decide : 0 + 0 ≤ _), (by decide : 0 + 0 ≤ _)⟩)
        dsimp only [Pt.U, Pt.locs, Pt.cells, Pt.slots] at X100 l100 y100 z100 st100 hQ100
        subst l100 y100 z100
        obtain ⟨hv100, N100q, e100⟩ := hQ100
        have N100 := Fr.app N90 N100q
        subst hv100
        have pre101 : ∀ t_, Steps p.tables e below (T100.setTop (mkF m 94 #[.val (.long j0), .second, .val (.int k0), .val (.long (((((k0.toUInt32 >>> ((2 : Int32) &&& 31).toUInt32).toInt32) % (12 : Int32)) - (2 : Int32)).toInt64)), .second, .val (.int (k0 &&& (3 : Int32))), .val (.long (((((k0.toUInt32 >>> ((2 : Int32) &&& 31).toUInt32).toInt32) % (12 : Int32)) - (2 : Int32)).toInt64)), .second, .val (.ref w_ROOTS), .val (.ref w_ROOTS)] [(.int (1 : Int32))])) t_ → Steps p.tables e below (s₁.setTop (entryFrame m #[(.long j0), (.int k0)] maxLocals)) t_ := fun t_ k_ => pre91 t_ (by
          show Steps p.tables e below (T90.setTop (mkF m 74 #[.val (.long j0), .second, .val (.int k0), .val (.long (((((k0.toUInt32 >>> ((2 : Int32) &&& 31).toUInt32).toInt32) % (12 : Int32)) - (2 : Int32)).toInt64)), .second, .val (.int (k0 &&& (3 : Int32))), .val (.long (((((k0.toUInt32 >>> ((2 : Int32) &&& 31).toUInt32).toInt32) % (12 : Int32)) - (2 : Int32)).toInt64)), .second, .val (.ref w_ROOTS), .val (.ref w_ROOTS)] [])) _
          refine XS.aload X90.here hx rfl (hb hby at_74) rfl rfl ?_
          show Steps p.tables e below (T90.setTop (mkF m 76 #[.val (.long j0), .second, .val (.int k0), .val (.long (((((k0.toUInt32 >>> ((2 : Int32) &&& 31).toUInt32).toInt32) % (12 : Int32)) - (2 : Int32)).toInt64)), .second, .val (.int (k0 &&& (3 : Int32))), .val (.long (((((k0.toUInt32 >>> ((2 : Int32) &&& 31).toUInt32).toInt32) % (12 : Int32)) - (2 : Int32)).toInt64)), .second, .val (.ref w_ROOTS), .val (.ref w_ROOTS)] [(.ref w_ROOTS)])) _
          refine XS.ifnullNo X90.here hx rfl (hb hby at_76) rfl ?_
          show Steps p.tables e below (T90.setTop (mkF m 79 #[.val (.long j0), .second, .val (.int k0), .val (.long (((((k0.toUInt32 >>> ((2 : Int32) &&& 31).toUInt32).toInt32) % (12 : Int32)) - (2 : Int32)).toInt64)), .second, .val (.int (k0 &&& (3 : Int32))), .val (.long (((((k0.toUInt32 >>> ((2 : Int32) &&& 31).toUInt32).toInt32) % (12 : Int32)) - (2 : Int32)).toInt64)), .second, .val (.ref w_ROOTS), .val (.ref w_ROOTS)] [])) _
          refine XS.aload X90.here hx rfl (hb hby at_79) rfl rfl ?_
          show Steps p.tables e below (T90.setTop (mkF m 81 #[.val (.long j0), .second, .val (.int k0), .val (.long (((((k0.toUInt32 >>> ((2 : Int32) &&& 31).toUInt32).toInt32) % (12 : Int32)) - (2 : Int32)).toInt64)), .second, .val (.int (k0 &&& (3 : Int32))), .val (.long (((((k0.toUInt32 >>> ((2 : Int32) &&& 31).toUInt32).toInt32) % (12 : Int32)) - (2 : Int32)).toInt64)), .second, .val (.ref w_ROOTS), .val (.ref w_ROOTS)] [(.ref w_ROOTS)])) _
          refine st100.trans ?_
          show Steps p.tables e below (T100.setTop (mkF m 84 #[.val (.long j0), .second, .val (.int k0), .val (.long (((((k0.toUInt32 >>> ((2 : Int32) &&& 31).toUInt32).toInt32) % (12 : Int32)) - (2 : Int32)).toInt64)), .second, .val (.int (k0 &&& (3 : Int32))), .val (.long (((((k0.toUInt32 >>> ((2 : Int32) &&& 31).toUInt32).toInt32) % (12 : Int32)) - (2 : Int32)).toInt64)), .second, .val (.ref w_ROOTS), .val (.ref w_ROOTS)] [(.int (5 : Int32))])) _
          refine XS.i2l X100.here hx rfl (hb hby at_84) rfl ?_
          show Steps p.tables e below (T100.setTop (mkF m 85 #[.val (.long j0), .second, .val (.int k0), .val (.long (((((k0.toUInt32 >>> ((2 : Int32) &&& 31).toUInt32).toInt32) % (12 : Int32)) - (2 : Int32)).toInt64)), .second, .val (.int (k0 &&& (3 : Int32))), .val (.long (((((k0.toUInt32 >>> ((2 : Int32) &&& 31).toUInt32).toInt32) % (12 : Int32)) - (2 : Int32)).toInt64)), .second, .val (.ref w_ROOTS), .val (.ref w_ROOTS)] [(.long ((5 : Int32).toInt64))])) _
          refine XS.lload X100.here hx rfl (hb hby at_85) rfl ?_
          show Steps p.tables e below (T100.setTop (mkF m 87 #[.val (.long j0), .second, .val (.int k0), .val (.long (((((k0.toUInt32 >>> ((2 : Int32) &&& 31).toUInt32).toInt32) % (12 : Int32)) - (2 : Int32)).toInt64)), .second, .val (.int (k0 &&& (3 : Int32))), .val (.long (((((k0.toUInt32 >>> ((2 : Int32) &&& 31).toUInt32).toInt32) % (12 : Int32)) - (2 : Int32)).toInt64)), .second, .val (.ref w_ROOTS), .val (.ref w_ROOTS)] [(.long (((((k0.toUInt32 >>> ((2 : Int32) &&& 31).toUInt32).toInt32) % (12 : Int32)) - (2 : Int32)).toInt64)), (.long ((5 : Int32).toInt64))])) _
          refine XS.lcmp X100.here hx rfl (hb hby at_87) rfl ?_
          show Steps p.tables e below (T100.setTop (mkF m 88 #[.val (.long j0), .second, .val (.int k0), .val (.long (((((k0.toUInt32 >>> ((2 : Int32) &&& 31).toUInt32).toInt32) % (12 : Int32)) - (2 : Int32)).toInt64)), .second, .val (.int (k0 &&& (3 : Int32))), .val (.long (((((k0.toUInt32 >>> ((2 : Int32) &&& 31).toUInt32).toInt32) % (12 : Int32)) - (2 : Int32)).toInt64)), .second, .val (.ref w_ROOTS), .val (.ref w_ROOTS)] [(.int (lcmpW ((5 : Int32).toInt64) (((((k0.toUInt32 >>> ((2 : Int32) &&& 31).toUInt32).toInt32) % (12 : Int32)) - (2 : Int32)).toInt64)))])) _
          refine XS.ifYes X100.here hx rfl (pc0 := 88) (pc' := 93) rfl (hb hby at_88) rfl ((if0 _ _).trans (teq ((lw_eq ((5 : Int32).toInt64) (((((k0.toUInt32 >>> ((2 : Int32) &&& 31).toUInt32).toInt32) % (12 : Int32)) - (2 : Int32)).toInt64)).mpr (Eq.trans (by decide) ht5.symm))).1) (by decide) (by decide) ?_
          show Steps p.tables e below (T100.setTop (mkF m 93 #[.val (.long j0), .second, .val (.int k0), .val (.long (((((k0.toUInt32 >>> ((2 : Int32) &&& 31).toUInt32).toInt32) % (12 : Int32)) - (2 : Int32)).toInt64)), .second, .val (.int (k0 &&& (3 : Int32))), .val (.long (((((k0.toUInt32 >>> ((2 : Int32) &&& 31).toUInt32).toInt32) % (12 : Int32)) - (2 : Int32)).toInt64)), .second, .val (.ref w_ROOTS), .val (.ref w_ROOTS)] [])) _
          refine XS.iconst X100.here hx rfl (hb hby at_93) ?_
          show Steps p.tables e below (T100.setTop (mkF m 94 #[.val (.long j0), .second, .val (.int k0), .val (.long (((((k0.toUInt32 >>> ((2 : Int32) &&& 31).toUInt32).toInt32) % (12 : Int32)) - (2 : Int32)).toInt64)), .second, .val (.int (k0 &&& (3 : Int32))), .val (.long (((((k0.toUInt32 >>> ((2 : Int32) &&& 31).toUInt32).toInt32) % (12 : Int32)) - (2 : Int32)).toInt64)), .second, .val (.ref w_ROOTS), .val (.ref w_ROOTS)] [(.int (1 : Int32))])) _
          exact k_)
        obtain ⟨fs, hr, hrun, hended, hW, hsame⟩ := X100.leave (v := some (.int (1 : Int32))) (fun h => by rw [Bd.returns] at h; cases h)
        refine ⟨_, _, pre101 _ ?_, hrun, hended, _, _, rfl, ?_, ⟨_, rfl⟩, hW, hsame.mono (by decide) (by decide)⟩
        · show Steps p.tables e below (T100.setTop (mkF m 94 #[.val (.long j0), .second, .val (.int k0), .val (.long (((((k0.toUInt32 >>> ((2 : Int32) &&& 31).toUInt32).toInt32) % (12 : Int32)) - (2 : Int32)).toInt64)), .second, .val (.int (k0 &&& (3 : Int32))), .val (.long (((((k0.toUInt32 >>> ((2 : Int32) &&& 31).toUInt32).toInt32) % (12 : Int32)) - (2 : Int32)).toInt64)), .second, .val (.ref w_ROOTS), .val (.ref w_ROOTS)] [(.int (1 : Int32))])) _
          exact retN X100 hx (t := .boolean) Bd.returns (by simp) (hb hby at_94) hr
        · show Q_0 Z j0 k0 w_STRING w_HASHED_STRING w_CLASS w_INSTANCE w_ROOTS w_OBJECT_ARRAY w_PRIMITIVE_ARRAY w_LEGACY w_BY_TAG cl_BY_TAG h0 n0 _ T100.heap _
          rw [e100]
          exact ⟨rfl, N100⟩
      by_cases ht6 : (((((k0.toUInt32 >>> ((2 : Int32) &&& 31).toUInt32).toInt32) % (12 : Int32)) - (2 : Int32)).toInt64) = (6 : Int64)
      · have hq : (own_of (((((k0.toUInt32 >>> ((2 : Int32) &&& 31).toUInt32).toInt32) % (12 : Int32)) - (2 : Int32)).toInt64) w_STRING w_HASHED_STRING w_CLASS w_INSTANCE w_ROOTS w_OBJECT_ARRAY w_PRIMITIVE_ARRAY w_LEGACY) = .ref w_OBJECT_ARRAY := by rw [own_of, if_neg ht1, if_neg ht2, if_neg ht3, if_neg ht4, if_neg ht5, if_pos ht6]
        rw [hq] at pre91
        obtain ⟨cq102, kq102, q102a, q102b, q102c⟩ := isOf hZ e90 E_OBJECT_ARRAY
        obtain ⟨v102, _, ⟨T102, L102, k102, n102⟩, -, X102, ⟨Lc102, hQ102, l102, y102, z102⟩, st102⟩ := X90.virtualBack hx (y := (⟨"com/example/heapscribe/heapscribe/Bmd$RecordKind", "tag", "()I"⟩ : MethodName)) (z := (⟨"com/example/heapscribe/heapscribe/Bmd$RecordKind", "tag", "()I"⟩ : MethodName)) hown (mvT hZ (hw _ (List.mem_of_getElem? (i := 14) rfl))) (mvT hZ (hw _ (List.mem_of_getElem? (i := 15) rfl))) (notFace_of_selects (args := #[]) (mvT hZ (hw _ (List.mem_of_getElem? (i := 17) rfl)))) (mvT hZ (hw _ (List.mem_of_getElem? (i := 17) rfl))) (mvT hZ (hw _ (List.mem_of_getElem? (i := 16) rfl))) (by decide) (backOf (W := 0) (rm_3 l Z a0 hw [] w_OBJECT_ARRAY (6 : Int32) h0 n0 Z0 F_OBJECT_ARRAY_tag) hZ (hw _ (List.mem_of_getElem? (i := 18) rfl)) (hw _ (List.mem_of_getElem? (i := 2) rfl)) (by decide) (by decide)) q102a q102c (g := (mkF m 81 #[.val (.long j0), .second, .val (.int k0), .val (.long (((((k0.toUInt32 >>> ((2 : Int32) &&& 31).toUInt32).toInt32) % (12 : Int32)) - (2 : Int32)).toInt64)), .second, .val (.int (k0 &&& (3 : Int32))), .val (.long (((((k0.toUInt32 >>> ((2 : Int32) &&& 31).toUInt32).toInt32) % (12 : Int32)) - (2 : Int32)).toInt64)), .second, .val (.ref w_OBJECT_ARRAY), .val (.ref w_OBJECT_ARRAY)] [(.ref w_OBJECT_ARRAY)])) rfl (by rw [hml]; rfl) (Steps.refl _) (argsL := []) (rest := []) (lenOf pd_1 rfl) rfl (by show 2 * 0 + _ ≤ _; exact Nat.le_of_eq rfl) (hb hby at_81) (fun _ _ => ⟨rfl, e90, (by decide : 0 + 0 ≤ _), (by decide : 0 + 0 ≤ _)⟩)
        dsimp only [Pt.U, Pt.locs, Pt.cells, Pt.slots] at X102 l102 y102 z102 st102 hQ102
        subst l102 y102 z102
        obtain ⟨hv102, N102q, e102⟩ := hQ102
        have N102 := Fr.app N90 N102q
        subst hv102
        have pre103 : ∀ t_, Steps p.tables e below (T102.setTop (mkF m 94 #[.val (.long j0), .second, .val (.int k0), .val (.long (((((k0.toUInt32 >>> ((2 : Int32) &&& 31).toUInt32).toInt32) % (12 : Int32)) - (2 : Int32)).toInt64)), .second, .val (.int (k0 &&& (3 : Int32))), .val (.long (((((k0.toUInt32 >>> ((2 : Int32) &&& 31).toUInt32).toInt32) % (12 : Int32)) - (2 : Int32)).toInt64)), .second, .val (.ref w_OBJECT_ARRAY), .val (.ref w_OBJECT_ARRAY)] [(.int (1 : Int32))])) t_ → Steps p.tables e below (s₁.setTop (entryFrame m #[(.long j0), (.int k0)] maxLocals)) t_ := fun t_ k_ => pre91 t_ (by
          show Steps p.tables e below (T90.setTop (mkF m 74 #[.val (.long j0), .second, .val (.int k0), .val (.long (((((k0.toUInt32 >>> ((2 : Int32) &&& 31).toUInt32).toInt32) % (12 : Int32)) - (2 : Int32)).toInt64)), .second, .val (.int (k0 &&& (3 : Int32))), .val (.long (((((k0.toUInt32 >>> ((2 : Int32) &&& 31).toUInt32).toInt32) % (12 : Int32)) - (2 : Int32)).toInt64)), .second, .val (.ref w_OBJECT_ARRAY), .val (.ref w_OBJECT_ARRAY)] [])) _
          refine XS.aload X90.here hx rfl (hb hby at_74) rfl rfl ?_
          show Steps p.tables e below (T90.setTop (mkF m 76 #[.val (.long j0), .second, .val (.int k0), .val (.long (((((k0.toUInt32 >>> ((2 : Int32) &&& 31).toUInt32).toInt32) % (12 : Int32)) - (2 : Int32)).toInt64)), .second, .val (.int (k0 &&& (3 : Int32))), .val (.long (((((k0.toUInt32 >>> ((2 : Int32) &&& 31).toUInt32).toInt32) % (12 : Int32)) - (2 : Int32)).toInt64)), .second, .val (.ref w_OBJECT_ARRAY), .val (.ref w_OBJECT_ARRAY)] [(.ref w_OBJECT_ARRAY)])) _
          refine XS.ifnullNo X90.here hx rfl (hb hby at_76) rfl ?_
          show Steps p.tables e below (T90.setTop (mkF m 79 #[.val (.long j0), .second, .val (.int k0), .val (.long (((((k0.toUInt32 >>> ((2 : Int32) &&& 31).toUInt32).toInt32) % (12 : Int32)) - (2 : Int32)).toInt64)), .second, .val (.int (k0 &&& (3 : Int32))), .val (.long (((((k0.toUInt32 >>> ((2 : Int32) &&& 31).toUInt32).toInt32) % (12 : Int32)) - (2 : Int32)).toInt64)), .second, .val (.ref w_OBJECT_ARRAY), .val (.ref w_OBJECT_ARRAY)] [])) _
          refine XS.aload X90.here hx rfl (hb hby at_79) rfl rfl ?_
          show Steps p.tables e below (T90.setTop (mkF m 81 #[.val (.long j0), .second, .val (.int k0), .val (.long (((((k0.toUInt32 >>> ((2 : Int32) &&& 31).toUInt32).toInt32) % (12 : Int32)) - (2 : Int32)).toInt64)), .second, .val (.int (k0 &&& (3 : Int32))), .val (.long (((((k0.toUInt32 >>> ((2 : Int32) &&& 31).toUInt32).toInt32) % (12 : Int32)) - (2 : Int32)).toInt64)), .second, .val (.ref w_OBJECT_ARRAY), .val (.ref w_OBJECT_ARRAY)] [(.ref w_OBJECT_ARRAY)])) _
          refine st102.trans ?_
          show Steps p.tables e below (T102.setTop (mkF m 84 #[.val (.long j0), .second, .val (.int k0), .val (.long (((((k0.toUInt32 >>> ((2 : Int32) &&& 31).toUInt32).toInt32) % (12 : Int32)) - (2 : Int32)).toInt64)), .second, .val (.int (k0 &&& (3 : Int32))), .val (.long (((((k0.toUInt32 >>> ((2 : Int32) &&& 31).toUInt32).toInt32) % (12 : Int32)) - (2 : Int32)).toInt64)), .second, .val (.ref w_OBJECT_ARRAY), .val (.ref w_OBJECT_ARRAY)] [(.int (6 : Int32))])) _
          refine XS.i2l X102.here hx rfl (hb hby at_84) rfl ?_
          show Steps p.tables e below (T102.setTop (mkF m 85 #[.val (.long j0), .second, .val (.int k0), .val (.long (((((k0.toUInt32 >>> ((2 : Int32) &&& 31).toUInt32).toInt32) % (12 : Int32)) - (2 : Int32)).toInt64)), .second, .val (.int (k0 &&& (3 : Int32))), .val (.long (((((k0.toUInt32 >>> ((2 : Int32) &&& 31).toUInt32).toInt32) % (12 : Int32)) - (2 : Int32)).toInt64)), .second, .val (.ref w_OBJECT_ARRAY), .val (.ref w_OBJECT_ARRAY)] [(.long ((6 : Int32).toInt64))])) _
          refine XS.lload X102.here hx rfl (hb hby at_85) rfl ?_
          show Steps p.tables e below (T102.setTop (mkF m 87 #[.val (.long j0), .second, .val (.int k0), .val (.long (((((k0.toUInt32 >>> ((2 : Int32) &&& 31).toUInt32).toInt32) % (12 : Int32)) - (2 : Int32)).toInt64)), .second, .val (.int (k0 &&& (3 : Int32))), .val (.long (((((k0.toUInt32 >>> ((2 : Int32) &&& 31).toUInt32).toInt32) % (12 : Int32)) - (2 : Int32)).toInt64)), .second, .val (.ref w_OBJECT_ARRAY), .val (.ref w_OBJECT_ARRAY)] [(.long (((((k0.toUInt32 >>> ((2 : Int32) &&& 31).toUInt32).toInt32) % (12 : Int32)) - (2 : Int32)).toInt64)), (.long ((6 : Int32).toInt64))])) _
          refine XS.lcmp X102.here hx rfl (hb hby at_87) rfl ?_
          show Steps p.tables e below (T102.setTop (mkF m 88 #[.val (.long j0), .second, .val (.int k0), .val (.long (((((k0.toUInt32 >>> ((2 : Int32) &&& 31).toUInt32).toInt32) % (12 : Int32)) - (2 : Int32)).toInt64)), .second, .val (.int (k0 &&& (3 : Int32))), .val (.long (((((k0.toUInt32 >>> ((2 : Int32) &&& 31).toUInt32).toInt32) % (12 : Int32)) - (2 : Int32)).toInt64)), .second, .val (.ref w_OBJECT_ARRAY), .val (.ref w_OBJECT_ARRAY)] [(.int (lcmpW ((6 : Int32).toInt64) (((((k0.toUInt32 >>> ((2 : Int32) &&& 31).toUInt32).toInt32) % (12 : Int32)) - (2 : Int32)).toInt64)))])) _
          refine XS.ifYes X102.here hx rfl (pc0 := 88) (pc' := 93) rfl (hb hby at_88) rfl ((if0 _ _).trans (teq ((lw_eq ((6 : Int32).toInt64) (((((k0.toUInt32 >>> ((2 : Int32) &&& 31).toUInt32).toInt32) % (12 : Int32)) - (2 : Int32)).toInt64)).mpr (Eq.trans (by decide) ht6.symm))).1) (by decide) (by decide) ?_
          show Steps p.tables e below (T102.setTop (mkF m 93 #[.val (.long j0), .second, .val (.int k0), .val (.long (((((k0.toUInt32 >>> ((2 : Int32) &&& 31).toUInt32).toInt32) % (12 : Int32)) - (2 : Int32)).toInt64)), .second, .val (.int (k0 &&& (3 : Int32))), .val (.long (((((k0.toUInt32 >>> ((2 : Int32) &&& 31).toUInt32).toInt32) % (12 : Int32)) - (2 : Int32)).toInt64)), .second, .val (.ref w_OBJECT_ARRAY), .val (.ref w_OBJECT_ARRAY)] [])) _
          refine XS.iconst X102.here hx rfl (hb hby at_93) ?_
          show Steps p.tables e below (T102.setTop (mkF m 94 #[.val (.long j0), .second, .val (.int k0), .val (.long (((((k0.toUInt32 >>> ((2 : Int32) &&& 31).toUInt32).toInt32) % (12 : Int32)) - (2 : Int32)).toInt64)), .second, .val (.int (k0 &&& (3 : Int32))), .val (.long (((((k0.toUInt32 >>> ((2 : Int32) &&& 31).toUInt32).toInt32) % (12 : Int32)) - (2 : Int32)).toInt64)), .second, .val (.ref w_OBJECT_ARRAY), .val (.ref w_OBJECT_ARRAY)] [(.int (1 : Int32))])) _
          exact k_)
        obtain ⟨fs, hr, hrun, hended, hW, hsame⟩ := X102.leave (v := some (.int (1 : Int32))) (fun h => by rw [Bd.returns] at h; cases h)
        refine ⟨_, _, pre103 _ ?_, hrun, hended, _, _, rfl, ?_, ⟨_, rfl⟩, hW, hsame.mono (by decide) (by decide)⟩
        · show Steps p.tables e below (T102.setTop (mkF m 94 #[.val (.long j0), .second, .val (.int k0), .val (.long (((((k0.toUInt32 >>> ((2 : Int32) &&& 31).toUInt32).toInt32) % (12 : Int32)) - (2 : Int32)).toInt64)), .second, .val (.int (k0 &&& (3 : Int32))), .val (.long (((((k0.toUInt32 >>> ((2 : Int32) &&& 31).toUInt32).toInt32) % (12 : Int32)) - (2 : Int32)).toInt64)), .second, .val (.ref w_OBJECT_ARRAY), .val (.ref w_OBJECT_ARRAY)] [(.int (1 : Int32))])) _
          exact retN X102 hx (t := .boolean) Bd.returns (by simp) (hb hby at_94) hr
        · show Q_0 Z j0 k0 w_STRING w_HASHED_STRING w_CLASS w_INSTANCE w_ROOTS w_OBJECT_ARRAY w_PRIMITIVE_ARRAY w_LEGACY w_BY_TAG cl_BY_TAG h0 n0 _ T102.heap _
          rw [e102]
          exact ⟨rfl, N102⟩
      by_cases ht7 : (((((k0.toUInt32 >>> ((2 : Int32) &&& 31).toUInt32).toInt32) % (12 : Int32)) - (2 : Int32)).toInt64) = (7 : Int64)
      · have hq : (own_of (((((k0.toUInt32 >>> ((2 : Int32) &&& 31).toUInt32).toInt32) % (12 : Int32)) - (2 : Int32)).toInt64) w_STRING w_HASHED_STRING w_CLASS w_INSTANCE w_ROOTS w_OBJECT_ARRAY w_PRIMITIVE_ARRAY w_LEGACY) = .ref w_PRIMITIVE_ARRAY := by rw [own_of, if_neg ht1, if_neg ht2, if_neg ht3, if_neg ht4, if_neg ht5, if_neg ht6, if_pos ht7]
        rw [hq] at pre91
        obtain ⟨cq104, kq104, q104a, q104b, q104c⟩ := isOf hZ e90 E_PRIMITIVE_ARRAY
        obtain ⟨v104, _, ⟨T104, L104, k104, n104⟩, -, X104, ⟨Lc104, hQ104, l104, y104, z104⟩, st104⟩ := X90.virtualBack hx (y := (⟨"com/example/heapscribe/heapscribe/Bmd$RecordKind", "tag", "()I"⟩ : MethodName)) (z := (⟨"com/example/heapscribe/heapscribe/Bmd$RecordKind", "tag", "()I"⟩ : MethodName)) hown (mvT hZ (hw _ (List.mem_of_getElem? (i := 14) rfl))) (mvT hZ (hw _ (List.mem_of_getElem? (i := 15) rfl))) (notFace_of_selects (args := #[]) (mvT hZ (hw _ (List.mem_of_getElem? (i := 17) rfl)))) (mvT hZ (hw _ (List.mem_of_getElem? (i := 17) rfl))) (mvT hZ (hw _ (List.mem_of_getElem? (i := 16) rfl))) (by decide) (backOf (W := 0) (rm_3 l Z a0 hw [] w_PRIMITIVE_ARRAY (7 : Int32) h0 n0 Z0 F_PRIMITIVE_ARRAY_tag) hZ (hw _ (List.mem_of_getElem? (i := 18) rfl)) (hw _ (List.mem_of_getElem? (i := 2) rfl)) (by decide) (by decide)) q104a q104c (g := (mkF m 81 #[.val (.long j0), .second, .val (.int k0), .val (.long (((((k0.toUInt32 >>> ((2 : Int32) &&& 31).toUInt32).toInt32) % (12 : Int32)) - (2 : Int32)).toInt64)), .second, .val (.int (k0 &&& (3 : Int32))), .val (.long (((((k0.toUInt32 >>> ((2 : Int32) &&& 31).toUInt32).toInt32) % (12 : Int32)) - (2 : Int32)).toInt64)), .second, .val (.ref w_PRIMITIVE_ARRAY), .val (.ref w_PRIMITIVE_ARRAY)] [(.ref w_PRIMITIVE_ARRAY)])) rfl (by rw [hml]; rfl) (Steps.refl _) (argsL := []) (rest := []) (lenOf pd_1 rfl) rfl (by show 2 * 0 + _ ≤ _; exact Nat.le_of_eq rfl) (hb hby at_81) (fun _ _ => ⟨rfl, e90, (by decide : 0 + 0 ≤ _), (by decide : 0 + 0 ≤ _)⟩)
        dsimp only [Pt.U, Pt.locs, Pt.cells, Pt.slots] at X104 l104 y104 z104 st104 hQ104
        subst l104 y104 z104
        obtain ⟨hv104, N104q, e104⟩ := hQ104
        have N104 := Fr.app N90 N104q
        subst hv104
        have pre105 : ∀ t_, Steps p.tables e below (T104.setTop (mkF m 94 #[.val (.long j0), .second, .val (.int k0), .val (.long (((((k0.toUInt32 >>> ((2 : Int32) &&& 31).toUInt32).toInt32) % (12 : Int32)) - (2 : Int32)).toInt64)), .second, .val (.int (k0 &&& (3 : Int32))), .val (.long (((((k0.toUInt32 >>> ((2 : Int32) &&& 31).toUInt32).toInt32) % (12 : Int32)) - (2 : Int32)).toInt64)), .second, .val (.ref w_PRIMITIVE_ARRAY), .val (.ref w_PRIMITIVE_ARRAY)] [(.int (1 : Int32))])) t_ → Steps p.tables e below (s₁.setTop (entryFrame m #[(.long j0), (.int k0)] maxLocals)) t_ := fun t_ k_ => pre91 t_ (by
          show Steps p.tables e below (T90.setTop (mkF m 74 #[.val (.long j0), .second, .val (.int k0), .val (.long (((((k0.toUInt32 >>> ((2 : Int32) &&& 31).toUInt32).toInt32) % (12 : Int32)) - (2 : Int32)).toInt64)), .second, .val (.int (k0 &&& (3 : Int32))), .val (.long (((((k0.toUInt32 >>> ((2 : Int32) &&& 31).toUInt32).toInt32) % (12 : Int32)) - (2 : Int32)).toInt64)), .second, .val (.ref w_PRIMITIVE_ARRAY), .val (.ref w_PRIMITIVE_ARRAY)] [])) _
          refine XS.aload X90.here hx rfl (hb hby at_74) rfl rfl ?_
          show Steps p.tables e below (T90.setTop (mkF m 76 #[.val (.long j0), .second, .val (.int k0), .val (.long (((((k0.toUInt32 >>> ((2 : Int32) &&& 31).toUInt32).toInt32) % (12 : Int32)) - (2 : Int32)).toInt64)), .second, .val (.int (k0 &&& (3 : Int32))), .val (.long (((((k0.toUInt32 >>> ((2 : Int32) &&& 31).toUInt32).toInt32) % (12 : Int32)) - (2 : Int32)).toInt64)), .second, .val (.ref w_PRIMITIVE_ARRAY), .val (.ref w_PRIMITIVE_ARRAY)] [(.ref w_PRIMITIVE_ARRAY)])) _
          refine XS.ifnullNo X90.here hx rfl (hb hby at_76) rfl ?_
          show Steps p.tables e below (T90.setTop (mkF m 79 #[.val (.long j0), .second, .val (.int k0), .val (.long (((((k0.toUInt32 >>> ((2 : Int32) &&& 31).toUInt32).toInt32) % (12 : Int32)) - (2 : Int32)).toInt64)), .second, .val (.int (k0 &&& (3 : Int32))), .val (.long (((((k0.toUInt32 >>> ((2 : Int32) &&& 31).toUInt32).toInt32) % (12 : Int32)) - (2 : Int32)).toInt64)), .second, .val (.ref w_PRIMITIVE_ARRAY), .val (.ref w_PRIMITIVE_ARRAY)] [])) _
          refine XS.aload X90.here hx rfl (hb hby at_79) rfl rfl ?_
          show Steps p.tables e below (T90.setTop (mkF m 81 #[.val (.long j0), .second, .val (.int k0), .val (.long (((((k0.toUInt32 >>> ((2 : Int32) &&& 31).toUInt32).toInt32) % (12 : Int32)) - (2 : Int32)).toInt64)), .second, .val (.int (k0 &&& (3 : Int32))), .val (.long (((((k0.toUInt32 >>> ((2 : Int32) &&& 31).toUInt32).toInt32) % (12 : Int32)) - (2 : Int32)).toInt64)), .second, .val (.ref w_PRIMITIVE_ARRAY), .val (.ref w_PRIMITIVE_ARRAY)] [(.ref w_PRIMITIVE_ARRAY)])) _
          refine st104.trans ?_
          show Steps p.tables e below (T104.setTop (mkF m 84 #[.val (.long j0), .second, .val (.int k0), .val (.long (((((k0.toUInt32 >>> ((2 : Int32) &&& 31).toUInt32).toInt32) % (12 : Int32)) - (2 : Int32)).toInt64)), .second, .val (.int (k0 &&& (3 : Int32))), .val (.long (((((k0.toUInt32 >>> ((2 : Int32) &&& 31).toUInt32).toInt32) % (12 : Int32)) - (2 : Int32)).toInt64)), .second, .val (.ref w_PRIMITIVE_ARRAY), .val (.ref w_PRIMITIVE_ARRAY)] [(.int (7 : Int32))])) _
          refine XS.i2l X104.here hx rfl (hb hby at_84) rfl ?_
          show Steps p.tables e below (T104.setTop (mkF m 85 #[.val (.long j0), .second, .val (.int k0), .val (.long (((((k0.toUInt32 >>> ((2 : Int32) &&& 31).toUInt32).toInt32) % (12 : Int32)) - (2 : Int32)).toInt64)), .second, .val (.int (k0 &&& (3 : Int32))), .val (.long (((((k0.toUInt32 >>> ((2 : Int32) &&& 31).toUInt32).toInt32) % (12 : Int32)) - (2 : Int32)).toInt64)), .second, .val (.ref w_PRIMITIVE_ARRAY), .val (.ref w_PRIMITIVE_ARRAY)] [(.long ((7 : Int32).toInt64))])) _
          refine XS.lload X104.here hx rfl (hb hby at_85) rfl ?_
          show Steps p.tables e below (T104.setTop (mkF m 87 #[.val (.long j0), .second, .val (.int k0), .val (.long (((((k0.toUInt32 >>> ((2 : Int32) &&& 31).toUInt32).toInt32) % (12 : Int32)) - (2 : Int32)).toInt64)), .second, .val (.int (k0 &&& (3 : Int32))), .val (.long (((((k0.toUInt32 >>> ((2 : Int32) &&& 31).toUInt32).toInt32) % (12 : Int32)) - (2 : Int32)).toInt64)), .second, .val (.ref w_PRIMITIVE_ARRAY), .val (.ref w_PRIMITIVE_ARRAY)] [(.long (((((k0.toUInt32 >>> ((2 : Int32) &&& 31).toUInt32).toInt32) % (12 : Int32)) - (2 : Int32)).toInt64)), (.long ((7 : Int32).toInt64))])) _
          refine XS.lcmp X104.here hx rfl (hb hby at_87) rfl ?_
          show Steps p.tables e below (T104.setTop (mkF m 88 #[.val (.long j0), .second, .val (.int k0), .val (.long (((((k0.toUInt32 >>> ((2 : Int32) &&& 31).toUInt32).toInt32) % (12 : Int32)) - (2 : Int32)).toInt64)), .second, .val (.int (k0 &&& (3 : Int32))), .val (.long (((((k0.toUInt32 >>> ((2 : Int32) &&& 31).toUInt32).toInt32) % (12 : Int32)) - (2 : Int32)).toInt64)), .second, .val (.ref w_PRIMITIVE_ARRAY), .val (.ref w_PRIMITIVE_ARRAY)] [(.int (lcmpW ((7 : Int32).toInt64) (((((k0.toUInt32 >>> ((2 : Int32) &&& 31).toUInt32).toInt32) % (12 : Int32)) - (2 : Int32)).toInt64)))])) _
          refine XS.ifYes X104.here hx rfl (pc0 := 88) (pc' := 93) rfl (hb hby at_88) rfl ((if0 _ _).trans (teq ((lw_eq ((7 : Int32).toInt64) (((((k0.toUInt32 >>> ((2 : Int32) &&& 31).toUInt32).toInt32) % (12 : Int32)) - (2 : Int32)).toInt64)).mpr (Eq.trans (by decide) ht7.symm))).1) (by decide) (by decide) ?_
          show Steps p.tables e below (T104.setTop (mkF m 93 #[.val (.long j0), .second, .val (.int k0), .val (.long (((((k0.toUInt32 >>> ((2 : Int32) &&& 31).toUInt32).toInt32) % (12 : Int32)) - (2 : Int32)).toInt64)), .second, .val (.int (k0 &&& (3 : Int32))), .val (.long (((((k0.toUInt32 >>> ((2 : Int32) &&& 31).toUInt32).toInt32) % (12 : Int32)) - (2 : Int32)).toInt64)), .second, .val (.ref w_PRIMITIVE_ARRAY), .val (.ref w_PRIMITIVE_ARRAY)] [])) _
          refine XS.iconst X104.here hx rfl (hb hby at_93) ?_
          show Steps p.tables e below (T104.setTop (mkF m 94 #[.val (.long j0), .second, .val (.int k0), .val (.long (((((k0.toUInt32 >>> ((2 : Int32) &&& 31).toUInt32).toInt32) % (12 : Int32)) - (2 : Int32)).toInt64)), .second, .val (.int (k0 &&& (3 : Int32))), .val (.long (((((k0.toUInt32 >>> ((2 : Int32) &&& 31).toUInt32).toInt32) % (12 : Int32)) - (2 : Int32)).toInt64)), .second, .val (.ref w_PRIMITIVE_ARRAY), .val (.ref w_PRIMITIVE_ARRAY)] [(.int (1 : Int32))])) _
          exact k_)
        obtain ⟨fs, hr, hrun, hended, hW, hsame⟩ := X104.leave (v := some (.int (1 : Int32))) (fun h => by rw [Bd.returns] at h; cases h)
        refine ⟨_, _, pre105 _ ?_, hrun, hended, _, _, rfl, ?_, ⟨_, rfl⟩, hW, hsame.mono (by decide) (by decide)⟩
        · show Steps p.tables e below (T104.setTop (mkF m 94 #[.val (.long j0), .second, .val (.int k0), .val (.long (((((k0.toUInt32 >>> ((2 : Int32) &&& 31).toUInt32).toInt32) % (12 : Int32)) - (2 : Int32)).toInt64)), .second, .val (.int (k0 &&& (3 : Int32))), .val (.long (((((k0.toUInt32 >>> ((2 : Int32) &&& 31).toUInt32).toInt32) % (12 : Int32)) - (2 : Int32)).toInt64)), .second, .val (.ref w_PRIMITIVE_ARRAY), .val (.ref w_PRIMITIVE_ARRAY)] [(.int (1 : Int32))])) _
          exact retN X104 hx (t := .boolean) Bd.returns (by simp) (hb hby at_94) hr
        · show Q_0 Z j0 k0 w_STRING w_HASHED_STRING w_CLASS w_INSTANCE w_ROOTS w_OBJECT_ARRAY w_PRIMITIVE_ARRAY w_LEGACY w_BY_TAG cl_BY_TAG h0 n0 _ T104.heap _
          rw [e104]
          exact ⟨rfl, N104⟩
      by_cases ht8 : (((((k0.toUInt32 >>> ((2 : Int32) &&& 31).toUInt32).toInt32) % (12 : Int32)) - (2 : Int32)).toInt64) = (8 : Int64)
      · have hq : (own_of (((((k0.toUInt32 >>> ((2 : Int32) &&& 31).toUInt32).toInt32) % (12 : Int32)) - (2 : Int32)).toInt64) w_STRING w_HASHED_STRING w_CLASS w_INSTANCE w_ROOTS w_OBJECT_ARRAY w_PRIMITIVE_ARRAY w_LEGACY) = .ref w_LEGACY := by rw [own_of, if_neg ht1, if_neg ht2, if_neg ht3, if_neg ht4, if_neg ht5, if_neg ht6, if_neg ht7, if_pos ht8]
        rw [hq] at pre91
        obtain ⟨cq106, kq106, q106a, q106b, q106c⟩ := isOf hZ e90 E_LEGACY
        obtain ⟨v106, _, ⟨T106, L106, k106, n106⟩, -, X106, ⟨Lc106, hQ106, l106, y106, z106⟩, st106⟩ := X90.virtualBack hx (y := (⟨"com/example/heapscribe/heapscribe/Bmd$RecordKind", "tag", "()I"⟩ : MethodName)) (z := (⟨"com/example/heapscribe/heapscribe/Bmd$RecordKind", "tag", "()I"⟩ : MethodName)) hown (mvT hZ (hw _ (List.mem_of_getElem? (i := 14) rfl))) (mvT hZ (hw _ (List.mem_of_getElem? (i := 15) rfl))) (notFace_of_selects (args := #[]) (mvT hZ (hw _ (List.mem_of_getElem? (i := 17) rfl)))) (mvT hZ (hw _ (List.mem_of_getElem? (i := 17) rfl))) (mvT hZ (hw _ (List.mem_of_getElem? (i := 16) rfl))) (by decide) (backOf (W := 0) (rm_3 l Z a0 hw [] w_LEGACY (8 : Int32) h0 n0 Z0 F_LEGACY_tag) hZ (hw _ (List.mem_of_getElem? (i := 18) rfl)) (hw _ (List.mem_of_getElem? (i := 2) rfl)) (by decide) (by decide)) q106a q106c (g := (mkF m 81 #[.val (.long j0), .second, .val (.int k0), .val (.long (((((k0.toUInt32 >>> ((2 : Int32) &&& 31).toUInt32).toInt32) % (12 : Int32)) - (2 : Int32)).toInt64)), .second, .val (.int (k0 &&& (3 : Int32))), .val (.long (((((k0.toUInt32 >>> ((2 : Int32) &&& 31).toUInt32).toInt32) % (12 : Int32)) - (2 : Int32)).toInt64)), .second, .val (.ref w_LEGACY), .val (.ref w_LEGACY)] [(.ref w_LEGACY)])) rfl (by rw [hml]; rfl) (Steps.refl _) (argsL := []) (rest := []) (lenOf pd_1 rfl) rfl (by show 2 * 0 + _ ≤ _; exact Nat.le_of_eq rfl) (hb hby at_81) (fun _ _ => ⟨rfl, e90, (by decide : 0 + 0 ≤ _), (by decide : 0 + 0 ≤ _)⟩)
        dsimp only [Pt.U, Pt.locs, Pt.cells, Pt.slots] at X106 l106 y106 z106 st106 hQ106
        subst l106 y106 z106
        obtain ⟨hv106, N106q, e106⟩ := hQ106
        have N106 := Fr.app N90 N106q
        subst hv106
        have pre107 : ∀ t_, Steps p.tables e below (T106.setTop (mkF m 94 #[.val (.long j0), .second, .val (.int k0), .val (.long (((((k0.toUInt32 >>> ((2 : Int32) &&& 31).toUInt32).toInt32) % (12 : Int32)) - (2 : Int32)).toInt64)), .second, .val (.int (k0 &&& (3 : Int32))), .val (.long (((((k0.toUInt32 >>> ((2 : Int32) &&& 31).toUInt32).toInt32) % (12 : Int32)) - (2 : Int32)).toInt64)), .second, .val (.ref w_LEGACY), .val (.ref w_LEGACY)] [(.int (1 : Int32))])) t_ → Steps p.tables e below (s₁.setTop (entryFrame m #[(.long j0), (.int k0)] maxLocals)) t_ := fun t_ k_ => pre91 t_ (by
          show Steps p.tables e below (T90.setTop (mkF m 74 #[.val (.long j0), .second, .val (.int k0), .val (.long (((((k0.toUInt32 >>> ((2 : Int32) &&& 31).toUInt32).toInt32) % (12 : Int32)) - (2 : Int32)).toInt64)), .second, .val (.int (k0 &&& (3 : Int32))), .val (.long (((((k0.toUInt32 >>> ((2 : Int32) &&& 31).toUInt32).toInt32) % (12 : Int32)) - (2 : Int32)).toInt64)), .second, .val (.ref w_LEGACY), .val (.ref w_LEGACY)] [])) _
          refine XS.aload X90.here hx rfl (hb hby at_74) rfl rfl ?_
          show Steps p.tables e below (T90.setTop (mkF m 76 #[.val (.long j0), .second, .val (.int k0), .val (.long (((((k0.toUInt32 >>> ((2 : Int32) &&& 31).toUInt32).toInt32) % (12 : Int32)) - (2 : Int32)).toInt64)), .second, .val (.int (k0 &&& (3 : Int32))), .val (.long (((((k0.toUInt32 >>> ((2 : Int32) &&& 31).toUInt32).toInt32) % (12 : Int32)) - (2 : Int32)).toInt64)), .second, .val (.ref w_LEGACY), .val (.ref w_LEGACY)] [(.ref w_LEGACY)])) _
          refine XS.ifnullNo X90.here hx rfl (hb hby at_76) rfl ?_
          show Steps p.tables e below (T90.setTop (mkF m 79 #[.val (.long j0), .second, .val (.int k0), .val (.long (((((k0.toUInt32 >>> ((2 : Int32) &&& 31).toUInt32).toInt32) % (12 : Int32)) - (2 : Int32)).toInt64)), .second, .val (.int (k0 &&& (3 : Int32))), .val (.long (((((k0.toUInt32 >>> ((2 : Int32) &&& 31).toUInt32).toInt32) % (12 : Int32)) - (2 : Int32)).toInt64)), .second, .val (.ref w_LEGACY), .val (.ref w_LEGACY)] [])) _
          refine XS.aload X90.here hx rfl (hb hby at_79) rfl rfl ?_
          show Steps p.tables e below (T90.setTop (mkF m 81 #[.val (.long j0), .second, .val (.int k0), .val (.long (((((k0.toUInt32 >>> ((2 : Int32) &&& 31).toUInt32).toInt32) % (12 : Int32)) - (2 : Int32)).toInt64)), .second, .val (.int (k0 &&& (3 : Int32))), .val (.long (((((k0.toUInt32 >>> ((2 : Int32) &&& 31).toUInt32).toInt32) % (12 : Int32)) - (2 : Int32)).toInt64)), .second, .val (.ref w_LEGACY), .val (.ref w_LEGACY)] [(.ref w_LEGACY)])) _
          refine st106.trans ?_
          show Steps p.tables e below (T106.setTop (mkF m 84 #[.val (.long j0), .second, .val (.int k0), .val (.long (((((k0.toUInt32 >>> ((2 : Int32) &&& 31).toUInt32).toInt32) % (12 : Int32)) - (2 : Int32)).toInt64)), .second, .val (.int (k0 &&& (3 : Int32))), .val (.long (((((k0.toUInt32 >>> ((2 : Int32) &&& 31).toUInt32).toInt32) % (12 : Int32)) - (2 : Int32)).toInt64)), .second, .val (.ref w_LEGACY), .val (.ref w_LEGACY)] [(.int (8 : Int32))])) _
          refine XS.i2l X106.here hx rfl (hb hby at_84) rfl ?_
          show Steps p.tables e below (T106.setTop (mkF m 85 #[.val (.long j0), .second, .val (.int k0), .val (.long (((((k0.toUInt32 >>> ((2 : Int32) &&& 31).toUInt32).toInt32) % (12 : Int32)) - (2 : Int32)).toInt64)), .second, .val (.int (k0 &&& (3 : Int32))), .val (.long (((((k0.toUInt32 >>> ((2 : Int32) &&& 31).toUInt32).toInt32) % (12 : Int32)) - (2 : Int32)).toInt64)), .second, .val (.ref w_LEGACY), .val (.ref w_LEGACY)] [(.long ((8 : Int32).toInt64))])) _
          refine XS.lload X106.here hx rfl (hb hby at_85) rfl ?_
          show Steps p.tables e below (T106.setTop (mkF m 87 #[.val (.long j0), .second, .val (.int k0), .val (.long (((((k0.toUInt32 >>> ((2 : Int32) &&& 31).toUInt32).toInt32) % (12 : Int32)) - (2 : Int32)).toInt64)), .second, .val (.int (k0 &&& (3 : Int32))), .val (.long (((((k0.toUInt32 >>> ((2 : Int32) &&& 31).toUInt32).toInt32) % (12 : Int32)) - (2 : Int32)).toInt64)), .second, .val (.ref w_LEGACY), .val (.ref w_LEGACY)] [(.long (((((k0.toUInt32 >>> ((2 : Int32) &&& 31).toUInt32).toInt32) % (12 : Int32)) - (2 : Int32)).toInt64)), (.long ((8 : Int32).toInt64))])) _
          refine XS.lcmp X106.here hx rfl (hb hby at_87) rfl ?_
          show Steps p.tables e below (T106.setTop (mkF m 88 #[.val (.long j0), .second, .val (.int k0), .val (.long (((((k0.toUInt32 >>> ((2 : Int32) &&& 31).toUInt32).toInt32) % (12 : Int32)) - (2 : Int32)).toInt64)), .second, .val (.int (k0 &&& (3 : Int32))), .val (.long (((((k0.toUInt32 >>> ((2 : Int32) &&& 31).toUInt32).toInt32) % (12 : Int32)) - (2 : Int32)).toInt64)), .second, .val (.ref w_LEGACY), .val (.ref w_LEGACY)] [(.int (lcmpW ((8 : Int32).toInt64) (((((k0.toUInt32 >>> ((2 : Int32) &&& 31).toUInt32).toInt32) % (12 : Int32)) - (2 : Int32)).toInt64)))])) _
          refine XS.ifYes X106.here hx rfl (pc0 := 88) (pc' := 93) rfl (hb hby at_88) rfl ((if0 _ _).trans (teq ((lw_eq ((8 : Int32).toInt64) (((((k0.toUInt32 >>> ((2 : Int32) &&& 31).toUInt32).toInt32) % (12 : Int32)) - (2 : Int32)).toInt64)).mpr (Eq.trans (by decide) ht8.symm))).1) (by decide) (by decide) ?_
          show Steps p.tables e below (T106.setTop (mkF m 93 #[.val (.long j0), .second, .val (.int k0), .val (.long (((((k0.toUInt32 >>> ((2 : Int32) &&& 31).toUInt32).toInt32) % (12 : Int32)) - (2 : Int32)).toInt64)), .second, .val (.int (k0 &&& (3 : Int32))), .val (.long (((((k0.toUInt32 >>> ((2 : Int32) &&& 31).toUInt32).toInt32) % (12 : Int32)) - (2 : Int32)).toInt64)), .second, .val (.ref w_LEGACY), .val (.ref w_LEGACY)] [])) _
          refine XS.iconst X106.here hx rfl (hb hby at_93) ?_
          show Steps p.tables e below (T106.setTop (mkF m 94 #[.val (.long j0), .second, .val (.int k0), .val (.long (((((k0.toUInt32 >>> ((2 : Int32) &&& 31).toUInt32).toInt32) % (12 : Int32)) - (2 : Int32)).toInt64)), .second, .val (.int (k0 &&& (3 : Int32))), .val (.long (((((k0.toUInt32 >>> ((2 : Int32) &&& 31).toUInt32).toInt32) % (12 : Int32)) - (2 : Int32)).toInt64)), .second, .val (.ref w_LEGACY), .val (.ref w_LEGACY)] [(.int (1 : Int32))])) _
          exact k_)
        obtain ⟨fs, hr, hrun, hended, hW, hsame⟩ := X106.leave (v := some (.int (1 : Int32))) (fun h => by rw [Bd.returns] at h; cases h)
        refine ⟨_, _, pre107 _ ?_, hrun, hended, _, _, rfl, ?_, ⟨_, rfl⟩, hW, hsame.mono (by decide) (by decide)⟩
        · show Steps p.tables e below (T106.setTop (mkF m 94 #[.val (.long j0), .second, .val (.int k0), .val (.long (((((k0.toUInt32 >>> ((2 : Int32) &&& 31).toUInt32).toInt32) % (12 : Int32)) - (2 : Int32)).toInt64)), .second, .val (.int (k0 &&& (3 : Int32))), .val (.long (((((k0.toUInt32 >>> ((2 : Int32) &&& 31).toUInt32).toInt32) % (12 : Int32)) - (2 : Int32)).toInt64)), .second, .val (.ref w_LEGACY), .val (.ref w_LEGACY)] [(.int (1 : Int32))])) _
          exact retN X106 hx (t := .boolean) Bd.returns (by simp) (hb hby at_94) hr
        · show Q_0 Z j0 k0 w_STRING w_HASHED_STRING w_CLASS w_INSTANCE w_ROOTS w_OBJECT_ARRAY w_PRIMITIVE_ARRAY w_LEGACY w_BY_TAG cl_BY_TAG h0 n0 _ T106.heap _
          rw [e106]
          exact ⟨rfl, N106⟩
      have hq : (own_of (((((k0.toUInt32 >>> ((2 : Int32) &&& 31).toUInt32).toInt32) % (12 : Int32)) - (2 : Int32)).toInt64) w_STRING w_HASHED_STRING w_CLASS w_INSTANCE w_ROOTS w_OBJECT_ARRAY w_PRIMITIVE_ARRAY w_LEGACY) = .null := by rw [own_of, if_neg ht1, if_neg ht2, if_neg ht3, if_neg ht4, if_neg ht5, if_neg ht6, if_neg ht7, if_neg ht8]
      rw [hq] at pre91
      have pre108 : ∀ t_, Steps p.tables e below (T90.setTop (mkF m 94 #[.val (.long j0), .second, .val (.int k0), .val (.long (((((k0.toUInt32 >>> ((2 : Int32) &&& 31).toUInt32).toInt32) % (12 : Int32)) - (2 : Int32)).toInt64)), .second, .val (.int (k0 &&& (3 : Int32))), .val (.long (((((k0.toUInt32 >>> ((2 : Int32) &&& 31).toUInt32).toInt32) % (12 : Int32)) - (2 : Int32)).toInt64)), .second, .val .null, .val .null] [(.int (1 : Int32))])) t_ → Steps p.tables e below (s₁.setTop (entryFrame m #[(.long j0), (.int k0)] maxLocals)) t_ := fun t_ k_ => pre91 t_ (by
        show Steps p.tables e below (T90.setTop (mkF m 74 #[.val (.long j0), .second, .val (.int k0), .val (.long (((((k0.toUInt32 >>> ((2 : Int32) &&& 31).toUInt32).toInt32) % (12 : Int32)) - (2 : Int32)).toInt64)), .second, .val (.int (k0 &&& (3 : Int32))), .val (.long (((((k0.toUInt32 >>> ((2 : Int32) &&& 31).toUInt32).toInt32) % (12 : Int32)) - (2 : Int32)).toInt64)), .second, .val .null, .val .null] [])) _
        refine XS.aload X90.here hx rfl (hb hby at_74) rfl rfl ?_
        show Steps p.tables e below (T90.setTop (mkF m 76 #[.val (.long j0), .second, .val (.int k0), .val (.long (((((k0.toUInt32 >>> ((2 : Int32) &&& 31).toUInt32).toInt32) % (12 : Int32)) - (2 : Int32)).toInt64)), .second, .val (.int (k0 &&& (3 : Int32))), .val (.long (((((k0.toUInt32 >>> ((2 : Int32) &&& 31).toUInt32).toInt32) % (12 : Int32)) - (2 : Int32)).toInt64)), .second, .val .null, .val .null] [.null])) _
        refine XS.ifnullYes X90.here hx rfl (pc0 := 76) (pc' := 93) rfl (hb hby at_76) rfl (by decide) (by decide) ?_
        show Steps p.tables e below (T90.setTop (mkF m 93 #[.val (.long j0), .second, .val (.int k0), .val (.long (((((k0.toUInt32 >>> ((2 : Int32) &&& 31).toUInt32).toInt32) % (12 : Int32)) - (2 : Int32)).toInt64)), .second, .val (.int (k0 &&& (3 : Int32))), .val (.long (((((k0.toUInt32 >>> ((2 : Int32) &&& 31).toUInt32).toInt32) % (12 : Int32)) - (2 : Int32)).toInt64)), .second, .val .null, .val .null] [])) _
        refine XS.iconst X90.here hx rfl (hb hby at_93) ?_
        show Steps p.tables e below (T90.setTop (mkF m 94 #[.val (.long j0), .second, .val (.int k0), .val (.long (((((k0.toUInt32 >>> ((2 : Int32) &&& 31).toUInt32).toInt32) % (12 : Int32)) - (2 : Int32)).toInt64)), .second, .val (.int (k0 &&& (3 : Int32))), .val (.long (((((k0.toUInt32 >>> ((2 : Int32) &&& 31).toUInt32).toInt32) % (12 : Int32)) - (2 : Int32)).toInt64)), .second, .val .null, .val .null] [(.int (1 : Int32))])) _
        exact k_)
      obtain ⟨fs, hr, hrun, hended, hW, hsame⟩ := X90.leave (v := some (.int (1 : Int32))) (fun h => by rw [Bd.returns] at h; cases h)
      refine ⟨_, _, pre108 _ ?_, hrun, hended, _, _, rfl, ?_, ⟨_, rfl⟩, hW, hsame.mono (by decide) (by decide)⟩
      · show Steps p.tables e below (T90.setTop (mkF m 94 #[.val (.long j0), .second, .val (.int k0), .val (.long (((((k0.toUInt32 >>> ((2 : Int32) &&& 31).toUInt32).toInt32) % (12 : Int32)) - (2 : Int32)).toInt64)), .second, .val (.int (k0 &&& (3 : Int32))), .val (.long (((((k0.toUInt32 >>> ((2 : Int32) &&& 31).toUInt32).toInt32) % (12 : Int32)) - (2 : Int32)).toInt64)), .second, .val .null, .val .null] [(.int (1 : Int32))])) _
        exact retN X90 hx (t := .boolean) Bd.returns (by simp) (hb hby at_94) hr
      · show Q_0 Z j0 k0 w_STRING w_HASHED_STRING w_CLASS w_INSTANCE w_ROOTS w_OBJECT_ARRAY w_PRIMITIVE_ARRAY w_LEGACY w_BY_TAG cl_BY_TAG h0 n0 _ T90.heap _
        rw [e90]
        exact ⟨rfl, N90⟩
set_option maxRecDepth 65536 in
set_option maxHeartbeats 40000000 in
theorem comes_1 {Post : Tables → Env → Array Value → State → Outcome → State → Prop} (hpost : ∀ tb e args s v u, (limb_1_1.after args s (.returned v) u = true ∧ limb_1_2.after args s (.returned v) u = true ∧ True) → FrameEnd s (.returned v) u (Jvm.fieldLocs frame_1_writes args s ++ Jvm.arrayLocs frame_1_arrays args s ++ Jvm.staticLocs frame_1_statics s) 0 0 → Post tb e args s (.returned v) u) :
    ArmFor flags0 classFile x code maxLocals ret World_1 tables_1 room_1 Calls_1 rest_1 Pre_1 Post := by
  intro l hfl _ _ p e ha hc hk s m args below hf hA hF happ hP
  obtain ⟨hcalls, hrest, hpre⟩ := hP
  obtain ⟨-, -, -, hnamed, -, -, -, hat⟩ := (Spec.applies_iff hf).mp happ
  obtain ⟨hg, hn⟩ := and_e (Cond.before_iff.mp (show (Jvm.Cond.and given_1 narrow_1).before args s = true from hpre))
  obtain ⟨hcount, hg0⟩ := and_e hg
  obtain ⟨hi0, hg1⟩ := and_e hg0
  obtain ⟨w0, w1, rfl⟩ : ∃ w0 w1 : Value, args = #[w0, w1] := by
    have hs : args.size = 2 := by simpa [Cond.value, given_1] using hcount
    obtain ⟨L⟩ := args
    match L, hs with
    | [w0, w1], _ => exact ⟨w0, w1, rfl⟩
  have hw := fun d (hd : d ∈ tables_1) => atoms_spec (ws := Jvm.Cond.code x code maxLocals ret :: tables_1) hat d (List.mem_cons_of_mem _ hd)
  have hfit : Fit s := fun {y c} hc i hi => by
    obtain ⟨ha, rfl⟩ := Array.getElem?_eq_some_iff.mp hc
    have q := List.all_eq_true.mp ((Array.all_eq_true_iff_forall_mem.mp hF) _ (Array.getElem_mem ha)) i (List.mem_range.mpr hi)
    simpa [Array.getElem?_eq_getElem hi] using q
  obtain ⟨i0, ei0⟩ := isL_v hi0
  obtain rfl : w0 = (.long i0) := Option.some.inj ei0
  obtain ⟨i1, ei1⟩ := is_v hg1
  obtain rfl : w1 = (.int i1) := Option.some.inj ei1
  obtain ⟨g0, hn_0⟩ := and_e hn
  obtain ⟨g1, hn_1⟩ := and_e hn_0
  obtain ⟨g2, hn_2⟩ := and_e hn_1
  obtain ⟨g3, hn_3⟩ := and_e hn_2
  obtain ⟨g4, hn_4⟩ := and_e hn_3
  obtain ⟨g5, hn_5⟩ := and_e hn_4
  obtain ⟨g6, hn_6⟩ := and_e hn_5
  obtain ⟨g7, hn_7⟩ := and_e hn_6
  obtain ⟨g8, hn_8⟩ := and_e hn_7
  obtain ⟨g9, hn_9⟩ := and_e hn_8
  obtain ⟨g10, hn_10⟩ := and_e hn_9
  obtain ⟨g11, hn_11⟩ := and_e hn_10
  obtain ⟨g12, hn_12⟩ := and_e hn_11
  obtain ⟨g13, hn_13⟩ := and_e hn_12
  obtain ⟨g14, hn_14⟩ := and_e hn_13
  obtain ⟨g15, hn_15⟩ := and_e hn_14
  obtain ⟨g16, hn_16⟩ := and_e hn_15
  obtain ⟨g17, hn_17⟩ := and_e hn_16
  obtain ⟨g18, hn_18⟩ := and_e hn_17
  obtain ⟨g19, hn_19⟩ := and_e hn_18
  obtain ⟨g20, hn_20⟩ := and_e hn_19
  obtain ⟨g21, hn_21⟩ := and_e hn_20
  obtain ⟨g22, hn_22⟩ := and_e hn_21
  obtain ⟨g23, hn_23⟩ := and_e hn_22
  obtain ⟨g24, hn_24⟩ := and_e hn_23
  have g25 := hn_24
  obtain ⟨w_CLASS, ev_CLASS, S_CLASS, E_CLASS⟩ := own_sta (hw _ (List.mem_of_getElem? (i := 2) rfl)) (hw _ (List.mem_of_getElem? (i := 6) rfl)) g2
  obtain ⟨w_STRING, ev_STRING, S_STRING, E_STRING⟩ := own_sta (hw _ (List.mem_of_getElem? (i := 2) rfl)) (hw _ (List.mem_of_getElem? (i := 27) rfl)) g5
  obtain ⟨w_ROOTS, ev_ROOTS, S_ROOTS, E_ROOTS⟩ := own_sta (hw _ (List.mem_of_getElem? (i := 2) rfl)) (hw _ (List.mem_of_getElem? (i := 29) rfl)) g8
  obtain ⟨w_HASHED_STRING, ev_HASHED_STRING, S_HASHED_STRING, E_HASHED_STRING⟩ := own_sta (hw _ (List.mem_of_getElem? (i := 2) rfl)) (hw _ (List.mem_of_getElem? (i := 31) rfl)) g11
  obtain ⟨w_PRIMITIVE_ARRAY, ev_PRIMITIVE_ARRAY, S_PRIMITIVE_ARRAY, E_PRIMITIVE_ARRAY⟩ := own_sta (hw _ (List.mem_of_getElem? (i := 2) rfl)) (hw _ (List.mem_of_getElem? (i := 33) rfl)) g14
  obtain ⟨w_OBJECT_ARRAY, ev_OBJECT_ARRAY, S_OBJECT_ARRAY, E_OBJECT_ARRAY⟩ := own_sta (hw _ (List.mem_of_getElem? (i := 2) rfl)) (hw _ (List.mem_of_getElem? (i := 35) rfl)) g17
  obtain ⟨w_LEGACY, ev_LEGACY, S_LEGACY, E_LEGACY⟩ := own_sta (hw _ (List.mem_of_getElem? (i := 2) rfl)) (hw _ (List.mem_of_getElem? (i := 37) rfl)) g20
  obtain ⟨w_INSTANCE, ev_INSTANCE, S_INSTANCE, E_INSTANCE⟩ := own_sta (hw _ (List.mem_of_getElem? (i := 2) rfl)) (hw _ (List.mem_of_getElem? (i := 39) rfl)) g23
  obtain ⟨w_BY_TAG, ev_BY_TAG, S_BY_TAG, cl_BY_TAG, Ar_BY_TAG⟩ := own_staA (hw _ (List.mem_of_getElem? (i := 2) rfl)) (hw _ (List.mem_of_getElem? (i := 5) rfl)) g0
  have Z_BY_TAG : cl_BY_TAG.slots.size = 8 := own_len ev_BY_TAG Ar_BY_TAG g1 (by decide)
  have el_BY_TAG_2 : cl_BY_TAG.slots[2]? = some (.ref w_CLASS) := own_elR ev_BY_TAG Ar_BY_TAG ev_CLASS g3 (k := (2 : Int32)) (by decide)
  have F_CLASS_tag : Fld s s.heap w_CLASS "com/example/heapscribe/heapscribe/Bmd$RecordKind" "tag" "I" (.int (3 : Int32)) := own_fld ev_CLASS g4
  have el_BY_TAG_0 : cl_BY_TAG.slots[0]? = some (.ref w_STRING) := own_elR ev_BY_TAG Ar_BY_TAG ev_STRING g6 (k := (0 : Int32)) (by decide)
  have F_STRING_tag : Fld s s.heap w_STRING "com/example/heapscribe/heapscribe/Bmd$RecordKind" "tag" "I" (.int (1 : Int32)) := own_fld ev_STRING g7
  have el_BY_TAG_4 : cl_BY_TAG.slots[4]? = some (.ref w_ROOTS) := own_elR ev_BY_TAG Ar_BY_TAG ev_ROOTS g9 (k := (4 : Int32)) (by decide)
  have F_ROOTS_tag : Fld s s.heap w_ROOTS "com/example/heapscribe/heapscribe/Bmd$RecordKind" "tag" "I" (.int (5 : Int32)) := own_fld ev_ROOTS g10
  have el_BY_TAG_1 : cl_BY_TAG.slots[1]? = some (.ref w_HASHED_STRING) := own_elR ev_BY_TAG Ar_BY_TAG ev_HASHED_STRING g12 (k := (1 : Int32)) (by decide)
  have F_HASHED_STRING_tag : Fld s s.heap w_HASHED_STRING "com/example/heapscribe/heapscribe/Bmd$RecordKind" "tag" "I" (.int (2 : Int32)) := own_fld ev_HASHED_STRING g13
  have el_BY_TAG_6 : cl_BY_TAG.slots[6]? = some (.ref w_PRIMITIVE_ARRAY) := own_elR ev_BY_TAG Ar_BY_TAG ev_PRIMITIVE_ARRAY g15 (k := (6 : Int32)) (by decide)
  have F_PRIMITIVE_ARRAY_tag : Fld s s.heap w_PRIMITIVE_ARRAY "com/example/heapscribe/heapscribe/Bmd$RecordKind" "tag" "I" (.int (7 : Int32)) := own_fld ev_PRIMITIVE_ARRAY g16
  have el_BY_TAG_5 : cl_BY_TAG.slots[5]? = some (.ref w_OBJECT_ARRAY) := own_elR ev_BY_TAG Ar_BY_TAG ev_OBJECT_ARRAY g18 (k := (5 : Int32)) (by decide)
  have F_OBJECT_ARRAY_tag : Fld s s.heap w_OBJECT_ARRAY "com/example/heapscribe/heapscribe/Bmd$RecordKind" "tag" "I" (.int (6 : Int32)) := own_fld ev_OBJECT_ARRAY g19
  have el_BY_TAG_7 : cl_BY_TAG.slots[7]? = some (.ref w_LEGACY) := own_elR ev_BY_TAG Ar_BY_TAG ev_LEGACY g21 (k := (7 : Int32)) (by decide)
  have F_LEGACY_tag : Fld s s.heap w_LEGACY "com/example/heapscribe/heapscribe/Bmd$RecordKind" "tag" "I" (.int (8 : Int32)) := own_fld ev_LEGACY g22
  have el_BY_TAG_3 : cl_BY_TAG.slots[3]? = some (.ref w_INSTANCE) := own_elR ev_BY_TAG Ar_BY_TAG ev_INSTANCE g24 (k := (3 : Int32)) (by decide)
  have F_INSTANCE_tag : Fld s s.heap w_INSTANCE "com/example/heapscribe/heapscribe/Bmd$RecordKind" "tag" "I" (.int (4 : Int32)) := own_fld ev_INSTANCE g25
  obtain ⟨n, o, h1, h2, h3, _, L, rfl, ⟨rfl, N⟩, hq⟩ := rm_0 l s _ hw tables_1 i0 i1 w_STRING w_HASHED_STRING w_CLASS w_INSTANCE w_ROOTS w_OBJECT_ARRAY w_PRIMITIVE_ARRAY w_LEGACY w_BY_TAG cl_BY_TAG s.heap s.heap.size (Nat.le_refl _) S_STRING S_HASHED_STRING S_CLASS S_INSTANCE S_ROOTS S_OBJECT_ARRAY S_PRIMITIVE_ARRAY S_LEGACY S_BY_TAG Ar_BY_TAG Z_BY_TAG (own_tab w_STRING w_HASHED_STRING w_CLASS w_INSTANCE w_ROOTS w_OBJECT_ARRAY w_PRIMITIVE_ARRAY w_LEGACY el_BY_TAG_0 el_BY_TAG_1 el_BY_TAG_2 el_BY_TAG_3 el_BY_TAG_4 el_BY_TAG_5 el_BY_TAG_6 el_BY_TAG_7) E_STRING E_HASHED_STRING E_CLASS E_INSTANCE E_ROOTS E_OBJECT_ARRAY E_PRIMITIVE_ARRAY E_LEGACY F_STRING_tag F_HASHED_STRING_tag F_CLASS_tag F_INSTANCE_tag F_ROOTS_tag F_OBJECT_ARRAY_tag F_PRIMITIVE_ARRAY_tag F_LEGACY_tag p e ha hc hk s m _ below hf ((Spec.applies_iff_loose hf).mp happ).1 ⟨rfl, State.Warmed39.refl s, rfl⟩ trivial
  refine ⟨n, _, h1, h2, h3, hpost _ _ _ _ _ _ ⟨Cond.after_iff.mpr rfl, Cond.after_iff.mpr (eq_i res_at (Term.int_eval (1)) rfl), trivial⟩ ⟨hq.1, hq.2.1, (hq.2.2.sift fun y hy => Or.inr (N y hy)).mono (by decide) (by decide)⟩⟩
theorem main_1_1 : Claimed_1_1 := comes_1 fun _ _ _ _ _ _ h hF => ⟨h.1, hF⟩
theorem main_1_2 : Claimed_1_2 := comes_1 fun _ _ _ _ _ _ h hF => ⟨h.2.1, hF⟩
end Jvm.Pilot.@@N@@
namespace Jvm.Pilot.@@N@@
open Jvm Jvm.ClassFile Sem Op Lib Jvm.Free Jvm.Stand Jvm.Pilot.@@N@@.Jvm.D
/-! MADE BY PROGRAM (witnessworld.py) out of the Statement's table words and the real class files: 13 classes; the members and pool entries that the words name. The judged class is class 1, her method 2. -/
namespace start1
open Jvm.ClassFile
def u (s : String) : CpInfo := .utf8 (stringToUtf16 s)
/-- a pool by its gaps: so many unusable entries, then the entry; so many at the end -/
def gap : Nat → List CpInfo → List CpInfo
  | 0, r => r
  | n + 1, r => .unusable :: gap n r
def poolList (es : List (Nat × CpInfo)) (last : Nat) : List CpInfo := es.foldr (fun e r => gap e.1 (e.2 :: r)) (gap last [])
def pool (es : List (Nat × CpInfo)) (last : Nat) : Array CpInfo := ⟨poolList es last⟩
def fileOf (pool : Array CpInfo) (this : Nat) (attrs : Array Attribute := #[]) (ms : Array MethodInfo := #[]) (fl : Nat := 33) (sup : Nat := 0) (ifs : Array Nat := #[]) (fds : Array FieldInfo := #[]) : ClassFile where
  minorVersion := 0
  majorVersion := 65
  constantPool := pool
  accessFlags := fl
  thisClass := this
  superClass := sup
  interfaces := ifs
  fields := fds
  methods := ms
  attributes := attrs
def plain (name : String) (sup : Option ClassId) : Class where
  name := name
  kind := .ordinary
  loader := none
  accessFlags := 33
  super := sup
  interfaces := #[]
  cf := none
  fields := #[]
  methods := #[]
  instanceTypes := #[]
  staticTypes := #[]
  resolved := #[]
  callSites := []
  init := .initialized
  statics := none
  mirror := none

def pool0 : Array CpInfo := pool [(5, u "<init>"), (0, u "()V"), (1, .class_ 10), (1, u "java/lang/Object")] 113

def k0m0 : Method := { name := "<init>", desc := "()V", sig := { parameters := [], returnType := none }, accessFlags := 1, code := none }
/-- java/lang/Object -/
def k0 : Class := { plain "java/lang/Object" none with
  accessFlags := 33
  interfaces := #[]
  cf := some (fileOf pool0 8 #[] #[{ accessFlags := 1, nameIndex := 5, descriptorIndex := 6, attributes := #[] }] 33 0 #[] #[])
  fields := #[]
  methods := #[k0m0]
  instanceTypes := #[]
  staticTypes := #[]
  resolved := Array.replicate 124 none
  statics := none }

def pool1 : Array CpInfo := pool [(2, .class_ 4), (1, u "java/lang/Object"), (0, u "<init>"), (0, u "()V"), (0, .fieldref 8 9), (0, .class_ 10), (0, .nameAndType 11 12), (0, u "com/example/heapscribe/heapscribe/Bmd$RecordKind"), (0, u "STRING"), (0, u "Lcom/example/heapscribe/heapscribe/Bmd$RecordKind;"), (0, .long 2), (1, .fieldref 8 16), (0, .nameAndType 17 12), (0, u "HASHED_STRING"), (0, .long 3), (1, .fieldref 8 21), (0, .nameAndType 22 12), (0, u "CLASS"), (0, .long 4), (1, .fieldref 8 26), (0, .nameAndType 27 12), (0, u "INSTANCE"), (0, .long 5), (1, .fieldref 8 31), (0, .nameAndType 32 12), (0, u "ROOTS"), (0, .long 6), (1, .fieldref 8 36), (0, .nameAndType 37 12), (0, u "OBJECT_ARRAY"), (0, .long 7), (1, .fieldref 8 41), (0, .nameAndType 42 12), (0, u "PRIMITIVE_ARRAY"), (0, .long 8), (1, .fieldref 8 46), (0, .nameAndType 47 12), (0, u "LEGACY"), (0, .long 4294967295), (1, .methodref 8 51), (0, .nameAndType 52 53), (0, u "of"), (0, u "(J)Lcom/example/heapscribe/heapscribe/Bmd$RecordKind;"), (0, .methodref 55 56), (0, .class_ 57), (0, .nameAndType 58 53), (0, u "com/example/heapscribe/heapscribe/RecordKindOfPinLaw"), (0, u "expected"), (0, .methodref 8 60), (0, .nameAndType 61 62), (0, u "tag"), (0, u "()I"), (3, u "law"), (0, u "(JI)Z")] 6

def k1m0 : Method := { name := "<init>", desc := "()V", sig := { parameters := [], returnType := none }, accessFlags := 2, code := none }
def k1c1 : Code := { maxStack := 4, maxLocals := 2, code := method_2_code, exceptionTable := #[], attributes := #[] }
def k1m1 : Method := { name := "expected", desc := "(J)Lcom/example/heapscribe/heapscribe/Bmd$RecordKind;", sig := { parameters := [.long], returnType := some (.object "com/example/heapscribe/heapscribe/Bmd$RecordKind") }, accessFlags := 10, code := some k1c1 }
def k1c2 : Code := { maxStack := 6, maxLocals := 10, code := code, exceptionTable := #[], attributes := #[] }
def k1m2 : Method := { name := "law", desc := "(JI)Z", sig := { parameters := [.long, .int], returnType := some .boolean }, accessFlags := 9, code := some k1c2 }
/-- com/example/heapscribe/heapscribe/RecordKindOfPinLaw -/
def k1 : Class := { plain "com/example/heapscribe/heapscribe/RecordKindOfPinLaw" (some 0) with
  accessFlags := 49
  interfaces := #[]
  cf := some (fileOf pool1 55 #[] #[{ accessFlags := 2, nameIndex := 5, descriptorIndex := 6, attributes := #[] }, { accessFlags := 10, nameIndex := 58, descriptorIndex := 53, attributes := #[] }, { accessFlags := 9, nameIndex := 66, descriptorIndex := 67, attributes := #[] }] 49 2 #[] #[])
  fields := #[]
  methods := #[k1m0, k1m1, k1m2]
  instanceTypes := #[]
  staticTypes := #[]
  resolved := Array.replicate 74 none
  statics := none }

def pool2 : Array CpInfo := pool [(1, .class_ 2), (0, u "java/lang/constant/Constable"), (0, .class_ 4), (0, u "java/lang/Object")] 6

/-- java/lang/constant/Constable -/
def k2 : Class := { plain "java/lang/constant/Constable" (some 0) with
  accessFlags := 1537
  interfaces := #[]
  cf := some (fileOf pool2 1 #[] #[] 1537 3 #[] #[])
  fields := #[]
  methods := #[]
  instanceTypes := #[]
  staticTypes := #[]
  resolved := Array.replicate 11 none
  statics := none }

def pool3 : Array CpInfo := pool [(1, .class_ 2), (0, u "java/lang/Comparable"), (0, .class_ 4), (0, u "java/lang/Object")] 7

/-- java/lang/Comparable -/
def k3 : Class := { plain "java/lang/Comparable" (some 0) with
  accessFlags := 1537
  interfaces := #[]
  cf := some (fileOf pool3 1 #[] #[] 1537 3 #[] #[])
  fields := #[]
  methods := #[]
  instanceTypes := #[]
  staticTypes := #[]
  resolved := Array.replicate 12 none
  statics := none }

def pool4 : Array CpInfo := pool [(1, .class_ 2), (0, u "java/io/Serializable"), (0, .class_ 4), (0, u "java/lang/Object")] 2

/-- java/io/Serializable -/
def k4 : Class := { plain "java/io/Serializable" (some 0) with
  accessFlags := 1537
  interfaces := #[]
  cf := some (fileOf pool4 1 #[] #[] 1537 3 #[] #[])
  fields := #[]
  methods := #[]
  instanceTypes := #[]
  staticTypes := #[]
  resolved := Array.replicate 7 none
  statics := none }

def pool5 : Array CpInfo := pool [(2, .class_ 4), (1, u "java/lang/Enum"), (0, u "name"), (0, u "Ljava/lang/String;"), (2, u "ordinal"), (0, u "I"), (1, .class_ 14), (1, u "java/lang/Object"), (4, u "hash"), (86, .class_ 108), (1, u "java/lang/Enum$EnumDesc"), (2, .class_ 112), (0, u "java/lang/constant/Constable"), (0, .class_ 114), (0, u "java/lang/Comparable"), (0, .class_ 116), (0, u "java/io/Serializable")] 87

/-- java/lang/Enum -/
def k5 : Class := { plain "java/lang/Enum" (some 0) with
  accessFlags := 1057
  interfaces := #[2, 3, 4]
  cf := some (fileOf pool5 2 #[.nestMembers #[106]] #[] 1057 12 #[111, 113, 115] #[{ accessFlags := 18, nameIndex := 5, descriptorIndex := 6, attributes := #[] }, { accessFlags := 18, nameIndex := 9, descriptorIndex := 10, attributes := #[] }, { accessFlags := 2, nameIndex := 19, descriptorIndex := 10, attributes := #[] }])
  fields := #[{ name := "name", type := (.object "java/lang/String"), accessFlags := 18, slot := 0, constantValue := 0 }, { name := "ordinal", type := .int, accessFlags := 18, slot := 1, constantValue := 0 }, { name := "hash", type := .int, accessFlags := 2, slot := 2, constantValue := 0 }]
  methods := #[]
  instanceTypes := #[(.object "java/lang/String"), .int, .int]
  staticTypes := #[]
  resolved := Array.replicate 204 none
  statics := none }

def pool6 : Array CpInfo := pool [(1, .class_ 2), (0, u "com/example/heapscribe/heapscribe/Bmd$RecordKind"), (2, u "STRING"), (0, u "Lcom/example/heapscribe/heapscribe/Bmd$RecordKind;"), (2, u "HASHED_STRING"), (2, u "CLASS"), (2, u "INSTANCE"), (2, u "ROOTS"), (2, u "OBJECT_ARRAY"), (2, u "PRIMITIVE_ARRAY"), (2, u "LEGACY"), (2, u "$VALUES"), (0, u "[Lcom/example/heapscribe/heapscribe/Bmd$RecordKind;"), (6, .class_ 40), (1, u "java/lang/Enum"), (6, .fieldref 1 48), (0, .nameAndType 49 50), (0, u "tag"), (0, u "I"), (2, u "label"), (0, u "Ljava/lang/String;"), (0, .fieldref 1 56), (0, .nameAndType 57 31), (0, u "BY_TAG"), (30, u "()I"), (1, u "of"), (0, u "(J)Lcom/example/heapscribe/heapscribe/Bmd$RecordKind;"), (7, .class_ 100), (0, u "com/example/heapscribe/heapscribe/Bmd")] 2

def k6c0 : Code := { maxStack := 1, maxLocals := 1, code := prog_2_method_4_code, exceptionTable := #[], attributes := #[] }
def k6m0 : Method := { name := "tag", desc := "()I", sig := { parameters := [], returnType := some .int }, accessFlags := 1, code := some k6c0 }
def k6c1 : Code := { maxStack := 4, maxLocals := 2, code := prog_2_method_6_code, exceptionTable := #[], attributes := #[] }
def k6m1 : Method := { name := "of", desc := "(J)Lcom/example/heapscribe/heapscribe/Bmd$RecordKind;", sig := { parameters := [.long], returnType := some (.object "com/example/heapscribe/heapscribe/Bmd$RecordKind") }, accessFlags := 9, code := some k6c1 }
/-- com/example/heapscribe/heapscribe/Bmd$RecordKind -/
def k6 : Class := { plain "com/example/heapscribe/heapscribe/Bmd$RecordKind" (some 5) with
  accessFlags := 16433
  interfaces := #[]
  cf := some (fileOf pool6 1 #[.nestHost 99] #[{ accessFlags := 1, nameIndex := 49, descriptorIndex := 88, attributes := #[] }, { accessFlags := 9, nameIndex := 90, descriptorIndex := 91, attributes := #[] }] 16433 38 #[] #[{ accessFlags := 16409, nameIndex := 5, descriptorIndex := 6, attributes := #[] }, { accessFlags := 16409, nameIndex := 9, descriptorIndex := 6, attributes := #[] }, { accessFlags := 16409, nameIndex := 12, descriptorIndex := 6, attributes := #[] }, { accessFlags := 16409, nameIndex := 15, descriptorIndex := 6, attributes := #[] }, { accessFlags := 16409, nameIndex := 18, descriptorIndex := 6, attributes := #[] }, { accessFlags := 16409, nameIndex := 21, descriptorIndex := 6, attributes := #[] }, { accessFlags := 16409, nameIndex := 24, descriptorIndex := 6, attributes := #[] }, { accessFlags := 16409, nameIndex := 27, descriptorIndex := 6, attributes := #[] }, { accessFlags := 26, nameIndex := 57, descriptorIndex := 31, attributes := #[] }, { accessFlags := 18, nameIndex := 49, descriptorIndex := 50, attributes := #[] }, { accessFlags := 18, nameIndex := 53, descriptorIndex := 54, attributes := #[] }, { accessFlags := 4122, nameIndex := 30, descriptorIndex := 31, attributes := #[] }])
  fields := #[{ name := "STRING", type := (.object "com/example/heapscribe/heapscribe/Bmd$RecordKind"), accessFlags := 16409, slot := 0, constantValue := 0 }, { name := "HASHED_STRING", type := (.object "com/example/heapscribe/heapscribe/Bmd$RecordKind"), accessFlags := 16409, slot := 1, constantValue := 0 }, { name := "CLASS", type := (.object "com/example/heapscribe/heapscribe/Bmd$RecordKind"), accessFlags := 16409, slot := 2, constantValue := 0 }, { name := "INSTANCE", type := (.object "com/example/heapscribe/heapscribe/Bmd$RecordKind"), accessFlags := 16409, slot := 3, constantValue := 0 }, { name := "ROOTS", type := (.object "com/example/heapscribe/heapscribe/Bmd$RecordKind"), accessFlags := 16409, slot := 4, constantValue := 0 }, { name := "OBJECT_ARRAY", type := (.object "com/example/heapscribe/heapscribe/Bmd$RecordKind"), accessFlags := 16409, slot := 5, constantValue := 0 }, { name := "PRIMITIVE_ARRAY", type := (.object "com/example/heapscribe/heapscribe/Bmd$RecordKind"), accessFlags := 16409, slot := 6, constantValue := 0 }, { name := "LEGACY", type := (.object "com/example/heapscribe/heapscribe/Bmd$RecordKind"), accessFlags := 16409, slot := 7, constantValue := 0 }, { name := "BY_TAG", type := (.array (.object "com/example/heapscribe/heapscribe/Bmd$RecordKind")), accessFlags := 26, slot := 8, constantValue := 0 }, { name := "tag", type := .int, accessFlags := 18, slot := 3, constantValue := 0 }, { name := "label", type := (.object "java/lang/String"), accessFlags := 18, slot := 4, constantValue := 0 }, { name := "$VALUES", type := (.array (.object "com/example/heapscribe/heapscribe/Bmd$RecordKind")), accessFlags := 4122, slot := 9, constantValue := 0 }]
  methods := #[k6m0, k6m1]
  instanceTypes := #[(.object "java/lang/String"), .int, .int, .int, (.object "java/lang/String")]
  staticTypes := #[(.object "com/example/heapscribe/heapscribe/Bmd$RecordKind"), (.object "com/example/heapscribe/heapscribe/Bmd$RecordKind"), (.object "com/example/heapscribe/heapscribe/Bmd$RecordKind"), (.object "com/example/heapscribe/heapscribe/Bmd$RecordKind"), (.object "com/example/heapscribe/heapscribe/Bmd$RecordKind"), (.object "com/example/heapscribe/heapscribe/Bmd$RecordKind"), (.object "com/example/heapscribe/heapscribe/Bmd$RecordKind"), (.object "com/example/heapscribe/heapscribe/Bmd$RecordKind"), (.array (.object "com/example/heapscribe/heapscribe/Bmd$RecordKind")), (.array (.object "com/example/heapscribe/heapscribe/Bmd$RecordKind"))]
  resolved := Array.replicate 103 none
  statics := some 0 }

def pool7 : Array CpInfo := pool [(1, u "java/lang/Cloneable"), (0, .class_ 1), (0, u "java/lang/Object"), (0, .class_ 3)] 3

/-- java/lang/Cloneable -/
def k7 : Class := { plain "java/lang/Cloneable" (some 0) with
  accessFlags := 1537
  interfaces := #[]
  cf := some (fileOf pool7 2 #[] #[] 1537 4 #[] #[])
  fields := #[]
  methods := #[]
  instanceTypes := #[]
  staticTypes := #[]
  resolved := Array.replicate 8 none
  statics := none }

/-- the primitive byte -/
def k8 : Class := { plain "byte" none with kind := .primitive 'B', accessFlags := 0x411 }
/-- [B -/
def k9 : Class := { plain "[B" (some 0) with kind := .array 8 .byte, interfaces := #[7, 4], accessFlags := 1041 }

/-- the primitive int -/
def k10 : Class := { plain "int" none with kind := .primitive 'I', accessFlags := 0x411 }
/-- [I -/
def k11 : Class := { plain "[I" (some 0) with kind := .array 10 .int, interfaces := #[7, 4], accessFlags := 1041 }

/-- [Lcom/example/heapscribe/heapscribe/Bmd$RecordKind; -/
def k12 : Class := { plain "[Lcom/example/heapscribe/heapscribe/Bmd$RecordKind;" (some 0) with kind := .array 6 (.object "com/example/heapscribe/heapscribe/Bmd$RecordKind"), interfaces := #[7, 4], accessFlags := 1041 }

def heap : Heap := #[{ cls := 6, slots := #[.ref 3, .ref 5, .ref 2, .ref 9, .ref 4, .ref 7, .ref 6, .ref 8, .ref 1, .null], vm := .statics 6 },
  { cls := 12, slots := #[.ref 3, .ref 5, .ref 2, .ref 9, .ref 4, .ref 7, .ref 6, .ref 8], vm := .none },
  { cls := 6, slots := #[.null, .int 0, .int 0, .int 3, .null], vm := .none },
  { cls := 6, slots := #[.null, .int 0, .int 0, .int 1, .null], vm := .none },
  { cls := 6, slots := #[.null, .int 0, .int 0, .int 5, .null], vm := .none },
  { cls := 6, slots := #[.null, .int 0, .int 0, .int 2, .null], vm := .none },
  { cls := 6, slots := #[.null, .int 0, .int 0, .int 7, .null], vm := .none },
  { cls := 6, slots := #[.null, .int 0, .int 0, .int 6, .null], vm := .none },
  { cls := 6, slots := #[.null, .int 0, .int 0, .int 8, .null], vm := .none },
  { cls := 6, slots := #[.null, .int 0, .int 0, .int 4, .null], vm := .none }]
def classes : Array Class := #[k0, k1, k2, k3, k4, k5, k6, k7, k8, k9, k10, k11, k12]
def interned : List (Array UInt16 × Addr) := []
def slotsUsed : Nat := 58
def theMethod : MethodId := ⟨1, 2⟩
def args0 : Array Value := #[.long 5, .int 5]
def aboutOver (below : List Frame) : State where
  vm := { classes := classes, interned := interned.toArray }
  heap := heap
  slotsUsed := slotsUsed
  threads := #[{ frames := .invoking theMethod args0 :: below }]
def below0 : List Frame := [.native { method := ⟨0, 0⟩, args := #[] }]
def about1 : State := aboutOver below0
def p0 : Program := .bare "" "" ""
def e0 : Env := launch0.env 0 0 0
theorem w_frames : about1.frames = Frame.invoking theMethod args0 :: below0 := rfl
set_option maxRecDepth 65536 in
theorem w_args : argsFit about1.vm theMethod args0 = true := by decide +kernel
set_option maxRecDepth 65536 in
theorem w_heap : heapFits about1 = true := by decide +kernel
set_option maxRecDepth 65536 in
theorem w_runnable : about1.curStatus? = some .runnable := by decide +kernel
set_option maxRecDepth 65536 in
theorem w_alone : about1.alone = true := by decide +kernel
set_option maxRecDepth 65536 in
theorem w_named : about1.methodNamed? x = some theMethod := by decide +kernel
set_option maxRecDepth 65536 in
theorem w_hears : about1.hears theMethod below0 = true := by decide +kernel
set_option maxRecDepth 65536 in
theorem w_ripe : about1.ripe theMethod args0 below0 = true := by decide +kernel
theorem w_running : about1.status = .running := rfl
set_option maxRecDepth 65536 in
theorem w_room : about1.hasRoom e0.platform room_1 = true :=
  launch0.hasRoom_least _ room_1 (by decide +kernel) (by decide +kernel) (by decide +kernel) (by decide +kernel) (by decide +kernel) (by decide +kernel)
theorem allAtoms_all (ts : List Jvm.Cond) (a : Array Jvm.Value) (st : Jvm.State) : (allAtoms ts).before a st = ts.all (fun c => c.before a st) := by
  induction ts with
  | nil => rfl
  | cons c t ih =>
    show (Jvm.Cond.and c (allAtoms t)).before a st = _
    rw [Jvm.Cond.before_and, ih, List.all_cons]
def words1 : List Jvm.Cond := Jvm.Cond.code x code maxLocals ret :: tables_1
/-- a 'code' word, met by the world's own term for the bytes: nothing is compared byte by byte -/
theorem code_word {y : MethodName} {bytes : ByteArray} {mx : Nat} {rt : Option FieldType} {a : Array Value} {s : State} {m : MethodId} {meth : Method} {c : Code} (h1 : s.methodNamed? y = some m) (h2 : s.vm.method? m = some meth) (h3 : meth.code = some c) (h4 : c.code = bytes)
    (h5 : (c.maxLocals == mx && c.exceptionTable.isEmpty && decide (c.maxStack ≤ mostOperands) && decide (meth.sig.returnType = rt) && !meth.locks && decide (parseMethodDescriptor y.desc = some meth.sig)) = true) : (Jvm.Cond.code y bytes mx rt).before a s = true := by
  simp only [Bool.and_eq_true, beq_iff_eq, Bool.not_eq_true', decide_eq_true_eq] at h5
  obtain ⟨⟨⟨⟨⟨g1, g2⟩, g3⟩, g4⟩, g5⟩, g6⟩ := h5
  simp [Cond.before, Cond.holds, Cond.value, h1, h2, h3, h4, g1, g2, g3, g4, g5, g6]
def isCode : Jvm.Cond → Bool
  | .code _ _ _ _ => true
  | _ => false
theorem all_split {L : List Jvm.Cond} {P : Jvm.Cond → Bool} (h1 : L.all (fun c => isCode c || P c) = true) (h2 : ∀ c ∈ L.filter isCode, P c = true) : L.all P = true := by
  refine List.all_eq_true.mpr fun c hc => ?_
  have h := List.all_eq_true.mp h1 c hc
  rcases Bool.eq_false_or_eq_true (isCode c) with hi | hi
  · exact h2 c (List.mem_filter.mpr ⟨hc, hi⟩)
  · simpa [hi] using h
set_option maxRecDepth 65536 in
theorem w_c0 : (Jvm.Cond.code x code maxLocals ret).before args0 about1 = true := code_word (m := ⟨1, 2⟩) (meth := k1m2) (c := k1c2) (by decide +kernel) rfl rfl rfl (by decide +kernel)
set_option maxRecDepth 65536 in
theorem w_c1 : (Jvm.Cond.code ({ cls := "com/example/heapscribe/heapscribe/Bmd$RecordKind", name := "of", desc := "(J)Lcom/example/heapscribe/heapscribe/Bmd$RecordKind;" } : Jvm.MethodName) prog_2_method_6_code (2 : Nat) (Option.some (Jvm.ClassFile.FieldType.object "com/example/heapscribe/heapscribe/Bmd$RecordKind"))).before args0 about1 = true := code_word (m := ⟨6, 1⟩) (meth := k6m1) (c := k6c1) (by decide +kernel) rfl rfl rfl (by decide +kernel)
set_option maxRecDepth 65536 in
theorem w_c2 : (Jvm.Cond.code ({ cls := "com/example/heapscribe/heapscribe/RecordKindOfPinLaw", name := "expected", desc := "(J)Lcom/example/heapscribe/heapscribe/Bmd$RecordKind;" } : Jvm.MethodName) method_2_code (2 : Nat) (Option.some (Jvm.ClassFile.FieldType.object "com/example/heapscribe/heapscribe/Bmd$RecordKind"))).before args0 about1 = true := code_word (m := ⟨1, 1⟩) (meth := k1m1) (c := k1c1) (by decide +kernel) rfl rfl rfl (by decide +kernel)
set_option maxRecDepth 65536 in
theorem w_c3 : (Jvm.Cond.code ({ cls := "com/example/heapscribe/heapscribe/Bmd$RecordKind", name := "tag", desc := "()I" } : Jvm.MethodName) prog_2_method_4_code (1 : Nat) (Option.some Jvm.ClassFile.FieldType.int)).before args0 about1 = true := code_word (m := ⟨6, 0⟩) (meth := k6m0) (c := k6c0) (by decide +kernel) rfl rfl rfl (by decide +kernel)
def codes1 : List Jvm.Cond := [Jvm.Cond.code x code maxLocals ret, Jvm.Cond.code ({ cls := "com/example/heapscribe/heapscribe/Bmd$RecordKind", name := "of", desc := "(J)Lcom/example/heapscribe/heapscribe/Bmd$RecordKind;" } : Jvm.MethodName) prog_2_method_6_code (2 : Nat) (Option.some (Jvm.ClassFile.FieldType.object "com/example/heapscribe/heapscribe/Bmd$RecordKind")), Jvm.Cond.code ({ cls := "com/example/heapscribe/heapscribe/RecordKindOfPinLaw", name := "expected", desc := "(J)Lcom/example/heapscribe/heapscribe/Bmd$RecordKind;" } : Jvm.MethodName) method_2_code (2 : Nat) (Option.some (Jvm.ClassFile.FieldType.object "com/example/heapscribe/heapscribe/Bmd$RecordKind")), Jvm.Cond.code ({ cls := "com/example/heapscribe/heapscribe/Bmd$RecordKind", name := "tag", desc := "()I" } : Jvm.MethodName) prog_2_method_4_code (1 : Nat) (Option.some Jvm.ClassFile.FieldType.int)]
set_option maxRecDepth 65536 in
theorem codes_eq : words1.filter isCode = codes1 := rfl
theorem w_codes : ∀ c ∈ words1.filter isCode, c.before args0 about1 = true := by
  rw [codes_eq]
  intro c hc
  simp only [codes1, List.mem_cons, List.not_mem_nil, or_false] at hc
  rcases hc with rfl | rfl | rfl | rfl
  · exact w_c0
  · exact w_c1
  · exact w_c2
  · exact w_c3
set_option maxRecDepth 65536 in
theorem w_t1 : (words1.take 24).all (fun c => isCode c || c.before args0 about1) = true := by decide +kernel
set_option maxRecDepth 65536 in
theorem w_t2 : (words1.drop 24).all (fun c => isCode c || c.before args0 about1) = true := by decide +kernel
theorem w_tables : (allAtoms (Jvm.Cond.code x code maxLocals ret :: tables_1)).before args0 about1 = true := by
  rw [allAtoms_all]
  show words1.all (fun c => c.before args0 about1) = true
  refine all_split ?_ w_codes
  rw [← List.take_append_drop 24 words1, List.all_append, w_t1, w_t2]
  rfl
set_option maxRecDepth 65536 in
theorem w_case : (Jvm.Cond.and given_1 narrow_1).before args0 about1 = true := by decide +kernel
theorem w_applies : (headSpec (Jvm.Cond.code x code maxLocals ret :: tables_1) room_1).applies x e0.platform about1 = true :=
  (Spec.applies_iff w_frames).mpr ⟨w_running, w_runnable, w_alone, w_named, w_hears, w_ripe, w_room, w_tables⟩
theorem atStart : AtStart classFile x code maxLocals ret World_1 tables_1 room_1 Calls_1 rest_1 Pre_1 launch0 p0 e0 about1 theMethod args0 below0 :=
  ⟨lists_1, trivial, launch0.admits_env _ _ _, launch0.least_env, fairChoices_fair.cas, fairChoices_fair.clock, w_frames, w_args, w_heap, w_applies, trivial, trivial, w_case⟩
end start1
theorem witness_1 : WitnessClaimed_1 := ⟨start1.p0, start1.e0, start1.about1, start1.theMethod, start1.args0, start1.below0, start1.atStart⟩
end Jvm.Pilot.@@N@@
