import JvmDerived
import JvmDerived.Pilot.@@N@@Statement
import JvmDerived.Pilot.@@N@@Code
set_option linter.unusedVariables false
set_option linter.unusedSimpArgs false
namespace Jvm.RoadKit
open Sem ClassFile Op Lib Jvm.Stand Jvm.Free Jvm.LawKit
section New
variable {p : Program} {l : Launch} {e : Env} {R : Room} {s : State} {m : MethodId} {args : Array Value} {below : List Frame} {meth : Method} {c : Code} {T : State} {locs : List Loc} {cells slots : Nat}
theorem retI (X : Stand p l e R s m args below meth c T locs cells slots) (hx : p.tables.exec = Jvm.exec) {pc : Nat} {Ls : Array Slot} {z : Int32} {rest : List Value} (hret : meth.sig.returnType = some .int) (hd : decode c.code pc = .ok (.ireturn, 1)) {fs : List Frame}
    (hl : ∀ (f : JFrame) (acts : List Action), f.method = m → f.locked = none → f.entered = [] → (doReturn e (T.setTop f) acts (some (.int z))).1 = T.setFrames fs) : Steps p.tables e below (T.setTop (mkF m pc Ls (.int z :: rest))) (T.setFrames fs) := by
  have hm' : T.vm.method? m = some meth := X.method'
  have hn : narrow .int (.int z) = .int z := rfl
  show Steps p.tables e below (T.setTop { method := m, pc := pc, locals := Ls, stack := _ :: rest, locked := none }) _
  jvm_step X.here [X.here.top, hx, hd, hm', hret, hn]
  first | (intro acts; rw [hl _ acts rfl rfl rfl]) | rw [hl _ _ rfl rfl rfl]
  exact Steps.refl _
theorem retA (X : Stand p l e R s m args below meth c T locs cells slots) (hx : p.tables.exec = Jvm.exec) {pc : Nat} {Ls : Array Slot} {w : Value} {t : FieldType} {rest : List Value} (hret : meth.sig.returnType = some t) (ht : t.isReference = true) (hw : w.isRef = true) (hn : narrow t w = w) (hd : decode c.code pc = .ok (.areturn, 1)) {fs : List Frame}
    (hl : ∀ (f : JFrame) (acts : List Action), f.method = m → f.locked = none → f.entered = [] → (doReturn e (T.setTop f) acts (some w)).1 = T.setFrames fs) : Steps p.tables e below (T.setTop (mkF m pc Ls (w :: rest))) (T.setFrames fs) :=
  retOut X hx hret hn (Or.inr (Or.inr (Or.inr (Or.inr ⟨rfl, ht, hw⟩)))) hd hl
end New
/-- all that was there is there still: a write to a cell above -/
theorem own_ext_wr {h0 h h' : Heap} {a : Addr} {sl : Nat} {v : Value} (E : Ext h0 h) (W : Wr h h' a sl v) (q : h0.size ≤ a) : Ext h0 h' := by
  refine ⟨Nat.le_trans E.1 (Keep.of_wr W).1, fun x c hc => (Keep.of_wr W).2.1 x c (E.2 x c hc) fun hm => ?_⟩
  cases List.mem_singleton.mp hm
  exact absurd (Array.getElem?_eq_some_iff.mp hc).1 (Nat.not_lt.mpr q)
theorem own_ext_keep {h0 h h' : Heap} {ws : List Addr} (E : Ext h0 h) (K : Keep h h' ws) (q : ∀ x ∈ ws, h0.size ≤ x) : Ext h0 h' :=
  ⟨Nat.le_trans E.1 K.1, fun x c hc => K.2.1 x c (E.2 x c hc) fun hm => absurd (Array.getElem?_eq_some_iff.mp hc).1 (Nat.not_lt.mpr (q x hm))⟩
theorem own_ext_trans {h0 h h' : Heap} (E : Ext h0 h) (E' : Ext h h') : Ext h0 h' := ⟨Nat.le_trans E.1 E'.1, fun x c hc => E'.2 x c (E.2 x c hc)⟩
theorem own_ext_refl (h : Heap) : Ext h h := ⟨Nat.le_refl _, fun _ _ q => q⟩
/-- a static that holds an object of this very class -/
theorem own_sta {Z : State} {a0 : Array Value} {C n d K : String} (wi : (Cond.initialized C).before a0 Z = true) (wl : (Cond.laysStatic C n d).before a0 Z = true) (hx : (Cond.exactly (.static C n d) K).value a0 Z none Z [] = some true) :
    ∃ w, (Term.static C n d).eval a0 Z none [] Z = some (.ref w) ∧ Sta Z Z.heap C n d (.ref w) ∧ Exa Z Z.heap w K := by
  obtain ⟨w, ev⟩ := exa_v hx
  exact ⟨w, ev, Sta.start ev (Or.inr ⟨wi, wl⟩), Exa.start ev hx⟩
/-- a field of an object that a term names, by an 'eq' of ints -/
theorem own_fld {Z : State} {a0 : Array Value} {t : Term} {w : Addr} {C n d : String} {k : Int32} (ev : t.eval a0 Z none [] Z = some (.ref w)) (h : (Cond.eq (.field t C n d) (.int k)).value a0 Z none Z [] = some true) : Fld Z Z.heap w C n d (.int k) :=
  Fld.start ((fld_at ev).symm.trans (eqv_i (F := .int k) rfl h))
end Jvm.RoadKit
namespace Jvm.RoadKit
open Sem ClassFile Op Lib Jvm.Stand Jvm.Free Jvm.LawKit
theorem own_fldR {Z : State} {a0 : Array Value} {t u : Term} {w w' : Addr} {C n d : String} (ev : t.eval a0 Z none [] Z = some (.ref w)) (eu : u.eval a0 Z none [] Z = some (.ref w')) (h : (Cond.eq (.field t C n d) u).value a0 Z none Z [] = some true) : Fld Z Z.heap w C n d (.ref w') := by
  refine Fld.start ((fld_at ev).symm.trans ?_)
  obtain ⟨x, y, hx, hy, -, -⟩ := cmp_v (Or.inl h)
  cases eu.symm.trans hy
  simp only [Cond.value, hx, hy] at h
  cases x <;> simp at h
  rw [hx, h]
theorem own_staA {Z : State} {a0 : Array Value} {C n d : String} {ty : FieldType} (wi : (Cond.initialized C).before a0 Z = true) (wl : (Cond.laysStatic C n d).before a0 Z = true) (hx : (Cond.arrayOf (.static C n d) ty).value a0 Z none Z [] = some true) :
    ∃ w, (Term.static C n d).eval a0 Z none [] Z = some (.ref w) ∧ Sta Z Z.heap C n d (.ref w) ∧ ∃ c, Arr Z Z.heap w c ty := by
  obtain ⟨w, ev⟩ := arr_v hx
  exact ⟨w, ev, Sta.start ev (Or.inr ⟨wi, wl⟩), Arr.start ev hx⟩
theorem own_len {Z : State} {a0 : Array Value} {t : Term} {w : Addr} {c : Cell} {ty : FieldType} {k : Int32} {n : Nat} (ev : t.eval a0 Z none [] Z = some (.ref w)) (A : Arr Z Z.heap w c ty) (h : (Cond.eq (.length t) (.int k)).value a0 Z none Z [] = some true) (hk : k.toInt = n) : c.slots.size = n := by
  have e := eqv_i (F := .int k) rfl h
  have ha : Z.arrayAt? w = some c := Arr.fin (Vm.Alike.refl _) A
  simp only [Term.eval, ev, ha, Option.bind_eq_bind, Option.bind_some] at e
  split at e
  · rename_i hl
    have q : c.slots.size.toInt32 = k := by simpa using e
    have q2 := len_toInt hl
    rw [q, hk] at q2
    omega
  · cases e
theorem own_elem {Z : State} {a0 : Array Value} {t : Term} {w : Addr} {c : Cell} {ty : FieldType} {k : Int32} {n : Nat} {v : Value} (ev : t.eval a0 Z none [] Z = some (.ref w)) (A : Arr Z Z.heap w c ty) (h : (Term.elem t (.int k)).eval a0 Z none [] Z = some v) (hk : k.toNatClampNeg = n) : c.slots[n]? = some v := by
  have q := (elem_in h ev (j := k) rfl A.1).2
  rw [hk] at q; exact q
theorem own_elN {Z : State} {a0 : Array Value} {t : Term} {w : Addr} {c : Cell} {ty : FieldType} {k : Int32} {n : Nat} (ev : t.eval a0 Z none [] Z = some (.ref w)) (A : Arr Z Z.heap w c ty) (h : (Cond.eq (.elem t (.int k)) .null).value a0 Z none Z [] = some true) (hk : k.toNatClampNeg = n) : c.slots[n]? = some .null := own_elem ev A (null_v h) hk
theorem own_elI {Z : State} {a0 : Array Value} {t : Term} {w : Addr} {c : Cell} {ty : FieldType} {k i : Int32} {n : Nat} (ev : t.eval a0 Z none [] Z = some (.ref w)) (A : Arr Z Z.heap w c ty) (h : (Cond.eq (.elem t (.int k)) (.int i)).value a0 Z none Z [] = some true) (hk : k.toNatClampNeg = n) : c.slots[n]? = some (.int i) := own_elem ev A (eqv_i (F := .int i) rfl h) hk
theorem own_elR {Z : State} {a0 : Array Value} {t u : Term} {w w' : Addr} {c : Cell} {ty : FieldType} {k : Int32} {n : Nat} (ev : t.eval a0 Z none [] Z = some (.ref w)) (A : Arr Z Z.heap w c ty) (eu : u.eval a0 Z none [] Z = some (.ref w')) (h : (Cond.eq (.elem t (.int k)) u).value a0 Z none Z [] = some true) (hk : k.toNatClampNeg = n) : c.slots[n]? = some (.ref w') := by
  refine own_elem ev A ?_ hk
  obtain ⟨x, y, hx, hy, -, -⟩ := cmp_v (Or.inl h)
  cases eu.symm.trans hy
  simp only [Cond.value, hx, hy] at h
  cases x <;> simp at h
  rw [hx, h]
end Jvm.RoadKit
namespace Jvm.Pilot.@@N@@
open Jvm Jvm.ClassFile Sem Op Lib Jvm.Free Jvm.Stand Jvm.LawKit Jvm.RoadKit Bundle Jvm.Pilot.@@N@@.Jvm.D
def own_of (k : Int32) (w_OBJECT w_BOOLEAN w_CHAR w_FLOAT w_DOUBLE w_BYTE w_SHORT w_INT w_LONG : Addr) : Value := if k = (2 : Int32) then .ref w_OBJECT else if k = (4 : Int32) then .ref w_BOOLEAN else if k = (5 : Int32) then .ref w_CHAR else if k = (6 : Int32) then .ref w_FLOAT else if k = (7 : Int32) then .ref w_DOUBLE else if k = (8 : Int32) then .ref w_BYTE else if k = (9 : Int32) then .ref w_SHORT else if k = (10 : Int32) then .ref w_INT else if k = (11 : Int32) then .ref w_LONG else .null
theorem own_of_ref (k : Int32) (w_OBJECT w_BOOLEAN w_CHAR w_FLOAT w_DOUBLE w_BYTE w_SHORT w_INT w_LONG : Addr) : (own_of k w_OBJECT w_BOOLEAN w_CHAR w_FLOAT w_DOUBLE w_BYTE w_SHORT w_INT w_LONG).isRef = true := by
  unfold own_of
  repeat' split
  all_goals rfl
theorem own_of_out (k : Int32) (w_OBJECT w_BOOLEAN w_CHAR w_FLOAT w_DOUBLE w_BYTE w_SHORT w_INT w_LONG : Addr) (h : k < (0 : Int32) ∨ ¬ k < (12 : Int32)) : own_of k w_OBJECT w_BOOLEAN w_CHAR w_FLOAT w_DOUBLE w_BYTE w_SHORT w_INT w_LONG = .null := by
  unfold own_of
  repeat' split
  all_goals first | rfl | (subst_vars; exact absurd h (by decide))
theorem own_tab {cl : Cell} (w_OBJECT w_BOOLEAN w_CHAR w_FLOAT w_DOUBLE w_BYTE w_SHORT w_INT w_LONG : Addr) (e0 : cl.slots[0]? = some .null) (e1 : cl.slots[1]? = some .null) (e2 : cl.slots[2]? = some (.ref w_OBJECT)) (e3 : cl.slots[3]? = some .null) (e4 : cl.slots[4]? = some (.ref w_BOOLEAN)) (e5 : cl.slots[5]? = some (.ref w_CHAR)) (e6 : cl.slots[6]? = some (.ref w_FLOAT)) (e7 : cl.slots[7]? = some (.ref w_DOUBLE)) (e8 : cl.slots[8]? = some (.ref w_BYTE)) (e9 : cl.slots[9]? = some (.ref w_SHORT)) (e10 : cl.slots[10]? = some (.ref w_INT)) (e11 : cl.slots[11]? = some (.ref w_LONG)) : ∀ j : Int32, ¬ j < (0 : Int32) → j < (12 : Int32) → cl.slots[j.toNatClampNeg]? = some (own_of j w_OBJECT w_BOOLEAN w_CHAR w_FLOAT w_DOUBLE w_BYTE w_SHORT w_INT w_LONG) := by
  intro j h0 h1
  have q := (back32 h0).1
  have hb : j.toNatClampNeg < 12 := by
    have := nat_of h0
    rw [Int32.lt_iff_toInt_lt] at h1
    have : (12 : Int32).toInt = 12 := by decide
    omega
  generalize j.toNatClampNeg = n at q hb
  subst q
  rcases (by omega : n = 0 ∨ n = 1 ∨ n = 2 ∨ n = 3 ∨ n = 4 ∨ n = 5 ∨ n = 6 ∨ n = 7 ∨ n = 8 ∨ n = 9 ∨ n = 10 ∨ n = 11) with rfl | rfl | rfl | rfl | rfl | rfl | rfl | rfl | rfl | rfl | rfl | rfl
  · exact e0
  · exact e1
  · exact e2
  · exact e3
  · exact e4
  · exact e5
  · exact e6
  · exact e7
  · exact e8
  · exact e9
  · exact e10
  · exact e11
theorem ef_1 (m : MethodId) (k : Int32) : entryFrame m #[(.int k)] 1 = mkF m 0 #[.val (.int k)] [] := by first | (simp [entryFrame, mkF, argsToLocals, Value.category]; done) | rfl
def Q_1 (Z : State) (k : Int32) (w_OBJECT : Addr) (w_BOOLEAN : Addr) (w_CHAR : Addr) (w_FLOAT : Addr) (w_DOUBLE : Addr) (w_BYTE : Addr) (w_SHORT : Addr) (w_INT : Addr) (w_LONG : Addr) (w_BY_CODE : Addr) (cl_BY_CODE : Cell) (h0 : Heap) (n0 : Nat) (v : Option Value) (h : Heap) (L : List Loc) : Prop := v = some (own_of k w_OBJECT w_BOOLEAN w_CHAR w_FLOAT w_DOUBLE w_BYTE w_SHORT w_INT w_LONG) ∧ Fr n0 L ∧ h = h0
theorem pn_0 : plainName "com/example/heapscribe/heapscribe/Hprof$BasicType" = true := by first | (simp [plainName, overriddenIn]; done) | decide +kernel
theorem d1_0 : decode prog_55_method_8_code 0 = .ok (.iload_n 0, 1) := by decide +kernel
theorem d1_1 : decode prog_55_method_8_code 1 = .ok (.ifCond .lt 19, 3) := by decide +kernel
theorem d1_20 : decode prog_55_method_8_code 20 = .ok (.aconst_null, 1) := by decide +kernel
theorem d1_21 : decode prog_55_method_8_code 21 = .ok (.areturn, 1) := by decide +kernel
theorem d1_4 : decode prog_55_method_8_code 4 = .ok (.iload_n 0, 1) := by decide +kernel
theorem d1_5 : decode prog_55_method_8_code 5 = .ok (.getstatic 77, 3) := by decide +kernel
theorem d1_8 : decode prog_55_method_8_code 8 = .ok (.arraylength, 1) := by decide +kernel
theorem d1_9 : decode prog_55_method_8_code 9 = .ok (.if_icmp .ge 11, 3) := by decide +kernel
theorem d1_12 : decode prog_55_method_8_code 12 = .ok (.getstatic 77, 3) := by decide +kernel
theorem d1_15 : decode prog_55_method_8_code 15 = .ok (.iload_n 0, 1) := by decide +kernel
theorem d1_16 : decode prog_55_method_8_code 16 = .ok (.aaload, 1) := by decide +kernel
theorem d1_17 : decode prog_55_method_8_code 17 = .ok (.goto 4, 3) := by decide +kernel
set_option maxRecDepth 65536 in
set_option maxHeartbeats 40000000 in
theorem rm_1 (l : Launch) (Z : State) (a0 : Array Value) (hw : ∀ d ∈ tables_1, d.before a0 Z = true) (ws : List Jvm.Cond) (k : Int32) (w_OBJECT : Addr) (w_BOOLEAN : Addr) (w_CHAR : Addr) (w_FLOAT : Addr) (w_DOUBLE : Addr) (w_BYTE : Addr) (w_SHORT : Addr) (w_INT : Addr) (w_LONG : Addr) (w_BY_CODE : Addr) (cl_BY_CODE : Cell) (h0 : Heap) (n0 : Nat) (Z0 : n0 ≤ h0.size) (S_BY_CODE : Sta Z h0 "com/example/heapscribe/heapscribe/Hprof$BasicType" "BY_CODE" "[Lcom/example/heapscribe/heapscribe/Hprof$BasicType;" (.ref w_BY_CODE)) (Ar_BY_CODE : Arr Z h0 w_BY_CODE cl_BY_CODE (.object "com/example/heapscribe/heapscribe/Hprof$BasicType")) (Z_BY_CODE : cl_BY_CODE.slots.size = 12) (hat : ∀ j : Int32, ¬ j < (0 : Int32) → j < (12 : Int32) → cl_BY_CODE.slots[j.toNatClampNeg]? = some (own_of j w_OBJECT w_BOOLEAN w_CHAR w_FLOAT w_DOUBLE w_BYTE w_SHORT w_INT w_LONG)) :
    MetFree l (⟨"com/example/heapscribe/heapscribe/Hprof$BasicType", "of", "(I)Lcom/example/heapscribe/heapscribe/Hprof$BasicType;"⟩ : MethodName) (head1 (Jvm.Cond.code (⟨"com/example/heapscribe/heapscribe/Hprof$BasicType", "of", "(I)Lcom/example/heapscribe/heapscribe/Hprof$BasicType;"⟩ : MethodName) prog_55_method_8_code 1 (some (.object "com/example/heapscribe/heapscribe/Hprof$BasicType")) :: ws) ({ frames := 0, cells := 0, slots := 0, locals := 0 } : Room)) (fun a_ U_ => a_ = #[(.int k)] ∧ Z.Warmed39 U_.vm ∧ U_.heap = h0) (fun _ _ _ _ _ => True) (fun _ U_ o_ V_ => ∃ v_ L_, o_ = .returned v_ ∧ Q_1 Z k w_OBJECT w_BOOLEAN w_CHAR w_FLOAT w_DOUBLE w_BYTE w_SHORT w_INT w_LONG w_BY_CODE cl_BY_CODE h0 n0 v_ V_.heap L_ ∧ FrameEnd U_ o_ V_ L_ ({ frames := 0, cells := 0, slots := 0, locals := 0 } : Room).cells ({ frames := 0, cells := 0, slots := 0, locals := 0 } : Room).slots) := by
  refine MetFree.of_bodySF (plainFor_of_name pn_0) hisR ?_
  intro p e s m args below meth c s₁ Bd hml0 hP hK
  obtain ⟨rfl, hZ, hh⟩ := hP
  have hx := Bd.exec
  have hby := Bd.bytes
  have hml : c.maxLocals = 1 := hml0
  have hown : s.vm.findClass "com/example/heapscribe/heapscribe/Hprof$BasicType" = some m.cls := findClass_of_methodNamed Bd.named
  have hnm := (name_of_methodNamed Bd.named Bd.method).1
  have X0 : Stand p l e ({ frames := 0, cells := 0, slots := 0, locals := 0 } : Room) s m #[(.int k)] below meth c s₁ [] 0 0 := Stand.of_body Bd
  have e0 : s₁.heap = h0 := by rw [← hh, Bd.state]; rfl
  have N0 := Fr.nil n0
  have pre0 : ∀ t_, Steps p.tables e below (s₁.setTop (mkF m 0 #[.val (.int k)] [])) t_ → Steps p.tables e below (s₁.setTop (entryFrame m #[(.int k)] 1)) t_ := fun t_ k_ => castTop (ef_1 m k) k_
  have pre1 : ∀ t_, Steps p.tables e below (s₁.setTop (mkF m 1 #[.val (.int k)] [(.int k)])) t_ → Steps p.tables e below (s₁.setTop (entryFrame m #[(.int k)] 1)) t_ := fun t_ k_ => pre0 t_ (by
    show Steps p.tables e below (s₁.setTop (mkF m 0 #[.val (.int k)] [])) _
    refine XS.iloadN X0.here hx rfl (hb hby d1_0) rfl ?_
    show Steps p.tables e below (s₁.setTop (mkF m 1 #[.val (.int k)] [(.int k)])) _
    exact k_)
  by_cases hc1_2 : k < (0 : Int32)
  · have pre3 : ∀ t_, Steps p.tables e below (s₁.setTop (mkF m 21 #[.val (.int k)] [.null])) t_ → Steps p.tables e below (s₁.setTop (entryFrame m #[(.int k)] 1)) t_ := fun t_ k_ => pre1 t_ (by
      show Steps p.tables e below (s₁.setTop (mkF m 1 #[.val (.int k)] [(.int k)])) _
      refine XS.ifYes X0.here hx rfl (pc0 := 1) (pc' := 20) rfl (hb hby d1_1) rfl ((if0 _ _).trans (tlt hc1_2).1) (by decide) (by decide) ?_
      show Steps p.tables e below (s₁.setTop (mkF m 20 #[.val (.int k)] [])) _
      refine XS.aconstNull X0.here hx rfl (hb hby d1_20) ?_
      show Steps p.tables e below (s₁.setTop (mkF m 21 #[.val (.int k)] [.null])) _
      exact k_)
    obtain ⟨fs, hr, hrun, hended, hW, hsame⟩ := X0.leave (v := some .null) (fun h => by rw [Bd.returns] at h; cases h)
    refine ⟨_, _, pre3 _ ?_, hrun, hended, _, _, rfl, ?_, ⟨_, rfl⟩, hW, hsame.mono (by decide) (by decide)⟩
    · show Steps p.tables e below (s₁.setTop (mkF m 21 #[.val (.int k)] [.null])) _
      exact retA X0 hx Bd.returns rfl rfl rfl (hb hby d1_21) hr
    · show Q_1 Z k w_OBJECT w_BOOLEAN w_CHAR w_FLOAT w_DOUBLE w_BYTE w_SHORT w_INT w_LONG w_BY_CODE cl_BY_CODE h0 n0 _ s₁.heap _
      rw [e0]
      exact ⟨congrArg some (own_of_out k w_OBJECT w_BOOLEAN w_CHAR w_FLOAT w_DOUBLE w_BYTE w_SHORT w_INT w_LONG (Or.inl hc1_2)).symm, N0, rfl⟩
  · obtain ⟨T4, X4, e4, st4⟩ := getS2 X0 hx hZ hown (host := "") (Or.inl (hw _ (List.mem_of_getElem? (i := 4) rfl))) Via.refl e0 S_BY_CODE (g := (mkF m 5 #[.val (.int k)] [(.int k)])) rfl (hb hby d1_5)
    have pre5 : ∀ t_, Steps p.tables e below (T4.setTop (mkF m 9 #[.val (.int k)] [(.int (12 : Int32)), (.int k)])) t_ → Steps p.tables e below (s₁.setTop (entryFrame m #[(.int k)] 1)) t_ := fun t_ k_ => pre1 t_ (by
      show Steps p.tables e below (s₁.setTop (mkF m 1 #[.val (.int k)] [(.int k)])) _
      refine XS.ifNo X0.here hx rfl (hb hby d1_1) rfl ((if0 _ _).trans (flt hc1_2).1) ?_
      show Steps p.tables e below (s₁.setTop (mkF m 4 #[.val (.int k)] [])) _
      refine XS.iloadN X0.here hx rfl (hb hby d1_4) rfl ?_
      show Steps p.tables e below (s₁.setTop (mkF m 5 #[.val (.int k)] [(.int k)])) _
      refine st4 _ ?_
      show Steps p.tables e below (T4.setTop (mkF m 8 #[.val (.int k)] [(.ref w_BY_CODE), (.int k)])) _
      refine X4.arraylength hx (by rw [e4]; exact Ar_BY_CODE.1) (State.isArrayOf_alike hZ.alike Ar_BY_CODE.2.1) (g := (mkF m 8 #[.val (.int k)] [(.ref w_BY_CODE), (.int k)])) rfl rfl (hb hby d1_8) _ ?_
      rw [len_of (show cl_BY_CODE.slots.size = (12 : Int32).toNatClampNeg from Z_BY_CODE) (by decide)]
      show Steps p.tables e below (T4.setTop (mkF m 9 #[.val (.int k)] [(.int (12 : Int32)), (.int k)])) _
      exact k_)
    by_cases hc9_6 : k < (12 : Int32)
    · obtain ⟨T7, X7, e7, st7⟩ := getS2 X4 hx hZ hown (host := "") (Or.inl (hw _ (List.mem_of_getElem? (i := 4) rfl))) Via.refl e4 S_BY_CODE (g := (mkF m 12 #[.val (.int k)] [])) rfl (hb hby d1_12)
      have pre8 : ∀ t_, Steps p.tables e below (T7.setTop (mkF m 21 #[.val (.int k)] [(own_of k w_OBJECT w_BOOLEAN w_CHAR w_FLOAT w_DOUBLE w_BYTE w_SHORT w_INT w_LONG)])) t_ → Steps p.tables e below (s₁.setTop (entryFrame m #[(.int k)] 1)) t_ := fun t_ k_ => pre5 t_ (by
        show Steps p.tables e below (T4.setTop (mkF m 9 #[.val (.int k)] [(.int (12 : Int32)), (.int k)])) _
        refine XS.icmpNo X4.here hx rfl (hb hby d1_9) rfl (tlt hc9_6).2.1 ?_
        show Steps p.tables e below (T4.setTop (mkF m 12 #[.val (.int k)] [])) _
        refine st7 _ ?_
        show Steps p.tables e below (T7.setTop (mkF m 15 #[.val (.int k)] [(.ref w_BY_CODE)])) _
        refine XS.iloadN X7.here hx rfl (hb hby d1_15) rfl ?_
        show Steps p.tables e below (T7.setTop (mkF m 16 #[.val (.int k)] [(.int k), (.ref w_BY_CODE)])) _
        refine X7.aaload hx (j := k) (v := (own_of k w_OBJECT w_BOOLEAN w_CHAR w_FLOAT w_DOUBLE w_BYTE w_SHORT w_INT w_LONG)) (by rw [e7]; exact Ar_BY_CODE.1) (State.isArrayOf_alike hZ.alike Ar_BY_CODE.2.1) rfl Ar_BY_CODE.2.2 (inb_of (show cl_BY_CODE.slots.size = (12 : Int32).toNatClampNeg from Z_BY_CODE) ⟨hc1_2, hc9_6⟩) (hat k hc1_2 hc9_6) (g := (mkF m 16 #[.val (.int k)] [(.int k), (.ref w_BY_CODE)])) rfl rfl (hb hby d1_16) _ ?_
        show Steps p.tables e below (T7.setTop (mkF m 17 #[.val (.int k)] [(own_of k w_OBJECT w_BOOLEAN w_CHAR w_FLOAT w_DOUBLE w_BYTE w_SHORT w_INT w_LONG)])) _
        refine XS.goto X7.here hx rfl (pc0 := 17) (pc' := 21) rfl (hb hby d1_17) (by decide) (by decide) ?_
        show Steps p.tables e below (T7.setTop (mkF m 21 #[.val (.int k)] [(own_of k w_OBJECT w_BOOLEAN w_CHAR w_FLOAT w_DOUBLE w_BYTE w_SHORT w_INT w_LONG)])) _
        exact k_)
      obtain ⟨fs, hr, hrun, hended, hW, hsame⟩ := X7.leave (v := some (own_of k w_OBJECT w_BOOLEAN w_CHAR w_FLOAT w_DOUBLE w_BYTE w_SHORT w_INT w_LONG)) (fun h => by rw [Bd.returns] at h; cases h)
      refine ⟨_, _, pre8 _ ?_, hrun, hended, _, _, rfl, ?_, ⟨_, rfl⟩, hW, hsame.mono (by decide) (by decide)⟩
      · show Steps p.tables e below (T7.setTop (mkF m 21 #[.val (.int k)] [(own_of k w_OBJECT w_BOOLEAN w_CHAR w_FLOAT w_DOUBLE w_BYTE w_SHORT w_INT w_LONG)])) _
        exact retA X7 hx Bd.returns rfl (own_of_ref k w_OBJECT w_BOOLEAN w_CHAR w_FLOAT w_DOUBLE w_BYTE w_SHORT w_INT w_LONG) rfl (hb hby d1_21) hr
      · show Q_1 Z k w_OBJECT w_BOOLEAN w_CHAR w_FLOAT w_DOUBLE w_BYTE w_SHORT w_INT w_LONG w_BY_CODE cl_BY_CODE h0 n0 _ T7.heap _
        rw [e7]
        exact ⟨rfl, N0, rfl⟩
    · have pre9 : ∀ t_, Steps p.tables e below (T4.setTop (mkF m 21 #[.val (.int k)] [.null])) t_ → Steps p.tables e below (s₁.setTop (entryFrame m #[(.int k)] 1)) t_ := fun t_ k_ => pre5 t_ (by
        show Steps p.tables e below (T4.setTop (mkF m 9 #[.val (.int k)] [(.int (12 : Int32)), (.int k)])) _
        refine XS.icmpYes X4.here hx rfl (pc0 := 9) (pc' := 20) rfl (hb hby d1_9) rfl (flt hc9_6).2.1 (by decide) (by decide) ?_
        show Steps p.tables e below (T4.setTop (mkF m 20 #[.val (.int k)] [])) _
        refine XS.aconstNull X4.here hx rfl (hb hby d1_20) ?_
        show Steps p.tables e below (T4.setTop (mkF m 21 #[.val (.int k)] [.null])) _
        exact k_)
      obtain ⟨fs, hr, hrun, hended, hW, hsame⟩ := X4.leave (v := some .null) (fun h => by rw [Bd.returns] at h; cases h)
      refine ⟨_, _, pre9 _ ?_, hrun, hended, _, _, rfl, ?_, ⟨_, rfl⟩, hW, hsame.mono (by decide) (by decide)⟩
      · show Steps p.tables e below (T4.setTop (mkF m 21 #[.val (.int k)] [.null])) _
        exact retA X4 hx Bd.returns rfl rfl rfl (hb hby d1_21) hr
      · show Q_1 Z k w_OBJECT w_BOOLEAN w_CHAR w_FLOAT w_DOUBLE w_BYTE w_SHORT w_INT w_LONG w_BY_CODE cl_BY_CODE h0 n0 _ T4.heap _
        rw [e4]
        exact ⟨congrArg some (own_of_out k w_OBJECT w_BOOLEAN w_CHAR w_FLOAT w_DOUBLE w_BYTE w_SHORT w_INT w_LONG (Or.inr hc9_6)).symm, N0, rfl⟩
theorem ef_2 (m : MethodId) (k : Int32) : entryFrame m #[(.int k)] 1 = mkF m 0 #[.val (.int k)] [] := by first | (simp [entryFrame, mkF, argsToLocals, Value.category]; done) | rfl
def Q_2 (Z : State) (k : Int32) (w_OBJECT : Addr) (w_BOOLEAN : Addr) (w_CHAR : Addr) (w_FLOAT : Addr) (w_DOUBLE : Addr) (w_BYTE : Addr) (w_SHORT : Addr) (w_INT : Addr) (w_LONG : Addr) (h0 : Heap) (n0 : Nat) (v : Option Value) (h : Heap) (L : List Loc) : Prop := v = some (own_of k w_OBJECT w_BOOLEAN w_CHAR w_FLOAT w_DOUBLE w_BYTE w_SHORT w_INT w_LONG) ∧ Fr n0 L ∧ h = h0
theorem pn_1 : plainName "com/example/heapscribe/heapscribe/BasicTypeOfPinLaw" = true := by first | (simp [plainName, overriddenIn]; done) | decide +kernel
theorem d2_0 : decode method_2_code 0 = .ok (.iload_n 0, 1) := by decide +kernel
theorem d2_1 : decode method_2_code 1 = .ok (.iconst 2, 1) := by decide +kernel
theorem d2_2 : decode method_2_code 2 = .ok (.if_icmp .ne 7, 3) := by decide +kernel
theorem d2_5 : decode method_2_code 5 = .ok (.getstatic 7, 3) := by decide +kernel
theorem d2_8 : decode method_2_code 8 = .ok (.areturn, 1) := by decide +kernel
theorem d2_9 : decode method_2_code 9 = .ok (.iload_n 0, 1) := by decide +kernel
theorem d2_10 : decode method_2_code 10 = .ok (.iconst 4, 1) := by decide +kernel
theorem d2_11 : decode method_2_code 11 = .ok (.if_icmp .ne 7, 3) := by decide +kernel
theorem d2_14 : decode method_2_code 14 = .ok (.getstatic 13, 3) := by decide +kernel
theorem d2_17 : decode method_2_code 17 = .ok (.areturn, 1) := by decide +kernel
theorem d2_18 : decode method_2_code 18 = .ok (.iload_n 0, 1) := by decide +kernel
theorem d2_19 : decode method_2_code 19 = .ok (.iconst 5, 1) := by decide +kernel
theorem d2_20 : decode method_2_code 20 = .ok (.if_icmp .ne 7, 3) := by decide +kernel
theorem d2_23 : decode method_2_code 23 = .ok (.getstatic 16, 3) := by decide +kernel
theorem d2_26 : decode method_2_code 26 = .ok (.areturn, 1) := by decide +kernel
theorem d2_27 : decode method_2_code 27 = .ok (.iload_n 0, 1) := by decide +kernel
theorem d2_28 : decode method_2_code 28 = .ok (.bipush 6, 2) := by decide +kernel
theorem d2_30 : decode method_2_code 30 = .ok (.if_icmp .ne 7, 3) := by decide +kernel
theorem d2_33 : decode method_2_code 33 = .ok (.getstatic 19, 3) := by decide +kernel
theorem d2_36 : decode method_2_code 36 = .ok (.areturn, 1) := by decide +kernel
theorem d2_37 : decode method_2_code 37 = .ok (.iload_n 0, 1) := by decide +kernel
theorem d2_38 : decode method_2_code 38 = .ok (.bipush 7, 2) := by decide +kernel
theorem d2_40 : decode method_2_code 40 = .ok (.if_icmp .ne 7, 3) := by decide +kernel
theorem d2_43 : decode method_2_code 43 = .ok (.getstatic 22, 3) := by decide +kernel
theorem d2_46 : decode method_2_code 46 = .ok (.areturn, 1) := by decide +kernel
theorem d2_47 : decode method_2_code 47 = .ok (.iload_n 0, 1) := by decide +kernel
theorem d2_48 : decode method_2_code 48 = .ok (.bipush 8, 2) := by decide +kernel
theorem d2_50 : decode method_2_code 50 = .ok (.if_icmp .ne 7, 3) := by decide +kernel
theorem d2_53 : decode method_2_code 53 = .ok (.getstatic 25, 3) := by decide +kernel
theorem d2_56 : decode method_2_code 56 = .ok (.areturn, 1) := by decide +kernel
theorem d2_57 : decode method_2_code 57 = .ok (.iload_n 0, 1) := by decide +kernel
theorem d2_58 : decode method_2_code 58 = .ok (.bipush 9, 2) := by decide +kernel
theorem d2_60 : decode method_2_code 60 = .ok (.if_icmp .ne 7, 3) := by decide +kernel
theorem d2_63 : decode method_2_code 63 = .ok (.getstatic 28, 3) := by decide +kernel
theorem d2_66 : decode method_2_code 66 = .ok (.areturn, 1) := by decide +kernel
theorem d2_67 : decode method_2_code 67 = .ok (.iload_n 0, 1) := by decide +kernel
theorem d2_68 : decode method_2_code 68 = .ok (.bipush 10, 2) := by decide +kernel
theorem d2_70 : decode method_2_code 70 = .ok (.if_icmp .ne 7, 3) := by decide +kernel
theorem d2_73 : decode method_2_code 73 = .ok (.getstatic 31, 3) := by decide +kernel
theorem d2_76 : decode method_2_code 76 = .ok (.areturn, 1) := by decide +kernel
theorem d2_77 : decode method_2_code 77 = .ok (.iload_n 0, 1) := by decide +kernel
theorem d2_78 : decode method_2_code 78 = .ok (.bipush 11, 2) := by decide +kernel
theorem d2_80 : decode method_2_code 80 = .ok (.if_icmp .ne 7, 3) := by decide +kernel
theorem d2_83 : decode method_2_code 83 = .ok (.getstatic 34, 3) := by decide +kernel
theorem d2_86 : decode method_2_code 86 = .ok (.areturn, 1) := by decide +kernel
theorem d2_87 : decode method_2_code 87 = .ok (.aconst_null, 1) := by decide +kernel
theorem d2_88 : decode method_2_code 88 = .ok (.areturn, 1) := by decide +kernel
set_option maxRecDepth 65536 in
set_option maxHeartbeats 40000000 in
theorem rm_2 (l : Launch) (Z : State) (a0 : Array Value) (hw : ∀ d ∈ tables_1, d.before a0 Z = true) (ws : List Jvm.Cond) (k : Int32) (w_OBJECT : Addr) (w_BOOLEAN : Addr) (w_CHAR : Addr) (w_FLOAT : Addr) (w_DOUBLE : Addr) (w_BYTE : Addr) (w_SHORT : Addr) (w_INT : Addr) (w_LONG : Addr) (h0 : Heap) (n0 : Nat) (Z0 : n0 ≤ h0.size) (S_OBJECT : Sta Z h0 "com/example/heapscribe/heapscribe/Hprof$BasicType" "OBJECT" "Lcom/example/heapscribe/heapscribe/Hprof$BasicType;" (.ref w_OBJECT)) (S_BOOLEAN : Sta Z h0 "com/example/heapscribe/heapscribe/Hprof$BasicType" "BOOLEAN" "Lcom/example/heapscribe/heapscribe/Hprof$BasicType;" (.ref w_BOOLEAN)) (S_CHAR : Sta Z h0 "com/example/heapscribe/heapscribe/Hprof$BasicType" "CHAR" "Lcom/example/heapscribe/heapscribe/Hprof$BasicType;" (.ref w_CHAR)) (S_FLOAT : Sta Z h0 "com/example/heapscribe/heapscribe/Hprof$BasicType" "FLOAT" "Lcom/example/heapscribe/heapscribe/Hprof$BasicType;" (.ref w_FLOAT)) (S_DOUBLE : Sta Z h0 "com/example/heapscribe/heapscribe/Hprof$BasicType" "DOUBLE" "Lcom/example/heapscribe/heapscribe/Hprof$BasicType;" (.ref w_DOUBLE)) (S_BYTE : Sta Z h0 "com/example/heapscribe/heapscribe/Hprof$BasicType" "BYTE" "Lcom/example/heapscribe/heapscribe/Hprof$BasicType;" (.ref w_BYTE)) (S_SHORT : Sta Z h0 "com/example/heapscribe/heapscribe/Hprof$BasicType" "SHORT" "Lcom/example/heapscribe/heapscribe/Hprof$BasicType;" (.ref w_SHORT)) (S_INT : Sta Z h0 "com/example/heapscribe/heapscribe/Hprof$BasicType" "INT" "Lcom/example/heapscribe/heapscribe/Hprof$BasicType;" (.ref w_INT)) (S_LONG : Sta Z h0 "com/example/heapscribe/heapscribe/Hprof$BasicType" "LONG" "Lcom/example/heapscribe/heapscribe/Hprof$BasicType;" (.ref w_LONG)) :
    MetFree l (⟨"com/example/heapscribe/heapscribe/BasicTypeOfPinLaw", "expected", "(I)Lcom/example/heapscribe/heapscribe/Hprof$BasicType;"⟩ : MethodName) (head1 (Jvm.Cond.code (⟨"com/example/heapscribe/heapscribe/BasicTypeOfPinLaw", "expected", "(I)Lcom/example/heapscribe/heapscribe/Hprof$BasicType;"⟩ : MethodName) method_2_code 1 (some (.object "com/example/heapscribe/heapscribe/Hprof$BasicType")) :: ws) ({ frames := 0, cells := 0, slots := 0, locals := 0 } : Room)) (fun a_ U_ => a_ = #[(.int k)] ∧ Z.Warmed39 U_.vm ∧ U_.heap = h0) (fun _ _ _ _ _ => True) (fun _ U_ o_ V_ => ∃ v_ L_, o_ = .returned v_ ∧ Q_2 Z k w_OBJECT w_BOOLEAN w_CHAR w_FLOAT w_DOUBLE w_BYTE w_SHORT w_INT w_LONG h0 n0 v_ V_.heap L_ ∧ FrameEnd U_ o_ V_ L_ ({ frames := 0, cells := 0, slots := 0, locals := 0 } : Room).cells ({ frames := 0, cells := 0, slots := 0, locals := 0 } : Room).slots) := by
  refine MetFree.of_bodySF (plainFor_of_name pn_1) hisR ?_
  intro p e s m args below meth c s₁ Bd hml0 hP hK
  obtain ⟨rfl, hZ, hh⟩ := hP
  have hx := Bd.exec
  have hby := Bd.bytes
  have hml : c.maxLocals = 1 := hml0
  have hown : s.vm.findClass "com/example/heapscribe/heapscribe/BasicTypeOfPinLaw" = some m.cls := findClass_of_methodNamed Bd.named
  have hnm := (name_of_methodNamed Bd.named Bd.method).1
  have X0 : Stand p l e ({ frames := 0, cells := 0, slots := 0, locals := 0 } : Room) s m #[(.int k)] below meth c s₁ [] 0 0 := Stand.of_body Bd
  have e0 : s₁.heap = h0 := by rw [← hh, Bd.state]; rfl
  have N0 := Fr.nil n0
  have pre0 : ∀ t_, Steps p.tables e below (s₁.setTop (mkF m 0 #[.val (.int k)] [])) t_ → Steps p.tables e below (s₁.setTop (entryFrame m #[(.int k)] 1)) t_ := fun t_ k_ => castTop (ef_2 m k) k_
  have pre10 : ∀ t_, Steps p.tables e below (s₁.setTop (mkF m 2 #[.val (.int k)] [(.int (2 : Int32)), (.int k)])) t_ → Steps p.tables e below (s₁.setTop (entryFrame m #[(.int k)] 1)) t_ := fun t_ k_ => pre0 t_ (by
    show Steps p.tables e below (s₁.setTop (mkF m 0 #[.val (.int k)] [])) _
    refine XS.iloadN X0.here hx rfl (hb hby d2_0) rfl ?_
    show Steps p.tables e below (s₁.setTop (mkF m 1 #[.val (.int k)] [(.int k)])) _
    refine XS.iconst X0.here hx rfl (hb hby d2_1) ?_
    show Steps p.tables e below (s₁.setTop (mkF m 2 #[.val (.int k)] [(.int (2 : Int32)), (.int k)])) _
    exact k_)
  by_cases hc2_11 : k = (2 : Int32)
  · obtain ⟨T12, X12, e12, st12⟩ := getS2 X0 hx hZ hown (host := "") (Or.inl (hw _ (List.mem_of_getElem? (i := 21) rfl))) Via.refl e0 S_OBJECT (g := (mkF m 5 #[.val (.int k)] [])) rfl (hb hby d2_5)
    have pre13 : ∀ t_, Steps p.tables e below (T12.setTop (mkF m 8 #[.val (.int k)] [(.ref w_OBJECT)])) t_ → Steps p.tables e below (s₁.setTop (entryFrame m #[(.int k)] 1)) t_ := fun t_ k_ => pre10 t_ (by
      show Steps p.tables e below (s₁.setTop (mkF m 2 #[.val (.int k)] [(.int (2 : Int32)), (.int k)])) _
      refine XS.icmpNo X0.here hx rfl (hb hby d2_2) rfl (teq hc2_11).2 ?_
      show Steps p.tables e below (s₁.setTop (mkF m 5 #[.val (.int k)] [])) _
      refine st12 _ ?_
      show Steps p.tables e below (T12.setTop (mkF m 8 #[.val (.int k)] [(.ref w_OBJECT)])) _
      exact k_)
    obtain ⟨fs, hr, hrun, hended, hW, hsame⟩ := X12.leave (v := some (.ref w_OBJECT)) (fun h => by rw [Bd.returns] at h; cases h)
    refine ⟨_, _, pre13 _ ?_, hrun, hended, _, _, rfl, ?_, ⟨_, rfl⟩, hW, hsame.mono (by decide) (by decide)⟩
    · show Steps p.tables e below (T12.setTop (mkF m 8 #[.val (.int k)] [(.ref w_OBJECT)])) _
      exact retA X12 hx Bd.returns rfl rfl rfl (hb hby d2_8) hr
    · show Q_2 Z k w_OBJECT w_BOOLEAN w_CHAR w_FLOAT w_DOUBLE w_BYTE w_SHORT w_INT w_LONG h0 n0 _ T12.heap _
      rw [e12]
      exact ⟨by rw [own_of, if_pos hc2_11], N0, rfl⟩
  · have pre14 : ∀ t_, Steps p.tables e below (s₁.setTop (mkF m 11 #[.val (.int k)] [(.int (4 : Int32)), (.int k)])) t_ → Steps p.tables e below (s₁.setTop (entryFrame m #[(.int k)] 1)) t_ := fun t_ k_ => pre10 t_ (by
      show Steps p.tables e below (s₁.setTop (mkF m 2 #[.val (.int k)] [(.int (2 : Int32)), (.int k)])) _
      refine XS.icmpYes X0.here hx rfl (pc0 := 2) (pc' := 9) rfl (hb hby d2_2) rfl (feq hc2_11).2 (by decide) (by decide) ?_
      show Steps p.tables e below (s₁.setTop (mkF m 9 #[.val (.int k)] [])) _
      refine XS.iloadN X0.here hx rfl (hb hby d2_9) rfl ?_
      show Steps p.tables e below (s₁.setTop (mkF m 10 #[.val (.int k)] [(.int k)])) _
      refine XS.iconst X0.here hx rfl (hb hby d2_10) ?_
      show Steps p.tables e below (s₁.setTop (mkF m 11 #[.val (.int k)] [(.int (4 : Int32)), (.int k)])) _
      exact k_)
    by_cases hc11_15 : k = (4 : Int32)
    · obtain ⟨T16, X16, e16, st16⟩ := getS2 X0 hx hZ hown (host := "") (Or.inl (hw _ (List.mem_of_getElem? (i := 27) rfl))) Via.refl e0 S_BOOLEAN (g := (mkF m 14 #[.val (.int k)] [])) rfl (hb hby d2_14)
      have pre17 : ∀ t_, Steps p.tables e below (T16.setTop (mkF m 17 #[.val (.int k)] [(.ref w_BOOLEAN)])) t_ → Steps p.tables e below (s₁.setTop (entryFrame m #[(.int k)] 1)) t_ := fun t_ k_ => pre14 t_ (by
        show Steps p.tables e below (s₁.setTop (mkF m 11 #[.val (.int k)] [(.int (4 : Int32)), (.int k)])) _
        refine XS.icmpNo X0.here hx rfl (hb hby d2_11) rfl (teq hc11_15).2 ?_
        show Steps p.tables e below (s₁.setTop (mkF m 14 #[.val (.int k)] [])) _
        refine st16 _ ?_
        show Steps p.tables e below (T16.setTop (mkF m 17 #[.val (.int k)] [(.ref w_BOOLEAN)])) _
        exact k_)
      obtain ⟨fs, hr, hrun, hended, hW, hsame⟩ := X16.leave (v := some (.ref w_BOOLEAN)) (fun h => by rw [Bd.returns] at h; cases h)
      refine ⟨_, _, pre17 _ ?_, hrun, hended, _, _, rfl, ?_, ⟨_, rfl⟩, hW, hsame.mono (by decide) (by decide)⟩
      · show Steps p.tables e below (T16.setTop (mkF m 17 #[.val (.int k)] [(.ref w_BOOLEAN)])) _
        exact retA X16 hx Bd.returns rfl rfl rfl (hb hby d2_17) hr
      · show Q_2 Z k w_OBJECT w_BOOLEAN w_CHAR w_FLOAT w_DOUBLE w_BYTE w_SHORT w_INT w_LONG h0 n0 _ T16.heap _
        rw [e16]
        exact ⟨by rw [own_of, if_neg hc2_11, if_pos hc11_15], N0, rfl⟩
    · have pre18 : ∀ t_, Steps p.tables e below (s₁.setTop (mkF m 20 #[.val (.int k)] [(.int (5 : Int32)), (.int k)])) t_ → Steps p.tables e below (s₁.setTop (entryFrame m #[(.int k)] 1)) t_ := fun t_ k_ => pre14 t_ (by
        show Steps p.tables e below (s₁.setTop (mkF m 11 #[.val (.int k)] [(.int (4 : Int32)), (.int k)])) _
        refine XS.icmpYes X0.here hx rfl (pc0 := 11) (pc' := 18) rfl (hb hby d2_11) rfl (feq hc11_15).2 (by decide) (by decide) ?_
        show Steps p.tables e below (s₁.setTop (mkF m 18 #[.val (.int k)] [])) _
        refine XS.iloadN X0.here hx rfl (hb hby d2_18) rfl ?_
        show Steps p.tables e below (s₁.setTop (mkF m 19 #[.val (.int k)] [(.int k)])) _
        refine XS.iconst X0.here hx rfl (hb hby d2_19) ?_
        show Steps p.tables e below (s₁.setTop (mkF m 20 #[.val (.int k)] [(.int (5 : Int32)), (.int k)])) _
        exact k_)
      by_cases hc20_19 : k = (5 : Int32)
      · obtain ⟨T20, X20, e20, st20⟩ := getS2 X0 hx hZ hown (host := "") (Or.inl (hw _ (List.mem_of_getElem? (i := 19) rfl))) Via.refl e0 S_CHAR (g := (mkF m 23 #[.val (.int k)] [])) rfl (hb hby d2_23)
        have pre21 : ∀ t_, Steps p.tables e below (T20.setTop (mkF m 26 #[.val (.int k)] [(.ref w_CHAR)])) t_ → Steps p.tables e below (s₁.setTop (entryFrame m #[(.int k)] 1)) t_ := fun t_ k_ => pre18 t_ (by
          show Steps p.tables e below (s₁.setTop (mkF m 20 #[.val (.int k)] [(.int (5 : Int32)), (.int k)])) _
          refine XS.icmpNo X0.here hx rfl (hb hby d2_20) rfl (teq hc20_19).2 ?_
          show Steps p.tables e below (s₁.setTop (mkF m 23 #[.val (.int k)] [])) _
          refine st20 _ ?_
          show Steps p.tables e below (T20.setTop (mkF m 26 #[.val (.int k)] [(.ref w_CHAR)])) _
          exact k_)
        obtain ⟨fs, hr, hrun, hended, hW, hsame⟩ := X20.leave (v := some (.ref w_CHAR)) (fun h => by rw [Bd.returns] at h; cases h)
        refine ⟨_, _, pre21 _ ?_, hrun, hended, _, _, rfl, ?_, ⟨_, rfl⟩, hW, hsame.mono (by decide) (by decide)⟩
        · show Steps p.tables e below (T20.setTop (mkF m 26 #[.val (.int k)] [(.ref w_CHAR)])) _
          exact retA X20 hx Bd.returns rfl rfl rfl (hb hby d2_26) hr
        · show Q_2 Z k w_OBJECT w_BOOLEAN w_CHAR w_FLOAT w_DOUBLE w_BYTE w_SHORT w_INT w_LONG h0 n0 _ T20.heap _
          rw [e20]
          exact ⟨by rw [own_of, if_neg hc2_11, if_neg hc11_15, if_pos hc20_19], N0, rfl⟩
      · have pre22 : ∀ t_, Steps p.tables e below (s₁.setTop (mkF m 30 #[.val (.int k)] [(.int (6 : Int32)), (.int k)])) t_ → Steps p.tables e below (s₁.setTop (entryFrame m #[(.int k)] 1)) t_ := fun t_ k_ => pre18 t_ (by
          show Steps p.tables e below (s₁.setTop (mkF m 20 #[.val (.int k)] [(.int (5 : Int32)), (.int k)])) _
          refine XS.icmpYes X0.here hx rfl (pc0 := 20) (pc' := 27) rfl (hb hby d2_20) rfl (feq hc20_19).2 (by decide) (by decide) ?_
          show Steps p.tables e below (s₁.setTop (mkF m 27 #[.val (.int k)] [])) _
          refine XS.iloadN X0.here hx rfl (hb hby d2_27) rfl ?_
          show Steps p.tables e below (s₁.setTop (mkF m 28 #[.val (.int k)] [(.int k)])) _
          refine XS.bipush X0.here hx rfl (hb hby d2_28) ?_
          show Steps p.tables e below (s₁.setTop (mkF m 30 #[.val (.int k)] [(.int (6 : Int32)), (.int k)])) _
          exact k_)
        by_cases hc30_23 : k = (6 : Int32)
        · obtain ⟨T24, X24, e24, st24⟩ := getS2 X0 hx hZ hown (host := "") (Or.inl (hw _ (List.mem_of_getElem? (i := 23) rfl))) Via.refl e0 S_FLOAT (g := (mkF m 33 #[.val (.int k)] [])) rfl (hb hby d2_33)
          have pre25 : ∀ t_, Steps p.tables e below (T24.setTop (mkF m 36 #[.val (.int k)] [(.ref w_FLOAT)])) t_ → Steps p.tables e below (s₁.setTop (entryFrame m #[(.int k)] 1)) t_ := fun t_ k_ => pre22 t_ (by
            show Steps p.tables e below (s₁.setTop (mkF m 30 #[.val (.int k)] [(.int (6 : Int32)), (.int k)])) _
            refine XS.icmpNo X0.here hx rfl (hb hby d2_30) rfl (teq hc30_23).2 ?_
            show Steps p.tables e below (s₁.setTop (mkF m 33 #[.val (.int k)] [])) _
            refine st24 _ ?_
            show Steps p.tables e below (T24.setTop (mkF m 36 #[.val (.int k)] [(.ref w_FLOAT)])) _
            exact k_)
          obtain ⟨fs, hr, hrun, hended, hW, hsame⟩ := X24.leave (v := some (.ref w_FLOAT)) (fun h => by rw [Bd.returns] at h; cases h)
          refine ⟨_, _, pre25 _ ?_, hrun, hended, _, _, rfl, ?_, ⟨_, rfl⟩, hW, hsame.mono (by decide) (by decide)⟩
          · show Steps p.tables e below (T24.setTop (mkF m 36 #[.val (.int k)] [(.ref w_FLOAT)])) _
            exact retA X24 hx Bd.returns rfl rfl rfl (hb hby d2_36) hr
          · show Q_2 Z k w_OBJECT w_BOOLEAN w_CHAR w_FLOAT w_DOUBLE w_BYTE w_SHORT w_INT w_LONG h0 n0 _ T24.heap _
            rw [e24]
            exact ⟨by rw [own_of, if_neg hc2_11, if_neg hc11_15, if_neg hc20_19, if_pos hc30_23], N0, rfl⟩
        · have pre26 : ∀ t_, Steps p.tables e below (s₁.setTop (mkF m 40 #[.val (.int k)] [(.int (7 : Int32)), (.int k)])) t_ → Steps p.tables e below (s₁.setTop (entryFrame m #[(.int k)] 1)) t_ := fun t_ k_ => pre22 t_ (by
            show Steps p.tables e below (s₁.setTop (mkF m 30 #[.val (.int k)] [(.int (6 : Int32)), (.int k)])) _
            refine XS.icmpYes X0.here hx rfl (pc0 := 30) (pc' := 37) rfl (hb hby d2_30) rfl (feq hc30_23).2 (by decide) (by decide) ?_
            show Steps p.tables e below (s₁.setTop (mkF m 37 #[.val (.int k)] [])) _
            refine XS.iloadN X0.here hx rfl (hb hby d2_37) rfl ?_
            show Steps p.tables e below (s₁.setTop (mkF m 38 #[.val (.int k)] [(.int k)])) _
            refine XS.bipush X0.here hx rfl (hb hby d2_38) ?_
            show Steps p.tables e below (s₁.setTop (mkF m 40 #[.val (.int k)] [(.int (7 : Int32)), (.int k)])) _
            exact k_)
          by_cases hc40_27 : k = (7 : Int32)
          · obtain ⟨T28, X28, e28, st28⟩ := getS2 X0 hx hZ hown (host := "") (Or.inl (hw _ (List.mem_of_getElem? (i := 25) rfl))) Via.refl e0 S_DOUBLE (g := (mkF m 43 #[.val (.int k)] [])) rfl (hb hby d2_43)
            have pre29 : ∀ t_, Steps p.tables e below (T28.setTop (mkF m 46 #[.val (.int k)] [(.ref w_DOUBLE)])) t_ → Steps p.tables e below (s₁.setTop (entryFrame m #[(.int k)] 1)) t_ := fun t_ k_ => pre26 t_ (by
              show Steps p.tables e below (s₁.setTop (mkF m 40 #[.val (.int k)] [(.int (7 : Int32)), (.int k)])) _
              refine XS.icmpNo X0.here hx rfl (hb hby d2_40) rfl (teq hc40_27).2 ?_
              show Steps p.tables e below (s₁.setTop (mkF m 43 #[.val (.int k)] [])) _
              refine st28 _ ?_
              show Steps p.tables e below (T28.setTop (mkF m 46 #[.val (.int k)] [(.ref w_DOUBLE)])) _
              exact k_)
            obtain ⟨fs, hr, hrun, hended, hW, hsame⟩ := X28.leave (v := some (.ref w_DOUBLE)) (fun h => by rw [Bd.returns] at h; cases h)
            refine ⟨_, _, pre29 _ ?_, hrun, hended, _, _, rfl, ?_, ⟨_, rfl⟩, hW, hsame.mono (by decide) (by decide)⟩
            · show Steps p.tables e below (T28.setTop (mkF m 46 #[.val (.int k)] [(.ref w_DOUBLE)])) _
              exact retA X28 hx Bd.returns rfl rfl rfl (hb hby d2_46) hr
            · show Q_2 Z k w_OBJECT w_BOOLEAN w_CHAR w_FLOAT w_DOUBLE w_BYTE w_SHORT w_INT w_LONG h0 n0 _ T28.heap _
              rw [e28]
              exact ⟨by rw [own_of, if_neg hc2_11, if_neg hc11_15, if_neg hc20_19, if_neg hc30_23, if_pos hc40_27], N0, rfl⟩
          · have pre30 : ∀ t_, Steps p.tables e below (s₁.setTop (mkF m 50 #[.val (.int k)] [(.int (8 : Int32)), (.int k)])) t_ → Steps p.tables e below (s₁.setTop (entryFrame m #[(.int k)] 1)) t_ := fun t_ k_ => pre26 t_ (by
              show Steps p.tables e below (s₁.setTop (mkF m 40 #[.val (.int k)] [(.int (7 : Int32)), (.int k)])) _
              refine XS.icmpYes X0.here hx rfl (pc0 := 40) (pc' := 47) rfl (hb hby d2_40) rfl (feq hc40_27).2 (by decide) (by decide) ?_
              show Steps p.tables e below (s₁.setTop (mkF m 47 #[.val (.int k)] [])) _
              refine XS.iloadN X0.here hx rfl (hb hby d2_47) rfl ?_
              show Steps p.tables e below (s₁.setTop (mkF m 48 #[.val (.int k)] [(.int k)])) _
              refine XS.bipush X0.here hx rfl (hb hby d2_48) ?_
              show Steps p.tables e below (s₁.setTop (mkF m 50 #[.val (.int k)] [(.int (8 : Int32)), (.int k)])) _
              exact k_)
            by_cases hc50_31 : k = (8 : Int32)
            · obtain ⟨T32, X32, e32, st32⟩ := getS2 X0 hx hZ hown (host := "") (Or.inl (hw _ (List.mem_of_getElem? (i := 13) rfl))) Via.refl e0 S_BYTE (g := (mkF m 53 #[.val (.int k)] [])) rfl (hb hby d2_53)
              have pre33 : ∀ t_, Steps p.tables e below (T32.setTop (mkF m 56 #[.val (.int k)] [(.ref w_BYTE)])) t_ → Steps p.tables e below (s₁.setTop (entryFrame m #[(.int k)] 1)) t_ := fun t_ k_ => pre30 t_ (by
                show Steps p.tables e below (s₁.setTop (mkF m 50 #[.val (.int k)] [(.int (8 : Int32)), (.int k)])) _
                refine XS.icmpNo X0.here hx rfl (hb hby d2_50) rfl (teq hc50_31).2 ?_
                show Steps p.tables e below (s₁.setTop (mkF m 53 #[.val (.int k)] [])) _
                refine st32 _ ?_
                show Steps p.tables e below (T32.setTop (mkF m 56 #[.val (.int k)] [(.ref w_BYTE)])) _
                exact k_)
              obtain ⟨fs, hr, hrun, hended, hW, hsame⟩ := X32.leave (v := some (.ref w_BYTE)) (fun h => by rw [Bd.returns] at h; cases h)
              refine ⟨_, _, pre33 _ ?_, hrun, hended, _, _, rfl, ?_, ⟨_, rfl⟩, hW, hsame.mono (by decide) (by decide)⟩
              · show Steps p.tables e below (T32.setTop (mkF m 56 #[.val (.int k)] [(.ref w_BYTE)])) _
                exact retA X32 hx Bd.returns rfl rfl rfl (hb hby d2_56) hr
              · show Q_2 Z k w_OBJECT w_BOOLEAN w_CHAR w_FLOAT w_DOUBLE w_BYTE w_SHORT w_INT w_LONG h0 n0 _ T32.heap _
                rw [e32]
                exact ⟨by rw [own_of, if_neg hc2_11, if_neg hc11_15, if_neg hc20_19, if_neg hc30_23, if_neg hc40_27, if_pos hc50_31], N0, rfl⟩
            · have pre34 : ∀ t_, Steps p.tables e below (s₁.setTop (mkF m 60 #[.val (.int k)] [(.int (9 : Int32)), (.int k)])) t_ → Steps p.tables e below (s₁.setTop (entryFrame m #[(.int k)] 1)) t_ := fun t_ k_ => pre30 t_ (by
                show Steps p.tables e below (s₁.setTop (mkF m 50 #[.val (.int k)] [(.int (8 : Int32)), (.int k)])) _
                refine XS.icmpYes X0.here hx rfl (pc0 := 50) (pc' := 57) rfl (hb hby d2_50) rfl (feq hc50_31).2 (by decide) (by decide) ?_
                show Steps p.tables e below (s₁.setTop (mkF m 57 #[.val (.int k)] [])) _
                refine XS.iloadN X0.here hx rfl (hb hby d2_57) rfl ?_
                show Steps p.tables e below (s₁.setTop (mkF m 58 #[.val (.int k)] [(.int k)])) _
                refine XS.bipush X0.here hx rfl (hb hby d2_58) ?_
                show Steps p.tables e below (s₁.setTop (mkF m 60 #[.val (.int k)] [(.int (9 : Int32)), (.int k)])) _
                exact k_)
              by_cases hc60_35 : k = (9 : Int32)
              · obtain ⟨T36, X36, e36, st36⟩ := getS2 X0 hx hZ hown (host := "") (Or.inl (hw _ (List.mem_of_getElem? (i := 15) rfl))) Via.refl e0 S_SHORT (g := (mkF m 63 #[.val (.int k)] [])) rfl (hb hby d2_63)
                have pre37 : ∀ t_, Steps p.tables e below (T36.setTop (mkF m 66 #[.val (.int k)] [(.ref w_SHORT)])) t_ → Steps p.tables e below (s₁.setTop (entryFrame m #[(.int k)] 1)) t_ := fun t_ k_ => pre34 t_ (by
                  show Steps p.tables e below (s₁.setTop (mkF m 60 #[.val (.int k)] [(.int (9 : Int32)), (.int k)])) _
                  refine XS.icmpNo X0.here hx rfl (hb hby d2_60) rfl (teq hc60_35).2 ?_
                  show Steps p.tables e below (s₁.setTop (mkF m 63 #[.val (.int k)] [])) _
                  refine st36 _ ?_
                  show Steps p.tables e below (T36.setTop (mkF m 66 #[.val (.int k)] [(.ref w_SHORT)])) _
                  exact k_)
                obtain ⟨fs, hr, hrun, hended, hW, hsame⟩ := X36.leave (v := some (.ref w_SHORT)) (fun h => by rw [Bd.returns] at h; cases h)
                refine ⟨_, _, pre37 _ ?_, hrun, hended, _, _, rfl, ?_, ⟨_, rfl⟩, hW, hsame.mono (by decide) (by decide)⟩
                · show Steps p.tables e below (T36.setTop (mkF m 66 #[.val (.int k)] [(.ref w_SHORT)])) _
                  exact retA X36 hx Bd.returns rfl rfl rfl (hb hby d2_66) hr
                · show Q_2 Z k w_OBJECT w_BOOLEAN w_CHAR w_FLOAT w_DOUBLE w_BYTE w_SHORT w_INT w_LONG h0 n0 _ T36.heap _
                  rw [e36]
                  exact ⟨by rw [own_of, if_neg hc2_11, if_neg hc11_15, if_neg hc20_19, if_neg hc30_23, if_neg hc40_27, if_neg hc50_31, if_pos hc60_35], N0, rfl⟩
              · have pre38 : ∀ t_, Steps p.tables e below (s₁.setTop (mkF m 70 #[.val (.int k)] [(.int (10 : Int32)), (.int k)])) t_ → Steps p.tables e below (s₁.setTop (entryFrame m #[(.int k)] 1)) t_ := fun t_ k_ => pre34 t_ (by
                  show Steps p.tables e below (s₁.setTop (mkF m 60 #[.val (.int k)] [(.int (9 : Int32)), (.int k)])) _
                  refine XS.icmpYes X0.here hx rfl (pc0 := 60) (pc' := 67) rfl (hb hby d2_60) rfl (feq hc60_35).2 (by decide) (by decide) ?_
                  show Steps p.tables e below (s₁.setTop (mkF m 67 #[.val (.int k)] [])) _
                  refine XS.iloadN X0.here hx rfl (hb hby d2_67) rfl ?_
                  show Steps p.tables e below (s₁.setTop (mkF m 68 #[.val (.int k)] [(.int k)])) _
                  refine XS.bipush X0.here hx rfl (hb hby d2_68) ?_
                  show Steps p.tables e below (s₁.setTop (mkF m 70 #[.val (.int k)] [(.int (10 : Int32)), (.int k)])) _
                  exact k_)
                by_cases hc70_39 : k = (10 : Int32)
                · obtain ⟨T40, X40, e40, st40⟩ := getS2 X0 hx hZ hown (host := "") (Or.inl (hw _ (List.mem_of_getElem? (i := 11) rfl))) Via.refl e0 S_INT (g := (mkF m 73 #[.val (.int k)] [])) rfl (hb hby d2_73)
                  have pre41 : ∀ t_, Steps p.tables e below (T40.setTop (mkF m 76 #[.val (.int k)] [(.ref w_INT)])) t_ → Steps p.tables e below (s₁.setTop (entryFrame m #[(.int k)] 1)) t_ := fun t_ k_ => pre38 t_ (by
                    show Steps p.tables e below (s₁.setTop (mkF m 70 #[.val (.int k)] [(.int (10 : Int32)), (.int k)])) _
                    refine XS.icmpNo X0.here hx rfl (hb hby d2_70) rfl (teq hc70_39).2 ?_
                    show Steps p.tables e below (s₁.setTop (mkF m 73 #[.val (.int k)] [])) _
                    refine st40 _ ?_
                    show Steps p.tables e below (T40.setTop (mkF m 76 #[.val (.int k)] [(.ref w_INT)])) _
                    exact k_)
                  obtain ⟨fs, hr, hrun, hended, hW, hsame⟩ := X40.leave (v := some (.ref w_INT)) (fun h => by rw [Bd.returns] at h; cases h)
                  refine ⟨_, _, pre41 _ ?_, hrun, hended, _, _, rfl, ?_, ⟨_, rfl⟩, hW, hsame.mono (by decide) (by decide)⟩
                  · show Steps p.tables e below (T40.setTop (mkF m 76 #[.val (.int k)] [(.ref w_INT)])) _
                    exact retA X40 hx Bd.returns rfl rfl rfl (hb hby d2_76) hr
                  · show Q_2 Z k w_OBJECT w_BOOLEAN w_CHAR w_FLOAT w_DOUBLE w_BYTE w_SHORT w_INT w_LONG h0 n0 _ T40.heap _
                    rw [e40]
                    exact ⟨by rw [own_of, if_neg hc2_11, if_neg hc11_15, if_neg hc20_19, if_neg hc30_23, if_neg hc40_27, if_neg hc50_31, if_neg hc60_35, if_pos hc70_39], N0, rfl⟩
                · have pre42 : ∀ t_, Steps p.tables e below (s₁.setTop (mkF m 80 #[.val (.int k)] [(.int (11 : Int32)), (.int k)])) t_ → Steps p.tables e below (s₁.setTop (entryFrame m #[(.int k)] 1)) t_ := fun t_ k_ => pre38 t_ (by
                    show Steps p.tables e below (s₁.setTop (mkF m 70 #[.val (.int k)] [(.int (10 : Int32)), (.int k)])) _
                    refine XS.icmpYes X0.here hx rfl (pc0 := 70) (pc' := 77) rfl (hb hby d2_70) rfl (feq hc70_39).2 (by decide) (by decide) ?_
                    show Steps p.tables e below (s₁.setTop (mkF m 77 #[.val (.int k)] [])) _
                    refine XS.iloadN X0.here hx rfl (hb hby d2_77) rfl ?_
                    show Steps p.tables e below (s₁.setTop (mkF m 78 #[.val (.int k)] [(.int k)])) _
                    refine XS.bipush X0.here hx rfl (hb hby d2_78) ?_
                    show Steps p.tables e below (s₁.setTop (mkF m 80 #[.val (.int k)] [(.int (11 : Int32)), (.int k)])) _
                    exact k_)
                  by_cases hc80_43 : k = (11 : Int32)
                  · obtain ⟨T44, X44, e44, st44⟩ := getS2 X0 hx hZ hown (host := "") (Or.inl (hw _ (List.mem_of_getElem? (i := 17) rfl))) Via.refl e0 S_LONG (g := (mkF m 83 #[.val (.int k)] [])) rfl (hb hby d2_83)
                    have pre45 : ∀ t_, Steps p.tables e below (T44.setTop (mkF m 86 #[.val (.int k)] [(.ref w_LONG)])) t_ → Steps p.tables e below (s₁.setTop (entryFrame m #[(.int k)] 1)) t_ := fun t_ k_ => pre42 t_ (by
                      show Steps p.tables e below (s₁.setTop (mkF m 80 #[.val (.int k)] [(.int (11 : Int32)), (.int k)])) _
                      refine XS.icmpNo X0.here hx rfl (hb hby d2_80) rfl (teq hc80_43).2 ?_
                      show Steps p.tables e below (s₁.setTop (mkF m 83 #[.val (.int k)] [])) _
                      refine st44 _ ?_
                      show Steps p.tables e below (T44.setTop (mkF m 86 #[.val (.int k)] [(.ref w_LONG)])) _
                      exact k_)
                    obtain ⟨fs, hr, hrun, hended, hW, hsame⟩ := X44.leave (v := some (.ref w_LONG)) (fun h => by rw [Bd.returns] at h; cases h)
                    refine ⟨_, _, pre45 _ ?_, hrun, hended, _, _, rfl, ?_, ⟨_, rfl⟩, hW, hsame.mono (by decide) (by decide)⟩
                    · show Steps p.tables e below (T44.setTop (mkF m 86 #[.val (.int k)] [(.ref w_LONG)])) _
                      exact retA X44 hx Bd.returns rfl rfl rfl (hb hby d2_86) hr
                    · show Q_2 Z k w_OBJECT w_BOOLEAN w_CHAR w_FLOAT w_DOUBLE w_BYTE w_SHORT w_INT w_LONG h0 n0 _ T44.heap _
                      rw [e44]
                      exact ⟨by rw [own_of, if_neg hc2_11, if_neg hc11_15, if_neg hc20_19, if_neg hc30_23, if_neg hc40_27, if_neg hc50_31, if_neg hc60_35, if_neg hc70_39, if_pos hc80_43], N0, rfl⟩
                  · have pre46 : ∀ t_, Steps p.tables e below (s₁.setTop (mkF m 88 #[.val (.int k)] [.null])) t_ → Steps p.tables e below (s₁.setTop (entryFrame m #[(.int k)] 1)) t_ := fun t_ k_ => pre42 t_ (by
                      show Steps p.tables e below (s₁.setTop (mkF m 80 #[.val (.int k)] [(.int (11 : Int32)), (.int k)])) _
                      refine XS.icmpYes X0.here hx rfl (pc0 := 80) (pc' := 87) rfl (hb hby d2_80) rfl (feq hc80_43).2 (by decide) (by decide) ?_
                      show Steps p.tables e below (s₁.setTop (mkF m 87 #[.val (.int k)] [])) _
                      refine XS.aconstNull X0.here hx rfl (hb hby d2_87) ?_
                      show Steps p.tables e below (s₁.setTop (mkF m 88 #[.val (.int k)] [.null])) _
                      exact k_)
                    obtain ⟨fs, hr, hrun, hended, hW, hsame⟩ := X0.leave (v := some .null) (fun h => by rw [Bd.returns] at h; cases h)
                    refine ⟨_, _, pre46 _ ?_, hrun, hended, _, _, rfl, ?_, ⟨_, rfl⟩, hW, hsame.mono (by decide) (by decide)⟩
                    · show Steps p.tables e below (s₁.setTop (mkF m 88 #[.val (.int k)] [.null])) _
                      exact retA X0 hx Bd.returns rfl rfl rfl (hb hby d2_88) hr
                    · show Q_2 Z k w_OBJECT w_BOOLEAN w_CHAR w_FLOAT w_DOUBLE w_BYTE w_SHORT w_INT w_LONG h0 n0 _ s₁.heap _
                      rw [e0]
                      exact ⟨by rw [own_of, if_neg hc2_11, if_neg hc11_15, if_neg hc20_19, if_neg hc30_23, if_neg hc40_27, if_neg hc50_31, if_neg hc60_35, if_neg hc70_39, if_neg hc80_43], N0, rfl⟩
theorem ef_0 (m : MethodId) (k0 : Int32) (k1 : Int32) (k2 : Int32) : entryFrame m #[(.int k0), (.int k1), (.int k2)] maxLocals = mkF m 0 #[.val (.int k0), .val (.int k1), .val (.int k2), .unset, .unset] [] := by first | (simp [entryFrame, mkF, argsToLocals, Value.category, maxLocals]; done) | rfl
def Q_0 (Z : State) (k0 : Int32) (k1 : Int32) (k2 : Int32) (w_OBJECT : Addr) (w_BOOLEAN : Addr) (w_CHAR : Addr) (w_FLOAT : Addr) (w_DOUBLE : Addr) (w_BYTE : Addr) (w_SHORT : Addr) (w_INT : Addr) (w_LONG : Addr) (w_BY_CODE : Addr) (cl_BY_CODE : Cell) (h0 : Heap) (n0 : Nat) (v : Option Value) (h : Heap) (L : List Loc) : Prop := v = some (.int (1 : Int32)) ∧ Fr n0 L
theorem pd_0 : parseMethodDescriptor "(I)Lcom/example/heapscribe/heapscribe/Hprof$BasicType;" = some ⟨[.int], some (.object "com/example/heapscribe/heapscribe/Hprof$BasicType")⟩ := by decide +kernel
set_option maxRecDepth 65536 in
set_option maxHeartbeats 40000000 in
theorem rm_0 (l : Launch) (Z : State) (a0 : Array Value) (hw : ∀ d ∈ tables_1, d.before a0 Z = true) (ws : List Jvm.Cond) (k0 : Int32) (k1 : Int32) (k2 : Int32) (w_OBJECT : Addr) (w_BOOLEAN : Addr) (w_CHAR : Addr) (w_FLOAT : Addr) (w_DOUBLE : Addr) (w_BYTE : Addr) (w_SHORT : Addr) (w_INT : Addr) (w_LONG : Addr) (w_BY_CODE : Addr) (cl_BY_CODE : Cell) (h0 : Heap) (n0 : Nat) (Z0 : n0 ≤ h0.size) (S_OBJECT : Sta Z h0 "com/example/heapscribe/heapscribe/Hprof$BasicType" "OBJECT" "Lcom/example/heapscribe/heapscribe/Hprof$BasicType;" (.ref w_OBJECT)) (S_BOOLEAN : Sta Z h0 "com/example/heapscribe/heapscribe/Hprof$BasicType" "BOOLEAN" "Lcom/example/heapscribe/heapscribe/Hprof$BasicType;" (.ref w_BOOLEAN)) (S_CHAR : Sta Z h0 "com/example/heapscribe/heapscribe/Hprof$BasicType" "CHAR" "Lcom/example/heapscribe/heapscribe/Hprof$BasicType;" (.ref w_CHAR)) (S_FLOAT : Sta Z h0 "com/example/heapscribe/heapscribe/Hprof$BasicType" "FLOAT" "Lcom/example/heapscribe/heapscribe/Hprof$BasicType;" (.ref w_FLOAT)) (S_DOUBLE : Sta Z h0 "com/example/heapscribe/heapscribe/Hprof$BasicType" "DOUBLE" "Lcom/example/heapscribe/heapscribe/Hprof$BasicType;" (.ref w_DOUBLE)) (S_BYTE : Sta Z h0 "com/example/heapscribe/heapscribe/Hprof$BasicType" "BYTE" "Lcom/example/heapscribe/heapscribe/Hprof$BasicType;" (.ref w_BYTE)) (S_SHORT : Sta Z h0 "com/example/heapscribe/heapscribe/Hprof$BasicType" "SHORT" "Lcom/example/heapscribe/heapscribe/Hprof$BasicType;" (.ref w_SHORT)) (S_INT : Sta Z h0 "com/example/heapscribe/heapscribe/Hprof$BasicType" "INT" "Lcom/example/heapscribe/heapscribe/Hprof$BasicType;" (.ref w_INT)) (S_LONG : Sta Z h0 "com/example/heapscribe/heapscribe/Hprof$BasicType" "LONG" "Lcom/example/heapscribe/heapscribe/Hprof$BasicType;" (.ref w_LONG)) (S_BY_CODE : Sta Z h0 "com/example/heapscribe/heapscribe/Hprof$BasicType" "BY_CODE" "[Lcom/example/heapscribe/heapscribe/Hprof$BasicType;" (.ref w_BY_CODE)) (Ar_BY_CODE : Arr Z h0 w_BY_CODE cl_BY_CODE (.object "com/example/heapscribe/heapscribe/Hprof$BasicType")) (Z_BY_CODE : cl_BY_CODE.slots.size = 12) (hat : ∀ j : Int32, ¬ j < (0 : Int32) → j < (12 : Int32) → cl_BY_CODE.slots[j.toNatClampNeg]? = some (own_of j w_OBJECT w_BOOLEAN w_CHAR w_FLOAT w_DOUBLE w_BYTE w_SHORT w_INT w_LONG)) :
    MetFree l x (head1 (Jvm.Cond.code x code maxLocals ret :: ws) room_1) (fun a_ U_ => a_ = #[(.int k0), (.int k1), (.int k2)] ∧ Z.Warmed39 U_.vm ∧ U_.heap = h0) (fun _ _ _ _ _ => True) (fun _ U_ o_ V_ => ∃ v_ L_, o_ = .returned v_ ∧ Q_0 Z k0 k1 k2 w_OBJECT w_BOOLEAN w_CHAR w_FLOAT w_DOUBLE w_BYTE w_SHORT w_INT w_LONG w_BY_CODE cl_BY_CODE h0 n0 v_ V_.heap L_ ∧ FrameEnd U_ o_ V_ L_ room_1.cells room_1.slots) := by
  refine MetFree.of_bodySF (plainFor_of_name pn_1) hisR ?_
  intro p e s m args below meth c s₁ Bd hml0 hP hK
  obtain ⟨rfl, hZ, hh⟩ := hP
  have hx := Bd.exec
  have hby := Bd.bytes
  have hml : c.maxLocals = 5 := hml0
  have hown : s.vm.findClass "com/example/heapscribe/heapscribe/BasicTypeOfPinLaw" = some m.cls := findClass_of_methodNamed Bd.named
  have hnm := (name_of_methodNamed Bd.named Bd.method).1
  have X0 : Stand p l e room_1 s m #[(.int k0), (.int k1), (.int k2)] below meth c s₁ [] 0 0 := Stand.of_body Bd
  have e0 : s₁.heap = h0 := by rw [← hh, Bd.state]; rfl
  have N0 := Fr.nil n0
  have pre0 : ∀ t_, Steps p.tables e below (s₁.setTop (mkF m 0 #[.val (.int k0), .val (.int k1), .val (.int k2), .unset, .unset] [])) t_ → Steps p.tables e below (s₁.setTop (entryFrame m #[(.int k0), (.int k1), (.int k2)] maxLocals)) t_ := fun t_ k_ => castTop (ef_0 m k0 k1 k2) k_
  have pre47 : ∀ t_, Steps p.tables e below (s₁.setTop (mkF m 3 #[.val (.int k0), .val (.int k1), .val (.int k2), .unset, .unset] [(.int (k2 &&& (1 : Int32)))])) t_ → Steps p.tables e below (s₁.setTop (entryFrame m #[(.int k0), (.int k1), (.int k2)] maxLocals)) t_ := fun t_ k_ => pre0 t_ (by
    show Steps p.tables e below (s₁.setTop (mkF m 0 #[.val (.int k0), .val (.int k1), .val (.int k2), .unset, .unset] [])) _
    refine XS.iloadN X0.here hx rfl (hb hby at_0) rfl ?_
    show Steps p.tables e below (s₁.setTop (mkF m 1 #[.val (.int k0), .val (.int k1), .val (.int k2), .unset, .unset] [(.int k2)])) _
    refine XS.iconst X0.here hx rfl (hb hby at_1) ?_
    show Steps p.tables e below (s₁.setTop (mkF m 2 #[.val (.int k0), .val (.int k1), .val (.int k2), .unset, .unset] [(.int (1 : Int32)), (.int k2)])) _
    refine XS.iand X0.here hx rfl (hb hby at_2) rfl ?_
    show Steps p.tables e below (s₁.setTop (mkF m 3 #[.val (.int k0), .val (.int k1), .val (.int k2), .unset, .unset] [(.int (k2 &&& (1 : Int32)))])) _
    exact k_)
  by_cases hc3_48 : (k2 &&& (1 : Int32)) = (0 : Int32)
  · obtain ⟨v49, _, ⟨T49, L49, k49, n49⟩, -, X49, ⟨Lc49, hQ49, l49, y49, z49⟩, st49⟩ := Jvm.LawKit.callS X0 hx (y := (⟨"com/example/heapscribe/heapscribe/Hprof$BasicType", "of", "(I)Lcom/example/heapscribe/heapscribe/Hprof$BasicType;"⟩ : MethodName)) hown (mvT hZ (hw _ (List.mem_of_getElem? (i := 0) rfl))) (mvT hZ (hw _ (List.mem_of_getElem? (i := 1) rfl))) (mvT hZ (hw _ (List.mem_of_getElem? (i := 2) rfl))) (mvT hZ (hw _ (List.mem_of_getElem? (i := 3) rfl))) (by decide) (backOf (W := 0) (rm_1 l Z a0 hw [] k0 w_OBJECT w_BOOLEAN w_CHAR w_FLOAT w_DOUBLE w_BYTE w_SHORT w_INT w_LONG w_BY_CODE cl_BY_CODE h0 n0 Z0 S_BY_CODE Ar_BY_CODE Z_BY_CODE hat) hZ (hw _ (List.mem_of_getElem? (i := 3) rfl)) (hw _ (List.mem_of_getElem? (i := 2) rfl)) (by decide) (by decide)) (g := (mkF m 18 #[.val (.int k0), .val (.int k1), .val (.int k2), .val (.int k0), .unset] [(.int k0)])) rfl (by rw [hml]; rfl) (argsL := [(.int k0)]) (rest := []) (lenOf pd_0 rfl) rfl (by show 2 * 0 + _ ≤ _; exact Nat.le_of_eq rfl) (hb hby at_18) (fun _ _ => ⟨rfl, e0, (by decide : 0 + 0 ≤ _), (by decide : 0 + 0 ≤ _)⟩)
    dsimp only [Pt.U, Pt.locs, Pt.cells, Pt.slots] at X49 l49 y49 z49 st49 hQ49
    subst l49 y49 z49
    obtain ⟨hv49, N49q, e49⟩ := hQ49
    have N49 := Fr.app N0 N49q
    subst hv49
    obtain ⟨v50, _, ⟨T50, L50, k50, n50⟩, -, X50, ⟨Lc50, hQ50, l50, y50, z50⟩, st50⟩ := Jvm.LawKit.callS X49 hx (y := (⟨"com/example/heapscribe/heapscribe/BasicTypeOfPinLaw", "expected", "(I)Lcom/example/heapscribe/heapscribe/Hprof$BasicType;"⟩ : MethodName)) hown (mvT hZ (hw _ (List.mem_of_getElem? (i := 6) rfl))) (mvT hZ (hw _ (List.mem_of_getElem? (i := 7) rfl))) (mvT hZ (hw _ (List.mem_of_getElem? (i := 8) rfl))) (mvT hZ (hw _ (List.mem_of_getElem? (i := 9) rfl))) (by decide) (backOf (W := 1) (rm_2 l Z a0 hw [] k0 w_OBJECT w_BOOLEAN w_CHAR w_FLOAT w_DOUBLE w_BYTE w_SHORT w_INT w_LONG h0 n0 Z0 S_OBJECT S_BOOLEAN S_CHAR S_FLOAT S_DOUBLE S_BYTE S_SHORT S_INT S_LONG) hZ (hw _ (List.mem_of_getElem? (i := 9) rfl)) (hw _ (List.mem_of_getElem? (i := 8) rfl)) (by decide) (by decide)) (g := (mkF m 26 #[.val (.int k0), .val (.int k1), .val (.int k2), .val (.int k0), .val (own_of k0 w_OBJECT w_BOOLEAN w_CHAR w_FLOAT w_DOUBLE w_BYTE w_SHORT w_INT w_LONG)] [(.int k0), (own_of k0 w_OBJECT w_BOOLEAN w_CHAR w_FLOAT w_DOUBLE w_BYTE w_SHORT w_INT w_LONG)])) rfl (by rw [hml]; rfl) (argsL := [(.int k0)]) (rest := [(own_of k0 w_OBJECT w_BOOLEAN w_CHAR w_FLOAT w_DOUBLE w_BYTE w_SHORT w_INT w_LONG)]) (lenOf pd_0 rfl) rfl (by show 2 * 0 + _ ≤ _; simp [Jvm.Free.XT.cat1 (own_of_ref k0 w_OBJECT w_BOOLEAN w_CHAR w_FLOAT w_DOUBLE w_BYTE w_SHORT w_INT w_LONG)]) (hb hby at_26) (fun _ _ => ⟨rfl, e49, (by decide : 0 + 0 ≤ _), (by decide : 0 + 0 ≤ _)⟩)
    dsimp only [Pt.U, Pt.locs, Pt.cells, Pt.slots] at X50 l50 y50 z50 st50 hQ50
    subst l50 y50 z50
    obtain ⟨hv50, N50q, e50⟩ := hQ50
    have N50 := Fr.app N49 N50q
    subst hv50
    have pre51 : ∀ t_, Steps p.tables e below (T50.setTop (mkF m 37 #[.val (.int k0), .val (.int k1), .val (.int k2), .val (.int k0), .val (own_of k0 w_OBJECT w_BOOLEAN w_CHAR w_FLOAT w_DOUBLE w_BYTE w_SHORT w_INT w_LONG)] [(.int (1 : Int32))])) t_ → Steps p.tables e below (s₁.setTop (entryFrame m #[(.int k0), (.int k1), (.int k2)] maxLocals)) t_ := fun t_ k_ => pre47 t_ (by
      show Steps p.tables e below (s₁.setTop (mkF m 3 #[.val (.int k0), .val (.int k1), .val (.int k2), .unset, .unset] [(.int (k2 &&& (1 : Int32)))])) _
      refine XS.ifYes X0.here hx rfl (pc0 := 3) (pc' := 15) rfl (hb hby at_3) rfl ((if0 _ _).trans (teq hc3_48).1) (by decide) (by decide) ?_
      show Steps p.tables e below (s₁.setTop (mkF m 15 #[.val (.int k0), .val (.int k1), .val (.int k2), .unset, .unset] [])) _
      refine XS.iloadN X0.here hx rfl (hb hby at_15) rfl ?_
      show Steps p.tables e below (s₁.setTop (mkF m 16 #[.val (.int k0), .val (.int k1), .val (.int k2), .unset, .unset] [(.int k0)])) _
      refine XS.istoreN X0.here hx rfl (hb hby at_16) rfl (l' := #[.val (.int k0), .val (.int k1), .val (.int k2), .val (.int k0), .unset]) rfl ?_
      show Steps p.tables e below (s₁.setTop (mkF m 17 #[.val (.int k0), .val (.int k1), .val (.int k2), .val (.int k0), .unset] [])) _
      refine XS.iloadN X0.here hx rfl (hb hby at_17) rfl ?_
      show Steps p.tables e below (s₁.setTop (mkF m 18 #[.val (.int k0), .val (.int k1), .val (.int k2), .val (.int k0), .unset] [(.int k0)])) _
      refine st49 _ ?_
      show Steps p.tables e below (T49.setTop (mkF m 21 #[.val (.int k0), .val (.int k1), .val (.int k2), .val (.int k0), .unset] [(own_of k0 w_OBJECT w_BOOLEAN w_CHAR w_FLOAT w_DOUBLE w_BYTE w_SHORT w_INT w_LONG)])) _
      refine XS.astoreS X49.here hx rfl (hb hby at_21) rfl (own_of_ref k0 w_OBJECT w_BOOLEAN w_CHAR w_FLOAT w_DOUBLE w_BYTE w_SHORT w_INT w_LONG) (Jvm.Free.XT.cat1 (own_of_ref k0 w_OBJECT w_BOOLEAN w_CHAR w_FLOAT w_DOUBLE w_BYTE w_SHORT w_INT w_LONG)) rfl (Or.inl rfl) ?_
      show Steps p.tables e below (T49.setTop (mkF m 23 #[.val (.int k0), .val (.int k1), .val (.int k2), .val (.int k0), .val (own_of k0 w_OBJECT w_BOOLEAN w_CHAR w_FLOAT w_DOUBLE w_BYTE w_SHORT w_INT w_LONG)] [])) _
      refine XS.aload X49.here hx rfl (hb hby at_23) rfl (own_of_ref k0 w_OBJECT w_BOOLEAN w_CHAR w_FLOAT w_DOUBLE w_BYTE w_SHORT w_INT w_LONG) ?_
      show Steps p.tables e below (T49.setTop (mkF m 25 #[.val (.int k0), .val (.int k1), .val (.int k2), .val (.int k0), .val (own_of k0 w_OBJECT w_BOOLEAN w_CHAR w_FLOAT w_DOUBLE w_BYTE w_SHORT w_INT w_LONG)] [(own_of k0 w_OBJECT w_BOOLEAN w_CHAR w_FLOAT w_DOUBLE w_BYTE w_SHORT w_INT w_LONG)])) _
      refine XS.iloadN X49.here hx rfl (hb hby at_25) rfl ?_
      show Steps p.tables e below (T49.setTop (mkF m 26 #[.val (.int k0), .val (.int k1), .val (.int k2), .val (.int k0), .val (own_of k0 w_OBJECT w_BOOLEAN w_CHAR w_FLOAT w_DOUBLE w_BYTE w_SHORT w_INT w_LONG)] [(.int k0), (own_of k0 w_OBJECT w_BOOLEAN w_CHAR w_FLOAT w_DOUBLE w_BYTE w_SHORT w_INT w_LONG)])) _
      refine st50 _ ?_
      show Steps p.tables e below (T50.setTop (mkF m 29 #[.val (.int k0), .val (.int k1), .val (.int k2), .val (.int k0), .val (own_of k0 w_OBJECT w_BOOLEAN w_CHAR w_FLOAT w_DOUBLE w_BYTE w_SHORT w_INT w_LONG)] [(own_of k0 w_OBJECT w_BOOLEAN w_CHAR w_FLOAT w_DOUBLE w_BYTE w_SHORT w_INT w_LONG), (own_of k0 w_OBJECT w_BOOLEAN w_CHAR w_FLOAT w_DOUBLE w_BYTE w_SHORT w_INT w_LONG)])) _
      refine Jvm.RoadKit.acmp (g := (mkF m 29 #[.val (.int k0), .val (.int k1), .val (.int k2), .val (.int k0), .val (own_of k0 w_OBJECT w_BOOLEAN w_CHAR w_FLOAT w_DOUBLE w_BYTE w_SHORT w_INT w_LONG)] [(own_of k0 w_OBJECT w_BOOLEAN w_CHAR w_FLOAT w_DOUBLE w_BYTE w_SHORT w_INT w_LONG), (own_of k0 w_OBJECT w_BOOLEAN w_CHAR w_FLOAT w_DOUBLE w_BYTE w_SHORT w_INT w_LONG)])) X50 hx rfl (own_of_ref k0 w_OBJECT w_BOOLEAN w_CHAR w_FLOAT w_DOUBLE w_BYTE w_SHORT w_INT w_LONG) (own_of_ref k0 w_OBJECT w_BOOLEAN w_CHAR w_FLOAT w_DOUBLE w_BYTE w_SHORT w_INT w_LONG) (pc0 := 29) (pc' := 32) (same := true) rfl (hb hby at_29) rfl (decide_eq_true rfl) (by decide) (by decide) ?_
      show Steps p.tables e below (T50.setTop (mkF m 32 #[.val (.int k0), .val (.int k1), .val (.int k2), .val (.int k0), .val (own_of k0 w_OBJECT w_BOOLEAN w_CHAR w_FLOAT w_DOUBLE w_BYTE w_SHORT w_INT w_LONG)] [])) _
      refine XS.iconst X50.here hx rfl (hb hby at_32) ?_
      show Steps p.tables e below (T50.setTop (mkF m 33 #[.val (.int k0), .val (.int k1), .val (.int k2), .val (.int k0), .val (own_of k0 w_OBJECT w_BOOLEAN w_CHAR w_FLOAT w_DOUBLE w_BYTE w_SHORT w_INT w_LONG)] [(.int (1 : Int32))])) _
      refine XS.goto X50.here hx rfl (pc0 := 33) (pc' := 37) rfl (hb hby at_33) (by decide) (by decide) ?_
      show Steps p.tables e below (T50.setTop (mkF m 37 #[.val (.int k0), .val (.int k1), .val (.int k2), .val (.int k0), .val (own_of k0 w_OBJECT w_BOOLEAN w_CHAR w_FLOAT w_DOUBLE w_BYTE w_SHORT w_INT w_LONG)] [(.int (1 : Int32))])) _
      exact k_)
    obtain ⟨fs, hr, hrun, hended, hW, hsame⟩ := X50.leave (v := some (.int (1 : Int32))) (fun h => by rw [Bd.returns] at h; cases h)
    refine ⟨_, _, pre51 _ ?_, hrun, hended, _, _, rfl, ?_, ⟨_, rfl⟩, hW, hsame.mono (by decide) (by decide)⟩
    · show Steps p.tables e below (T50.setTop (mkF m 37 #[.val (.int k0), .val (.int k1), .val (.int k2), .val (.int k0), .val (own_of k0 w_OBJECT w_BOOLEAN w_CHAR w_FLOAT w_DOUBLE w_BYTE w_SHORT w_INT w_LONG)] [(.int (1 : Int32))])) _
      exact retN X50 hx (t := .boolean) Bd.returns (by simp) (hb hby at_37) hr
    · show Q_0 Z k0 k1 k2 w_OBJECT w_BOOLEAN w_CHAR w_FLOAT w_DOUBLE w_BYTE w_SHORT w_INT w_LONG w_BY_CODE cl_BY_CODE h0 n0 _ T50.heap _
      rw [e50]
      exact ⟨rfl, N50⟩
  · obtain ⟨v52, _, ⟨T52, L52, k52, n52⟩, -, X52, ⟨Lc52, hQ52, l52, y52, z52⟩, st52⟩ := Jvm.LawKit.callS X0 hx (y := (⟨"com/example/heapscribe/heapscribe/Hprof$BasicType", "of", "(I)Lcom/example/heapscribe/heapscribe/Hprof$BasicType;"⟩ : MethodName)) hown (mvT hZ (hw _ (List.mem_of_getElem? (i := 0) rfl))) (mvT hZ (hw _ (List.mem_of_getElem? (i := 1) rfl))) (mvT hZ (hw _ (List.mem_of_getElem? (i := 2) rfl))) (mvT hZ (hw _ (List.mem_of_getElem? (i := 3) rfl))) (by decide) (backOf (W := 0) (rm_1 l Z a0 hw [] ((k1 &&& (15 : Int32)) - (2 : Int32)) w_OBJECT w_BOOLEAN w_CHAR w_FLOAT w_DOUBLE w_BYTE w_SHORT w_INT w_LONG w_BY_CODE cl_BY_CODE h0 n0 Z0 S_BY_CODE Ar_BY_CODE Z_BY_CODE hat) hZ (hw _ (List.mem_of_getElem? (i := 3) rfl)) (hw _ (List.mem_of_getElem? (i := 2) rfl)) (by decide) (by decide)) (g := (mkF m 18 #[.val (.int k0), .val (.int k1), .val (.int k2), .val (.int ((k1 &&& (15 : Int32)) - (2 : Int32))), .unset] [(.int ((k1 &&& (15 : Int32)) - (2 : Int32)))])) rfl (by rw [hml]; rfl) (argsL := [(.int ((k1 &&& (15 : Int32)) - (2 : Int32)))]) (rest := []) (lenOf pd_0 rfl) rfl (by show 2 * 0 + _ ≤ _; exact Nat.le_of_eq rfl) (hb hby at_18) (fun _ _ => ⟨rfl, e0, (by decide : 0 + 0 ≤ _), (by decide : 0 + 0 ≤ _)⟩)
    dsimp only [Pt.U, Pt.locs, Pt.cells, Pt.slots] at X52 l52 y52 z52 st52 hQ52
    subst l52 y52 z52
    obtain ⟨hv52, N52q, e52⟩ := hQ52
    have N52 := Fr.app N0 N52q
    subst hv52
    obtain ⟨v53, _, ⟨T53, L53, k53, n53⟩, -, X53, ⟨Lc53, hQ53, l53, y53, z53⟩, st53⟩ := Jvm.LawKit.callS X52 hx (y := (⟨"com/example/heapscribe/heapscribe/BasicTypeOfPinLaw", "expected", "(I)Lcom/example/heapscribe/heapscribe/Hprof$BasicType;"⟩ : MethodName)) hown (mvT hZ (hw _ (List.mem_of_getElem? (i := 6) rfl))) (mvT hZ (hw _ (List.mem_of_getElem? (i := 7) rfl))) (mvT hZ (hw _ (List.mem_of_getElem? (i := 8) rfl))) (mvT hZ (hw _ (List.mem_of_getElem? (i := 9) rfl))) (by decide) (backOf (W := 1) (rm_2 l Z a0 hw [] ((k1 &&& (15 : Int32)) - (2 : Int32)) w_OBJECT w_BOOLEAN w_CHAR w_FLOAT w_DOUBLE w_BYTE w_SHORT w_INT w_LONG h0 n0 Z0 S_OBJECT S_BOOLEAN S_CHAR S_FLOAT S_DOUBLE S_BYTE S_SHORT S_INT S_LONG) hZ (hw _ (List.mem_of_getElem? (i := 9) rfl)) (hw _ (List.mem_of_getElem? (i := 8) rfl)) (by decide) (by decide)) (g := (mkF m 26 #[.val (.int k0), .val (.int k1), .val (.int k2), .val (.int ((k1 &&& (15 : Int32)) - (2 : Int32))), .val (own_of ((k1 &&& (15 : Int32)) - (2 : Int32)) w_OBJECT w_BOOLEAN w_CHAR w_FLOAT w_DOUBLE w_BYTE w_SHORT w_INT w_LONG)] [(.int ((k1 &&& (15 : Int32)) - (2 : Int32))), (own_of ((k1 &&& (15 : Int32)) - (2 : Int32)) w_OBJECT w_BOOLEAN w_CHAR w_FLOAT w_DOUBLE w_BYTE w_SHORT w_INT w_LONG)])) rfl (by rw [hml]; rfl) (argsL := [(.int ((k1 &&& (15 : Int32)) - (2 : Int32)))]) (rest := [(own_of ((k1 &&& (15 : Int32)) - (2 : Int32)) w_OBJECT w_BOOLEAN w_CHAR w_FLOAT w_DOUBLE w_BYTE w_SHORT w_INT w_LONG)]) (lenOf pd_0 rfl) rfl (by show 2 * 0 + _ ≤ _; simp [Jvm.Free.XT.cat1 (own_of_ref ((k1 &&& (15 : Int32)) - (2 : Int32)) w_OBJECT w_BOOLEAN w_CHAR w_FLOAT w_DOUBLE w_BYTE w_SHORT w_INT w_LONG)]) (hb hby at_26) (fun _ _ => ⟨rfl, e52, (by decide : 0 + 0 ≤ _), (by decide : 0 + 0 ≤ _)⟩)
    dsimp only [Pt.U, Pt.locs, Pt.cells, Pt.slots] at X53 l53 y53 z53 st53 hQ53
    subst l53 y53 z53
    obtain ⟨hv53, N53q, e53⟩ := hQ53
    have N53 := Fr.app N52 N53q
    subst hv53
    have pre54 : ∀ t_, Steps p.tables e below (T53.setTop (mkF m 37 #[.val (.int k0), .val (.int k1), .val (.int k2), .val (.int ((k1 &&& (15 : Int32)) - (2 : Int32))), .val (own_of ((k1 &&& (15 : Int32)) - (2 : Int32)) w_OBJECT w_BOOLEAN w_CHAR w_FLOAT w_DOUBLE w_BYTE w_SHORT w_INT w_LONG)] [(.int (1 : Int32))])) t_ → Steps p.tables e below (s₁.setTop (entryFrame m #[(.int k0), (.int k1), (.int k2)] maxLocals)) t_ := fun t_ k_ => pre47 t_ (by
      show Steps p.tables e below (s₁.setTop (mkF m 3 #[.val (.int k0), .val (.int k1), .val (.int k2), .unset, .unset] [(.int (k2 &&& (1 : Int32)))])) _
      refine XS.ifNo X0.here hx rfl (hb hby at_3) rfl ((if0 _ _).trans (feq hc3_48).1) ?_
      show Steps p.tables e below (s₁.setTop (mkF m 6 #[.val (.int k0), .val (.int k1), .val (.int k2), .unset, .unset] [])) _
      refine XS.iloadN X0.here hx rfl (hb hby at_6) rfl ?_
      show Steps p.tables e below (s₁.setTop (mkF m 7 #[.val (.int k0), .val (.int k1), .val (.int k2), .unset, .unset] [(.int k1)])) _
      refine XS.bipush X0.here hx rfl (hb hby at_7) ?_
      show Steps p.tables e below (s₁.setTop (mkF m 9 #[.val (.int k0), .val (.int k1), .val (.int k2), .unset, .unset] [(.int (15 : Int32)), (.int k1)])) _
      refine XS.iand X0.here hx rfl (hb hby at_9) rfl ?_
      show Steps p.tables e below (s₁.setTop (mkF m 10 #[.val (.int k0), .val (.int k1), .val (.int k2), .unset, .unset] [(.int (k1 &&& (15 : Int32)))])) _
      refine XS.iconst X0.here hx rfl (hb hby at_10) ?_
      show Steps p.tables e below (s₁.setTop (mkF m 11 #[.val (.int k0), .val (.int k1), .val (.int k2), .unset, .unset] [(.int (2 : Int32)), (.int (k1 &&& (15 : Int32)))])) _
      refine XS.isub X0.here hx rfl (hb hby at_11) rfl ?_
      show Steps p.tables e below (s₁.setTop (mkF m 12 #[.val (.int k0), .val (.int k1), .val (.int k2), .unset, .unset] [(.int ((k1 &&& (15 : Int32)) - (2 : Int32)))])) _
      refine XS.goto X0.here hx rfl (pc0 := 12) (pc' := 16) rfl (hb hby at_12) (by decide) (by decide) ?_
      show Steps p.tables e below (s₁.setTop (mkF m 16 #[.val (.int k0), .val (.int k1), .val (.int k2), .unset, .unset] [(.int ((k1 &&& (15 : Int32)) - (2 : Int32)))])) _
      refine XS.istoreN X0.here hx rfl (hb hby at_16) rfl (l' := #[.val (.int k0), .val (.int k1), .val (.int k2), .val (.int ((k1 &&& (15 : Int32)) - (2 : Int32))), .unset]) rfl ?_
      show Steps p.tables e below (s₁.setTop (mkF m 17 #[.val (.int k0), .val (.int k1), .val (.int k2), .val (.int ((k1 &&& (15 : Int32)) - (2 : Int32))), .unset] [])) _
      refine XS.iloadN X0.here hx rfl (hb hby at_17) rfl ?_
      show Steps p.tables e below (s₁.setTop (mkF m 18 #[.val (.int k0), .val (.int k1), .val (.int k2), .val (.int ((k1 &&& (15 : Int32)) - (2 : Int32))), .unset] [(.int ((k1 &&& (15 : Int32)) - (2 : Int32)))])) _
      refine st52 _ ?_
      show Steps p.tables e below (T52.setTop (mkF m 21 #[.val (.int k0), .val (.int k1), .val (.int k2), .val (.int ((k1 &&& (15 : Int32)) - (2 : Int32))), .unset] [(own_of ((k1 &&& (15 : Int32)) - (2 : Int32)) w_OBJECT w_BOOLEAN w_CHAR w_FLOAT w_DOUBLE w_BYTE w_SHORT w_INT w_LONG)])) _
      refine XS.astoreS X52.here hx rfl (hb hby at_21) rfl (own_of_ref ((k1 &&& (15 : Int32)) - (2 : Int32)) w_OBJECT w_BOOLEAN w_CHAR w_FLOAT w_DOUBLE w_BYTE w_SHORT w_INT w_LONG) (Jvm.Free.XT.cat1 (own_of_ref ((k1 &&& (15 : Int32)) - (2 : Int32)) w_OBJECT w_BOOLEAN w_CHAR w_FLOAT w_DOUBLE w_BYTE w_SHORT w_INT w_LONG)) rfl (Or.inl rfl) ?_
      show Steps p.tables e below (T52.setTop (mkF m 23 #[.val (.int k0), .val (.int k1), .val (.int k2), .val (.int ((k1 &&& (15 : Int32)) - (2 : Int32))), .val (own_of ((k1 &&& (15 : Int32)) - (2 : Int32)) w_OBJECT w_BOOLEAN w_CHAR w_FLOAT w_DOUBLE w_BYTE w_SHORT w_INT w_LONG)] [])) _
      refine XS.aload X52.here hx rfl (hb hby at_23) rfl (own_of_ref ((k1 &&& (15 : Int32)) - (2 : Int32)) w_OBJECT w_BOOLEAN w_CHAR w_FLOAT w_DOUBLE w_BYTE w_SHORT w_INT w_LONG) ?_
      show Steps p.tables e below (T52.setTop (mkF m 25 #[.val (.int k0), .val (.int k1), .val (.int k2), .val (.int ((k1 &&& (15 : Int32)) - (2 : Int32))), .val (own_of ((k1 &&& (15 : Int32)) - (2 : Int32)) w_OBJECT w_BOOLEAN w_CHAR w_FLOAT w_DOUBLE w_BYTE w_SHORT w_INT w_LONG)] [(own_of ((k1 &&& (15 : Int32)) - (2 : Int32)) w_OBJECT w_BOOLEAN w_CHAR w_FLOAT w_DOUBLE w_BYTE w_SHORT w_INT w_LONG)])) _
      refine XS.iloadN X52.here hx rfl (hb hby at_25) rfl ?_
      show Steps p.tables e below (T52.setTop (mkF m 26 #[.val (.int k0), .val (.int k1), .val (.int k2), .val (.int ((k1 &&& (15 : Int32)) - (2 : Int32))), .val (own_of ((k1 &&& (15 : Int32)) - (2 : Int32)) w_OBJECT w_BOOLEAN w_CHAR w_FLOAT w_DOUBLE w_BYTE w_SHORT w_INT w_LONG)] [(.int ((k1 &&& (15 : Int32)) - (2 : Int32))), (own_of ((k1 &&& (15 : Int32)) - (2 : Int32)) w_OBJECT w_BOOLEAN w_CHAR w_FLOAT w_DOUBLE w_BYTE w_SHORT w_INT w_LONG)])) _
      refine st53 _ ?_
      show Steps p.tables e below (T53.setTop (mkF m 29 #[.val (.int k0), .val (.int k1), .val (.int k2), .val (.int ((k1 &&& (15 : Int32)) - (2 : Int32))), .val (own_of ((k1 &&& (15 : Int32)) - (2 : Int32)) w_OBJECT w_BOOLEAN w_CHAR w_FLOAT w_DOUBLE w_BYTE w_SHORT w_INT w_LONG)] [(own_of ((k1 &&& (15 : Int32)) - (2 : Int32)) w_OBJECT w_BOOLEAN w_CHAR w_FLOAT w_DOUBLE w_BYTE w_SHORT w_INT w_LONG), (own_of ((k1 &&& (15 : Int32)) - (2 : Int32)) w_OBJECT w_BOOLEAN w_CHAR w_FLOAT w_DOUBLE w_BYTE w_SHORT w_INT w_LONG)])) _
      refine Jvm.RoadKit.acmp (g := (mkF m 29 #[.val (.int k0), .val (.int k1), .val (.int k2), .val (.int ((k1 &&& (15 : Int32)) - (2 : Int32))), .val (own_of ((k1 &&& (15 : Int32)) - (2 : Int32)) w_OBJECT w_BOOLEAN w_CHAR w_FLOAT w_DOUBLE w_BYTE w_SHORT w_INT w_LONG)] [(own_of ((k1 &&& (15 : Int32)) - (2 : Int32)) w_OBJECT w_BOOLEAN w_CHAR w_FLOAT w_DOUBLE w_BYTE w_SHORT w_INT w_LONG), (own_of ((k1 &&& (15 : Int32)) - (2 : Int32)) w_OBJECT w_BOOLEAN w_CHAR w_FLOAT w_DOUBLE w_BYTE w_SHORT w_INT w_LONG)])) X53 hx rfl (own_of_ref ((k1 &&& (15 : Int32)) - (2 : Int32)) w_OBJECT w_BOOLEAN w_CHAR w_FLOAT w_DOUBLE w_BYTE w_SHORT w_INT w_LONG) (own_of_ref ((k1 &&& (15 : Int32)) - (2 : Int32)) w_OBJECT w_BOOLEAN w_CHAR w_FLOAT w_DOUBLE w_BYTE w_SHORT w_INT w_LONG) (pc0 := 29) (pc' := 32) (same := true) rfl (hb hby at_29) rfl (decide_eq_true rfl) (by decide) (by decide) ?_
      show Steps p.tables e below (T53.setTop (mkF m 32 #[.val (.int k0), .val (.int k1), .val (.int k2), .val (.int ((k1 &&& (15 : Int32)) - (2 : Int32))), .val (own_of ((k1 &&& (15 : Int32)) - (2 : Int32)) w_OBJECT w_BOOLEAN w_CHAR w_FLOAT w_DOUBLE w_BYTE w_SHORT w_INT w_LONG)] [])) _
      refine XS.iconst X53.here hx rfl (hb hby at_32) ?_
      show Steps p.tables e below (T53.setTop (mkF m 33 #[.val (.int k0), .val (.int k1), .val (.int k2), .val (.int ((k1 &&& (15 : Int32)) - (2 : Int32))), .val (own_of ((k1 &&& (15 : Int32)) - (2 : Int32)) w_OBJECT w_BOOLEAN w_CHAR w_FLOAT w_DOUBLE w_BYTE w_SHORT w_INT w_LONG)] [(.int (1 : Int32))])) _
      refine XS.goto X53.here hx rfl (pc0 := 33) (pc' := 37) rfl (hb hby at_33) (by decide) (by decide) ?_
      show Steps p.tables e below (T53.setTop (mkF m 37 #[.val (.int k0), .val (.int k1), .val (.int k2), .val (.int ((k1 &&& (15 : Int32)) - (2 : Int32))), .val (own_of ((k1 &&& (15 : Int32)) - (2 : Int32)) w_OBJECT w_BOOLEAN w_CHAR w_FLOAT w_DOUBLE w_BYTE w_SHORT w_INT w_LONG)] [(.int (1 : Int32))])) _
      exact k_)
    obtain ⟨fs, hr, hrun, hended, hW, hsame⟩ := X53.leave (v := some (.int (1 : Int32))) (fun h => by rw [Bd.returns] at h; cases h)
    refine ⟨_, _, pre54 _ ?_, hrun, hended, _, _, rfl, ?_, ⟨_, rfl⟩, hW, hsame.mono (by decide) (by decide)⟩
    · show Steps p.tables e below (T53.setTop (mkF m 37 #[.val (.int k0), .val (.int k1), .val (.int k2), .val (.int ((k1 &&& (15 : Int32)) - (2 : Int32))), .val (own_of ((k1 &&& (15 : Int32)) - (2 : Int32)) w_OBJECT w_BOOLEAN w_CHAR w_FLOAT w_DOUBLE w_BYTE w_SHORT w_INT w_LONG)] [(.int (1 : Int32))])) _
      exact retN X53 hx (t := .boolean) Bd.returns (by simp) (hb hby at_37) hr
    · show Q_0 Z k0 k1 k2 w_OBJECT w_BOOLEAN w_CHAR w_FLOAT w_DOUBLE w_BYTE w_SHORT w_INT w_LONG w_BY_CODE cl_BY_CODE h0 n0 _ T53.heap _
      rw [e53]
      exact ⟨rfl, N53⟩
set_option maxRecDepth 65536 in
set_option maxHeartbeats 40000000 in
theorem comes_1 {Post : Tables → Env → Array Value → State → Outcome → State → Prop} (hpost : ∀ tb e args s v u, (limb_1_1.after args s (.returned v) u = true ∧ limb_1_2.after args s (.returned v) u = true ∧ True) → FrameEnd s (.returned v) u (Jvm.fieldLocs frame_1_writes args s ++ Jvm.arrayLocs frame_1_arrays args s ++ Jvm.staticLocs frame_1_statics s) 0 0 → Post tb e args s (.returned v) u) :
    ArmFor flags0 classFile x code maxLocals ret World_1 tables_1 room_1 Calls_1 rest_1 Pre_1 Post := by
  intro l hfl _ _ p e ha hc hk s m args below hf hA hF happ hP
  obtain ⟨hcalls, hrest, hpre⟩ := hP
  obtain ⟨-, -, -, hnamed, -, -, -, hat⟩ := (Spec.applies_iff hf).mp happ
  obtain ⟨hg, hn⟩ := and_e (Cond.before_iff.mp (show (Jvm.Cond.and given_1 narrow_1).before args s = true from hpre))
  obtain ⟨hcount, hg0⟩ := and_e hg
  obtain ⟨hi0, hg1⟩ := and_e hg0
  obtain ⟨hi1, hg2⟩ := and_e hg1
  obtain ⟨w0, w1, w2, rfl⟩ : ∃ w0 w1 w2 : Value, args = #[w0, w1, w2] := by
    have hs : args.size = 3 := by simpa [Cond.value, given_1] using hcount
    obtain ⟨L⟩ := args
    match L, hs with
    | [w0, w1, w2], _ => exact ⟨w0, w1, w2, rfl⟩
  have hw := fun d (hd : d ∈ tables_1) => atoms_spec (ws := Jvm.Cond.code x code maxLocals ret :: tables_1) hat d (List.mem_cons_of_mem _ hd)
  have hfit : Fit s := fun {y c} hc i hi => by
    obtain ⟨ha, rfl⟩ := Array.getElem?_eq_some_iff.mp hc
    have q := List.all_eq_true.mp ((Array.all_eq_true_iff_forall_mem.mp hF) _ (Array.getElem_mem ha)) i (List.mem_range.mpr hi)
    simpa [Array.getElem?_eq_getElem hi] using q
  obtain ⟨i0, ei0⟩ := is_v hi0
  obtain rfl : w0 = (.int i0) := Option.some.inj ei0
  obtain ⟨i1, ei1⟩ := is_v hi1
  obtain rfl : w1 = (.int i1) := Option.some.inj ei1
  obtain ⟨i2, ei2⟩ := is_v hg2
  obtain rfl : w2 = (.int i2) := Option.some.inj ei2
  obtain ⟨g0, hn_0⟩ := and_e hn
  obtain ⟨g1, hn_1⟩ := and_e hn_0
  obtain ⟨g2, hn_2⟩ := and_e hn_1
  obtain ⟨g3, hn_3⟩ := and_e hn_2
  obtain ⟨g4, hn_4⟩ := and_e hn_3
  obtain ⟨g5, hn_5⟩ := and_e hn_4
  obtain ⟨g6, hn_6⟩ := and_e hn_5
  obtain ⟨g7, hn_7⟩ := and_e hn_6
  obtain ⟨g8, hn_8⟩ := and_e hn_7
  obtain ⟨g9, hn_9⟩ := and_e hn_8
  obtain ⟨g10, hn_10⟩ := and_e hn_9
  obtain ⟨g11, hn_11⟩ := and_e hn_10
  obtain ⟨g12, hn_12⟩ := and_e hn_11
  obtain ⟨g13, hn_13⟩ := and_e hn_12
  obtain ⟨g14, hn_14⟩ := and_e hn_13
  obtain ⟨g15, hn_15⟩ := and_e hn_14
  obtain ⟨g16, hn_16⟩ := and_e hn_15
  obtain ⟨g17, hn_17⟩ := and_e hn_16
  obtain ⟨g18, hn_18⟩ := and_e hn_17
  obtain ⟨g19, hn_19⟩ := and_e hn_18
  obtain ⟨g20, hn_20⟩ := and_e hn_19
  obtain ⟨g21, hn_21⟩ := and_e hn_20
  have g22 := hn_21
  obtain ⟨w_INT, ev_INT, S_INT, E_INT⟩ := own_sta (hw _ (List.mem_of_getElem? (i := 2) rfl)) (hw _ (List.mem_of_getElem? (i := 10) rfl)) g3
  obtain ⟨w_BYTE, ev_BYTE, S_BYTE, E_BYTE⟩ := own_sta (hw _ (List.mem_of_getElem? (i := 2) rfl)) (hw _ (List.mem_of_getElem? (i := 12) rfl)) g5
  obtain ⟨w_SHORT, ev_SHORT, S_SHORT, E_SHORT⟩ := own_sta (hw _ (List.mem_of_getElem? (i := 2) rfl)) (hw _ (List.mem_of_getElem? (i := 14) rfl)) g7
  obtain ⟨w_LONG, ev_LONG, S_LONG, E_LONG⟩ := own_sta (hw _ (List.mem_of_getElem? (i := 2) rfl)) (hw _ (List.mem_of_getElem? (i := 16) rfl)) g11
  obtain ⟨w_CHAR, ev_CHAR, S_CHAR, E_CHAR⟩ := own_sta (hw _ (List.mem_of_getElem? (i := 2) rfl)) (hw _ (List.mem_of_getElem? (i := 18) rfl)) g13
  obtain ⟨w_OBJECT, ev_OBJECT, S_OBJECT, E_OBJECT⟩ := own_sta (hw _ (List.mem_of_getElem? (i := 2) rfl)) (hw _ (List.mem_of_getElem? (i := 20) rfl)) g15
  obtain ⟨w_FLOAT, ev_FLOAT, S_FLOAT, E_FLOAT⟩ := own_sta (hw _ (List.mem_of_getElem? (i := 2) rfl)) (hw _ (List.mem_of_getElem? (i := 22) rfl)) g17
  obtain ⟨w_DOUBLE, ev_DOUBLE, S_DOUBLE, E_DOUBLE⟩ := own_sta (hw _ (List.mem_of_getElem? (i := 2) rfl)) (hw _ (List.mem_of_getElem? (i := 24) rfl)) g19
  obtain ⟨w_BOOLEAN, ev_BOOLEAN, S_BOOLEAN, E_BOOLEAN⟩ := own_sta (hw _ (List.mem_of_getElem? (i := 2) rfl)) (hw _ (List.mem_of_getElem? (i := 26) rfl)) g21
  obtain ⟨w_BY_CODE, ev_BY_CODE, S_BY_CODE, cl_BY_CODE, Ar_BY_CODE⟩ := own_staA (hw _ (List.mem_of_getElem? (i := 2) rfl)) (hw _ (List.mem_of_getElem? (i := 5) rfl)) g0
  have Z_BY_CODE : cl_BY_CODE.slots.size = 12 := own_len ev_BY_CODE Ar_BY_CODE g1 (by decide)
  have el_BY_CODE_0 : cl_BY_CODE.slots[0]? = some .null := own_elN ev_BY_CODE Ar_BY_CODE g2 (k := (0 : Int32)) (by decide)
  have el_BY_CODE_10 : cl_BY_CODE.slots[10]? = some (.ref w_INT) := own_elR ev_BY_CODE Ar_BY_CODE ev_INT g4 (k := (10 : Int32)) (by decide)
  have el_BY_CODE_8 : cl_BY_CODE.slots[8]? = some (.ref w_BYTE) := own_elR ev_BY_CODE Ar_BY_CODE ev_BYTE g6 (k := (8 : Int32)) (by decide)
  have el_BY_CODE_9 : cl_BY_CODE.slots[9]? = some (.ref w_SHORT) := own_elR ev_BY_CODE Ar_BY_CODE ev_SHORT g8 (k := (9 : Int32)) (by decide)
  have el_BY_CODE_1 : cl_BY_CODE.slots[1]? = some .null := own_elN ev_BY_CODE Ar_BY_CODE g9 (k := (1 : Int32)) (by decide)
  have el_BY_CODE_3 : cl_BY_CODE.slots[3]? = some .null := own_elN ev_BY_CODE Ar_BY_CODE g10 (k := (3 : Int32)) (by decide)
  have el_BY_CODE_11 : cl_BY_CODE.slots[11]? = some (.ref w_LONG) := own_elR ev_BY_CODE Ar_BY_CODE ev_LONG g12 (k := (11 : Int32)) (by decide)
  have el_BY_CODE_5 : cl_BY_CODE.slots[5]? = some (.ref w_CHAR) := own_elR ev_BY_CODE Ar_BY_CODE ev_CHAR g14 (k := (5 : Int32)) (by decide)
  have el_BY_CODE_2 : cl_BY_CODE.slots[2]? = some (.ref w_OBJECT) := own_elR ev_BY_CODE Ar_BY_CODE ev_OBJECT g16 (k := (2 : Int32)) (by decide)
  have el_BY_CODE_6 : cl_BY_CODE.slots[6]? = some (.ref w_FLOAT) := own_elR ev_BY_CODE Ar_BY_CODE ev_FLOAT g18 (k := (6 : Int32)) (by decide)
  have el_BY_CODE_7 : cl_BY_CODE.slots[7]? = some (.ref w_DOUBLE) := own_elR ev_BY_CODE Ar_BY_CODE ev_DOUBLE g20 (k := (7 : Int32)) (by decide)
  have el_BY_CODE_4 : cl_BY_CODE.slots[4]? = some (.ref w_BOOLEAN) := own_elR ev_BY_CODE Ar_BY_CODE ev_BOOLEAN g22 (k := (4 : Int32)) (by decide)
  obtain ⟨n, o, h1, h2, h3, _, L, rfl, ⟨rfl, N⟩, hq⟩ := rm_0 l s _ hw tables_1 i0 i1 i2 w_OBJECT w_BOOLEAN w_CHAR w_FLOAT w_DOUBLE w_BYTE w_SHORT w_INT w_LONG w_BY_CODE cl_BY_CODE s.heap s.heap.size (Nat.le_refl _) S_OBJECT S_BOOLEAN S_CHAR S_FLOAT S_DOUBLE S_BYTE S_SHORT S_INT S_LONG S_BY_CODE Ar_BY_CODE Z_BY_CODE (own_tab w_OBJECT w_BOOLEAN w_CHAR w_FLOAT w_DOUBLE w_BYTE w_SHORT w_INT w_LONG el_BY_CODE_0 el_BY_CODE_1 el_BY_CODE_2 el_BY_CODE_3 el_BY_CODE_4 el_BY_CODE_5 el_BY_CODE_6 el_BY_CODE_7 el_BY_CODE_8 el_BY_CODE_9 el_BY_CODE_10 el_BY_CODE_11) p e ha hc hk s m _ below hf ((Spec.applies_iff_loose hf).mp happ).1 ⟨rfl, State.Warmed39.refl s, rfl⟩ trivial
  refine ⟨n, _, h1, h2, h3, hpost _ _ _ _ _ _ ⟨Cond.after_iff.mpr rfl, Cond.after_iff.mpr (eq_i res_at (Term.int_eval (1)) rfl), trivial⟩ ⟨hq.1, hq.2.1, (hq.2.2.sift fun y hy => Or.inr (N y hy)).mono (by decide) (by decide)⟩⟩
theorem main_1_1 : Claimed_1_1 := comes_1 fun _ _ _ _ _ _ h hF => ⟨h.1, hF⟩
theorem main_1_2 : Claimed_1_2 := comes_1 fun _ _ _ _ _ _ h hF => ⟨h.2.1, hF⟩
end Jvm.Pilot.@@N@@
namespace Jvm.Pilot.@@N@@
open Jvm Jvm.ClassFile Sem Op Lib Jvm.Free Jvm.Stand Jvm.Pilot.@@N@@.Jvm.D
/-! MADE BY PROGRAM (witnessworld.py) out of the Statement's table words and the real class files: 13 classes; the members and pool entries that the words name. The judged class is class 1, her method 2. -/
namespace start1
open Jvm.ClassFile
def u (s : String) : CpInfo := .utf8 (stringToUtf16 s)
/-- a pool by its gaps: so many unusable entries, then the entry; so many at the end -/
def gap : Nat → List CpInfo → List CpInfo
  | 0, r => r
  | n + 1, r => .unusable :: gap n r
def poolList (es : List (Nat × CpInfo)) (last : Nat) : List CpInfo := es.foldr (fun e r => gap e.1 (e.2 :: r)) (gap last [])
def pool (es : List (Nat × CpInfo)) (last : Nat) : Array CpInfo := ⟨poolList es last⟩
def fileOf (pool : Array CpInfo) (this : Nat) (attrs : Array Attribute := #[]) (ms : Array MethodInfo := #[]) (fl : Nat := 33) (sup : Nat := 0) (ifs : Array Nat := #[]) (fds : Array FieldInfo := #[]) : ClassFile where
  minorVersion := 0
  majorVersion := 65
  constantPool := pool
  accessFlags := fl
  thisClass := this
  superClass := sup
  interfaces := ifs
  fields := fds
  methods := ms
  attributes := attrs
def plain (name : String) (sup : Option ClassId) : Class where
  name := name
  kind := .ordinary
  loader := none
  accessFlags := 33
  super := sup
  interfaces := #[]
  cf := none
  fields := #[]
  methods := #[]
  instanceTypes := #[]
  staticTypes := #[]
  resolved := #[]
  callSites := []
  init := .initialized
  statics := none
  mirror := none

def pool0 : Array CpInfo := pool [(5, u "<init>"), (0, u "()V"), (1, .class_ 10), (1, u "java/lang/Object")] 113

def k0m0 : Method := { name := "<init>", desc := "()V", sig := { parameters := [], returnType := none }, accessFlags := 1, code := none }
/-- java/lang/Object -/
def k0 : Class := { plain "java/lang/Object" none with
  accessFlags := 33
  interfaces := #[]
  cf := some (fileOf pool0 8 #[] #[{ accessFlags := 1, nameIndex := 5, descriptorIndex := 6, attributes := #[] }] 33 0 #[] #[])
  fields := #[]
  methods := #[k0m0]
  instanceTypes := #[]
  staticTypes := #[]
  resolved := Array.replicate 124 none
  statics := none }

def pool1 : Array CpInfo := pool [(2, .class_ 4), (1, u "java/lang/Object"), (0, u "<init>"), (0, u "()V"), (0, .fieldref 8 9), (0, .class_ 10), (0, .nameAndType 11 12), (0, u "com/example/heapscribe/heapscribe/Hprof$BasicType"), (0, u "OBJECT"), (0, u "Lcom/example/heapscribe/heapscribe/Hprof$BasicType;"), (0, .fieldref 8 14), (0, .nameAndType 15 12), (0, u "BOOLEAN"), (0, .fieldref 8 17), (0, .nameAndType 18 12), (0, u "CHAR"), (0, .fieldref 8 20), (0, .nameAndType 21 12), (0, u "FLOAT"), (0, .fieldref 8 23), (0, .nameAndType 24 12), (0, u "DOUBLE"), (0, .fieldref 8 26), (0, .nameAndType 27 12), (0, u "BYTE"), (0, .fieldref 8 29), (0, .nameAndType 30 12), (0, u "SHORT"), (0, .fieldref 8 32), (0, .nameAndType 33 12), (0, u "INT"), (0, .fieldref 8 35), (0, .nameAndType 36 12), (0, u "LONG"), (0, .methodref 8 38), (0, .nameAndType 39 40), (0, u "of"), (0, u "(I)Lcom/example/heapscribe/heapscribe/Hprof$BasicType;"), (0, .methodref 42 43), (0, .class_ 44), (0, .nameAndType 45 40), (0, u "com/example/heapscribe/heapscribe/BasicTypeOfPinLaw"), (0, u "expected"), (3, u "law"), (0, u "(III)Z")] 6

def k1m0 : Method := { name := "<init>", desc := "()V", sig := { parameters := [], returnType := none }, accessFlags := 2, code := none }
def k1c1 : Code := { maxStack := 2, maxLocals := 1, code := method_2_code, exceptionTable := #[], attributes := #[] }
def k1m1 : Method := { name := "expected", desc := "(I)Lcom/example/heapscribe/heapscribe/Hprof$BasicType;", sig := { parameters := [.int], returnType := some (.object "com/example/heapscribe/heapscribe/Hprof$BasicType") }, accessFlags := 10, code := some k1c1 }
def k1c2 : Code := { maxStack := 2, maxLocals := 5, code := code, exceptionTable := #[], attributes := #[] }
def k1m2 : Method := { name := "law", desc := "(III)Z", sig := { parameters := [.int, .int, .int], returnType := some .boolean }, accessFlags := 9, code := some k1c2 }
/-- com/example/heapscribe/heapscribe/BasicTypeOfPinLaw -/
def k1 : Class := { plain "com/example/heapscribe/heapscribe/BasicTypeOfPinLaw" (some 0) with
  accessFlags := 49
  interfaces := #[]
  cf := some (fileOf pool1 42 #[] #[{ accessFlags := 2, nameIndex := 5, descriptorIndex := 6, attributes := #[] }, { accessFlags := 10, nameIndex := 45, descriptorIndex := 40, attributes := #[] }, { accessFlags := 9, nameIndex := 49, descriptorIndex := 50, attributes := #[] }] 49 2 #[] #[])
  fields := #[]
  methods := #[k1m0, k1m1, k1m2]
  instanceTypes := #[]
  staticTypes := #[]
  resolved := Array.replicate 57 none
  statics := none }

def pool2 : Array CpInfo := pool [(1, .class_ 2), (0, u "java/lang/constant/Constable"), (0, .class_ 4), (0, u "java/lang/Object")] 6

/-- java/lang/constant/Constable -/
def k2 : Class := { plain "java/lang/constant/Constable" (some 0) with
  accessFlags := 1537
  interfaces := #[]
  cf := some (fileOf pool2 1 #[] #[] 1537 3 #[] #[])
  fields := #[]
  methods := #[]
  instanceTypes := #[]
  staticTypes := #[]
  resolved := Array.replicate 11 none
  statics := none }

def pool3 : Array CpInfo := pool [(1, .class_ 2), (0, u "java/lang/Comparable"), (0, .class_ 4), (0, u "java/lang/Object")] 7

/-- java/lang/Comparable -/
def k3 : Class := { plain "java/lang/Comparable" (some 0) with
  accessFlags := 1537
  interfaces := #[]
  cf := some (fileOf pool3 1 #[] #[] 1537 3 #[] #[])
  fields := #[]
  methods := #[]
  instanceTypes := #[]
  staticTypes := #[]
  resolved := Array.replicate 12 none
  statics := none }

def pool4 : Array CpInfo := pool [(1, .class_ 2), (0, u "java/io/Serializable"), (0, .class_ 4), (0, u "java/lang/Object")] 2

/-- java/io/Serializable -/
def k4 : Class := { plain "java/io/Serializable" (some 0) with
  accessFlags := 1537
  interfaces := #[]
  cf := some (fileOf pool4 1 #[] #[] 1537 3 #[] #[])
  fields := #[]
  methods := #[]
  instanceTypes := #[]
  staticTypes := #[]
  resolved := Array.replicate 7 none
  statics := none }

def pool5 : Array CpInfo := pool [(2, .class_ 4), (1, u "java/lang/Enum"), (0, u "name"), (0, u "Ljava/lang/String;"), (2, u "ordinal"), (0, u "I"), (1, .class_ 14), (1, u "java/lang/Object"), (4, u "hash"), (86, .class_ 108), (1, u "java/lang/Enum$EnumDesc"), (2, .class_ 112), (0, u "java/lang/constant/Constable"), (0, .class_ 114), (0, u "java/lang/Comparable"), (0, .class_ 116), (0, u "java/io/Serializable")] 87

/-- java/lang/Enum -/
def k5 : Class := { plain "java/lang/Enum" (some 0) with
  accessFlags := 1057
  interfaces := #[2, 3, 4]
  cf := some (fileOf pool5 2 #[.nestMembers #[106]] #[] 1057 12 #[111, 113, 115] #[{ accessFlags := 18, nameIndex := 5, descriptorIndex := 6, attributes := #[] }, { accessFlags := 18, nameIndex := 9, descriptorIndex := 10, attributes := #[] }, { accessFlags := 2, nameIndex := 19, descriptorIndex := 10, attributes := #[] }])
  fields := #[{ name := "name", type := (.object "java/lang/String"), accessFlags := 18, slot := 0, constantValue := 0 }, { name := "ordinal", type := .int, accessFlags := 18, slot := 1, constantValue := 0 }, { name := "hash", type := .int, accessFlags := 2, slot := 2, constantValue := 0 }]
  methods := #[]
  instanceTypes := #[(.object "java/lang/String"), .int, .int]
  staticTypes := #[]
  resolved := Array.replicate 204 none
  statics := none }

def pool6 : Array CpInfo := pool [(1, .class_ 2), (0, u "com/example/heapscribe/heapscribe/Hprof$BasicType"), (2, u "OBJECT"), (0, u "Lcom/example/heapscribe/heapscribe/Hprof$BasicType;"), (2, u "BOOLEAN"), (2, u "CHAR"), (2, u "FLOAT"), (2, u "DOUBLE"), (2, u "BYTE"), (2, u "SHORT"), (2, u "INT"), (2, u "LONG"), (2, u "$VALUES"), (0, u "[Lcom/example/heapscribe/heapscribe/Hprof$BasicType;"), (6, .class_ 43), (1, u "java/lang/Enum"), (8, u "code"), (0, u "I"), (2, u "size"), (2, u "descriptor"), (0, u "C"), (16, .fieldref 1 78), (0, .nameAndType 79 34), (0, u "BY_CODE"), (2, u "BY_DESCRIPTOR"), (24, .class_ 109), (1, u "com/example/heapscribe/heapscribe/Hprof"), (14, u "of"), (0, u "(I)Lcom/example/heapscribe/heapscribe/Hprof$BasicType;")] 33

def k6c0 : Code := { maxStack := 2, maxLocals := 1, code := prog_55_method_8_code, exceptionTable := #[], attributes := #[] }
def k6m0 : Method := { name := "of", desc := "(I)Lcom/example/heapscribe/heapscribe/Hprof$BasicType;", sig := { parameters := [.int], returnType := some (.object "com/example/heapscribe/heapscribe/Hprof$BasicType") }, accessFlags := 9, code := some k6c0 }
/-- com/example/heapscribe/heapscribe/Hprof$BasicType -/
def k6 : Class := { plain "com/example/heapscribe/heapscribe/Hprof$BasicType" (some 5) with
  accessFlags := 16433
  interfaces := #[]
  cf := some (fileOf pool6 1 #[.nestHost 107] #[{ accessFlags := 9, nameIndex := 124, descriptorIndex := 125, attributes := #[] }] 16433 41 #[] #[{ accessFlags := 16409, nameIndex := 5, descriptorIndex := 6, attributes := #[] }, { accessFlags := 16409, nameIndex := 9, descriptorIndex := 6, attributes := #[] }, { accessFlags := 16409, nameIndex := 12, descriptorIndex := 6, attributes := #[] }, { accessFlags := 16409, nameIndex := 15, descriptorIndex := 6, attributes := #[] }, { accessFlags := 16409, nameIndex := 18, descriptorIndex := 6, attributes := #[] }, { accessFlags := 16409, nameIndex := 21, descriptorIndex := 6, attributes := #[] }, { accessFlags := 16409, nameIndex := 24, descriptorIndex := 6, attributes := #[] }, { accessFlags := 16409, nameIndex := 27, descriptorIndex := 6, attributes := #[] }, { accessFlags := 16409, nameIndex := 30, descriptorIndex := 6, attributes := #[] }, { accessFlags := 26, nameIndex := 79, descriptorIndex := 34, attributes := #[] }, { accessFlags := 26, nameIndex := 82, descriptorIndex := 34, attributes := #[] }, { accessFlags := 18, nameIndex := 52, descriptorIndex := 53, attributes := #[] }, { accessFlags := 18, nameIndex := 56, descriptorIndex := 53, attributes := #[] }, { accessFlags := 18, nameIndex := 59, descriptorIndex := 60, attributes := #[] }, { accessFlags := 4122, nameIndex := 33, descriptorIndex := 34, attributes := #[] }])
  fields := #[{ name := "OBJECT", type := (.object "com/example/heapscribe/heapscribe/Hprof$BasicType"), accessFlags := 16409, slot := 0, constantValue := 0 }, { name := "BOOLEAN", type := (.object "com/example/heapscribe/heapscribe/Hprof$BasicType"), accessFlags := 16409, slot := 1, constantValue := 0 }, { name := "CHAR", type := (.object "com/example/heapscribe/heapscribe/Hprof$BasicType"), accessFlags := 16409, slot := 2, constantValue := 0 }, { name := "FLOAT", type := (.object "com/example/heapscribe/heapscribe/Hprof$BasicType"), accessFlags := 16409, slot := 3, constantValue := 0 }, { name := "DOUBLE", type := (.object "com/example/heapscribe/heapscribe/Hprof$BasicType"), accessFlags := 16409, slot := 4, constantValue := 0 }, { name := "BYTE", type := (.object "com/example/heapscribe/heapscribe/Hprof$BasicType"), accessFlags := 16409, slot := 5, constantValue := 0 }, { name := "SHORT", type := (.object "com/example/heapscribe/heapscribe/Hprof$BasicType"), accessFlags := 16409, slot := 6, constantValue := 0 }, { name := "INT", type := (.object "com/example/heapscribe/heapscribe/Hprof$BasicType"), accessFlags := 16409, slot := 7, constantValue := 0 }, { name := "LONG", type := (.object "com/example/heapscribe/heapscribe/Hprof$BasicType"), accessFlags := 16409, slot := 8, constantValue := 0 }, { name := "BY_CODE", type := (.array (.object "com/example/heapscribe/heapscribe/Hprof$BasicType")), accessFlags := 26, slot := 9, constantValue := 0 }, { name := "BY_DESCRIPTOR", type := (.array (.object "com/example/heapscribe/heapscribe/Hprof$BasicType")), accessFlags := 26, slot := 10, constantValue := 0 }, { name := "code", type := .int, accessFlags := 18, slot := 3, constantValue := 0 }, { name := "size", type := .int, accessFlags := 18, slot := 4, constantValue := 0 }, { name := "descriptor", type := .char, accessFlags := 18, slot := 5, constantValue := 0 }, { name := "$VALUES", type := (.array (.object "com/example/heapscribe/heapscribe/Hprof$BasicType")), accessFlags := 4122, slot := 11, constantValue := 0 }]
  methods := #[k6m0]
  instanceTypes := #[(.object "java/lang/String"), .int, .int, .int, .int, .char]
  staticTypes := #[(.object "com/example/heapscribe/heapscribe/Hprof$BasicType"), (.object "com/example/heapscribe/heapscribe/Hprof$BasicType"), (.object "com/example/heapscribe/heapscribe/Hprof$BasicType"), (.object "com/example/heapscribe/heapscribe/Hprof$BasicType"), (.object "com/example/heapscribe/heapscribe/Hprof$BasicType"), (.object "com/example/heapscribe/heapscribe/Hprof$BasicType"), (.object "com/example/heapscribe/heapscribe/Hprof$BasicType"), (.object "com/example/heapscribe/heapscribe/Hprof$BasicType"), (.object "com/example/heapscribe/heapscribe/Hprof$BasicType"), (.array (.object "com/example/heapscribe/heapscribe/Hprof$BasicType")), (.array (.object "com/example/heapscribe/heapscribe/Hprof$BasicType")), (.array (.object "com/example/heapscribe/heapscribe/Hprof$BasicType"))]
  resolved := Array.replicate 159 none
  statics := some 0 }

def pool7 : Array CpInfo := pool [(1, u "java/lang/Cloneable"), (0, .class_ 1), (0, u "java/lang/Object"), (0, .class_ 3)] 3

/-- java/lang/Cloneable -/
def k7 : Class := { plain "java/lang/Cloneable" (some 0) with
  accessFlags := 1537
  interfaces := #[]
  cf := some (fileOf pool7 2 #[] #[] 1537 4 #[] #[])
  fields := #[]
  methods := #[]
  instanceTypes := #[]
  staticTypes := #[]
  resolved := Array.replicate 8 none
  statics := none }

/-- the primitive byte -/
def k8 : Class := { plain "byte" none with kind := .primitive 'B', accessFlags := 0x411 }
/-- [B -/
def k9 : Class := { plain "[B" (some 0) with kind := .array 8 .byte, interfaces := #[7, 4], accessFlags := 1041 }

/-- the primitive int -/
def k10 : Class := { plain "int" none with kind := .primitive 'I', accessFlags := 0x411 }
/-- [I -/
def k11 : Class := { plain "[I" (some 0) with kind := .array 10 .int, interfaces := #[7, 4], accessFlags := 1041 }

/-- [Lcom/example/heapscribe/heapscribe/Hprof$BasicType; -/
def k12 : Class := { plain "[Lcom/example/heapscribe/heapscribe/Hprof$BasicType;" (some 0) with kind := .array 6 (.object "com/example/heapscribe/heapscribe/Hprof$BasicType"), interfaces := #[7, 4], accessFlags := 1041 }

def heap : Heap := #[{ cls := 6, slots := #[.ref 7, .ref 10, .ref 6, .ref 8, .ref 9, .ref 3, .ref 4, .ref 2, .ref 5, .ref 1, .null, .null], vm := .statics 6 },
  { cls := 12, slots := #[.null, .null, .ref 7, .null, .ref 10, .ref 6, .ref 8, .ref 9, .ref 3, .ref 4, .ref 2, .ref 5], vm := .none },
  { cls := 6, slots := #[.null, .int 0, .int 0, .int 0, .int 0, .int 0], vm := .none },
  { cls := 6, slots := #[.null, .int 0, .int 0, .int 0, .int 0, .int 0], vm := .none },
  { cls := 6, slots := #[.null, .int 0, .int 0, .int 0, .int 0, .int 0], vm := .none },
  { cls := 6, slots := #[.null, .int 0, .int 0, .int 0, .int 0, .int 0], vm := .none },
  { cls := 6, slots := #[.null, .int 0, .int 0, .int 0, .int 0, .int 0], vm := .none },
  { cls := 6, slots := #[.null, .int 0, .int 0, .int 0, .int 0, .int 0], vm := .none },
  { cls := 6, slots := #[.null, .int 0, .int 0, .int 0, .int 0, .int 0], vm := .none },
  { cls := 6, slots := #[.null, .int 0, .int 0, .int 0, .int 0, .int 0], vm := .none },
  { cls := 6, slots := #[.null, .int 0, .int 0, .int 0, .int 0, .int 0], vm := .none }]
def classes : Array Class := #[k0, k1, k2, k3, k4, k5, k6, k7, k8, k9, k10, k11, k12]
def interned : List (Array UInt16 × Addr) := []
def slotsUsed : Nat := 78
def theMethod : MethodId := ⟨1, 2⟩
def args0 : Array Value := #[.int 5, .int 5, .int 5]
def aboutOver (below : List Frame) : State where
  vm := { classes := classes, interned := interned.toArray }
  heap := heap
  slotsUsed := slotsUsed
  threads := #[{ frames := .invoking theMethod args0 :: below }]
def below0 : List Frame := [.native { method := ⟨0, 0⟩, args := #[] }]
def about1 : State := aboutOver below0
def p0 : Program := .bare "" "" ""
def e0 : Env := launch0.env 0 0 0
theorem w_frames : about1.frames = Frame.invoking theMethod args0 :: below0 := rfl
set_option maxRecDepth 65536 in
theorem w_args : argsFit about1.vm theMethod args0 = true := by decide +kernel
set_option maxRecDepth 65536 in
theorem w_heap : heapFits about1 = true := by decide +kernel
set_option maxRecDepth 65536 in
theorem w_runnable : about1.curStatus? = some .runnable := by decide +kernel
set_option maxRecDepth 65536 in
theorem w_alone : about1.alone = true := by decide +kernel
set_option maxRecDepth 65536 in
theorem w_named : about1.methodNamed? x = some theMethod := by decide +kernel
set_option maxRecDepth 65536 in
theorem w_hears : about1.hears theMethod below0 = true := by decide +kernel
set_option maxRecDepth 65536 in
theorem w_ripe : about1.ripe theMethod args0 below0 = true := by decide +kernel
theorem w_running : about1.status = .running := rfl
set_option maxRecDepth 65536 in
theorem w_room : about1.hasRoom e0.platform room_1 = true :=
  launch0.hasRoom_least _ room_1 (by decide +kernel) (by decide +kernel) (by decide +kernel) (by decide +kernel) (by decide +kernel) (by decide +kernel)
theorem allAtoms_all (ts : List Jvm.Cond) (a : Array Jvm.Value) (st : Jvm.State) : (allAtoms ts).before a st = ts.all (fun c => c.before a st) := by
  induction ts with
  | nil => rfl
  | cons c t ih =>
    show (Jvm.Cond.and c (allAtoms t)).before a st = _
    rw [Jvm.Cond.before_and, ih, List.all_cons]
def words1 : List Jvm.Cond := Jvm.Cond.code x code maxLocals ret :: tables_1
/-- a 'code' word, met by the world's own term for the bytes: nothing is compared byte by byte -/
theorem code_word {y : MethodName} {bytes : ByteArray} {mx : Nat} {rt : Option FieldType} {a : Array Value} {s : State} {m : MethodId} {meth : Method} {c : Code} (h1 : s.methodNamed? y = some m) (h2 : s.vm.method? m = some meth) (h3 : meth.code = some c) (h4 : c.code = bytes)
    (h5 : (c.maxLocals == mx && c.exceptionTable.isEmpty && decide (c.maxStack ≤ mostOperands) && decide (meth.sig.returnType = rt) && !meth.locks && decide (parseMethodDescriptor y.desc = some meth.sig)) = true) : (Jvm.Cond.code y bytes mx rt).before a s = true := by
  simp only [Bool.and_eq_true, beq_iff_eq, Bool.not_eq_true', decide_eq_true_eq] at h5
  obtain ⟨⟨⟨⟨⟨g1, g2⟩, g3⟩, g4⟩, g5⟩, g6⟩ := h5
  simp [Cond.before, Cond.holds, Cond.value, h1, h2, h3, h4, g1, g2, g3, g4, g5, g6]
def isCode : Jvm.Cond → Bool
  | .code _ _ _ _ => true
  | _ => false
theorem all_split {L : List Jvm.Cond} {P : Jvm.Cond → Bool} (h1 : L.all (fun c => isCode c || P c) = true) (h2 : ∀ c ∈ L.filter isCode, P c = true) : L.all P = true := by
  refine List.all_eq_true.mpr fun c hc => ?_
  have h := List.all_eq_true.mp h1 c hc
  rcases Bool.eq_false_or_eq_true (isCode c) with hi | hi
  · exact h2 c (List.mem_filter.mpr ⟨hc, hi⟩)
  · simpa [hi] using h
set_option maxRecDepth 65536 in
theorem w_c0 : (Jvm.Cond.code x code maxLocals ret).before args0 about1 = true := code_word (m := ⟨1, 2⟩) (meth := k1m2) (c := k1c2) (by decide +kernel) rfl rfl rfl (by decide +kernel)
set_option maxRecDepth 65536 in
theorem w_c1 : (Jvm.Cond.code ({ cls := "com/example/heapscribe/heapscribe/Hprof$BasicType", name := "of", desc := "(I)Lcom/example/heapscribe/heapscribe/Hprof$BasicType;" } : Jvm.MethodName) prog_55_method_8_code (1 : Nat) (Option.some (Jvm.ClassFile.FieldType.object "com/example/heapscribe/heapscribe/Hprof$BasicType"))).before args0 about1 = true := code_word (m := ⟨6, 0⟩) (meth := k6m0) (c := k6c0) (by decide +kernel) rfl rfl rfl (by decide +kernel)
set_option maxRecDepth 65536 in
theorem w_c2 : (Jvm.Cond.code ({ cls := "com/example/heapscribe/heapscribe/BasicTypeOfPinLaw", name := "expected", desc := "(I)Lcom/example/heapscribe/heapscribe/Hprof$BasicType;" } : Jvm.MethodName) method_2_code (1 : Nat) (Option.some (Jvm.ClassFile.FieldType.object "com/example/heapscribe/heapscribe/Hprof$BasicType"))).before args0 about1 = true := code_word (m := ⟨1, 1⟩) (meth := k1m1) (c := k1c1) (by decide +kernel) rfl rfl rfl (by decide +kernel)
def codes1 : List Jvm.Cond := [Jvm.Cond.code x code maxLocals ret, Jvm.Cond.code ({ cls := "com/example/heapscribe/heapscribe/Hprof$BasicType", name := "of", desc := "(I)Lcom/example/heapscribe/heapscribe/Hprof$BasicType;" } : Jvm.MethodName) prog_55_method_8_code (1 : Nat) (Option.some (Jvm.ClassFile.FieldType.object "com/example/heapscribe/heapscribe/Hprof$BasicType")), Jvm.Cond.code ({ cls := "com/example/heapscribe/heapscribe/BasicTypeOfPinLaw", name := "expected", desc := "(I)Lcom/example/heapscribe/heapscribe/Hprof$BasicType;" } : Jvm.MethodName) method_2_code (1 : Nat) (Option.some (Jvm.ClassFile.FieldType.object "com/example/heapscribe/heapscribe/Hprof$BasicType"))]
set_option maxRecDepth 65536 in
theorem codes_eq : words1.filter isCode = codes1 := rfl
theorem w_codes : ∀ c ∈ words1.filter isCode, c.before args0 about1 = true := by
  rw [codes_eq]
  intro c hc
  simp only [codes1, List.mem_cons, List.not_mem_nil, or_false] at hc
  rcases hc with rfl | rfl | rfl
  · exact w_c0
  · exact w_c1
  · exact w_c2
set_option maxRecDepth 65536 in
theorem w_t1 : (words1.take 24).all (fun c => isCode c || c.before args0 about1) = true := by decide +kernel
set_option maxRecDepth 65536 in
theorem w_t2 : (words1.drop 24).all (fun c => isCode c || c.before args0 about1) = true := by decide +kernel
theorem w_tables : (allAtoms (Jvm.Cond.code x code maxLocals ret :: tables_1)).before args0 about1 = true := by
  rw [allAtoms_all]
  show words1.all (fun c => c.before args0 about1) = true
  refine all_split ?_ w_codes
  rw [← List.take_append_drop 24 words1, List.all_append, w_t1, w_t2]
  rfl
set_option maxRecDepth 65536 in
theorem w_case : (Jvm.Cond.and given_1 narrow_1).before args0 about1 = true := by decide +kernel
theorem w_applies : (headSpec (Jvm.Cond.code x code maxLocals ret :: tables_1) room_1).applies x e0.platform about1 = true :=
  (Spec.applies_iff w_frames).mpr ⟨w_running, w_runnable, w_alone, w_named, w_hears, w_ripe, w_room, w_tables⟩
theorem atStart : AtStart classFile x code maxLocals ret World_1 tables_1 room_1 Calls_1 rest_1 Pre_1 launch0 p0 e0 about1 theMethod args0 below0 :=
  ⟨lists_1, trivial, launch0.admits_env _ _ _, launch0.least_env, fairChoices_fair.cas, fairChoices_fair.clock, w_frames, w_args, w_heap, w_applies, trivial, trivial, w_case⟩
end start1
theorem witness_1 : WitnessClaimed_1 := ⟨start1.p0, start1.e0, start1.about1, start1.theMethod, start1.args0, start1.below0, start1.atStart⟩
end Jvm.Pilot.@@N@@
