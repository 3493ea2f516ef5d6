import JvmDerived
import JvmDerived.Pilot.@@N@@Statement
import JvmDerived.Pilot.@@N@@Code
set_option linter.unusedVariables false
set_option linter.unusedSimpArgs false
namespace Jvm.RoadKit
open Sem ClassFile Op Lib Jvm.Stand Jvm.Free Jvm.LawKit
section New
variable {p : Program} {l : Launch} {e : Env} {R : Room} {s : State} {m : MethodId} {args : Array Value} {below : List Frame} {meth : Method} {c : Code} {T : State} {locs : List Loc} {cells slots : Nat}
theorem retI (X : Stand p l e R s m args below meth c T locs cells slots) (hx : p.tables.exec = Jvm.exec) {pc : Nat} {Ls : Array Slot} {z : Int32} {rest : List Value} (hret : meth.sig.returnType = some .int) (hd : decode c.code pc = .ok (.ireturn, 1)) {fs : List Frame}
    (hl : ∀ (f : JFrame) (acts : List Action), f.method = m → f.locked = none → f.entered = [] → (doReturn e (T.setTop f) acts (some (.int z))).1 = T.setFrames fs) : Steps p.tables e below (T.setTop (mkF m pc Ls (.int z :: rest))) (T.setFrames fs) := by
  have hm' : T.vm.method? m = some meth := X.method'
  have hn : narrow .int (.int z) = .int z := rfl
  show Steps p.tables e below (T.setTop { method := m, pc := pc, locals := Ls, stack := _ :: rest, locked := none }) _
  jvm_step X.here [X.here.top, hx, hd, hm', hret, hn]
  first | (intro acts; rw [hl _ acts rfl rfl rfl]) | rw [hl _ _ rfl rfl rfl]
  exact Steps.refl _
theorem retA (X : Stand p l e R s m args below meth c T locs cells slots) (hx : p.tables.exec = Jvm.exec) {pc : Nat} {Ls : Array Slot} {w : Value} {t : FieldType} {rest : List Value} (hret : meth.sig.returnType = some t) (ht : t.isReference = true) (hw : w.isRef = true) (hn : narrow t w = w) (hd : decode c.code pc = .ok (.areturn, 1)) {fs : List Frame}
    (hl : ∀ (f : JFrame) (acts : List Action), f.method = m → f.locked = none → f.entered = [] → (doReturn e (T.setTop f) acts (some w)).1 = T.setFrames fs) : Steps p.tables e below (T.setTop (mkF m pc Ls (w :: rest))) (T.setFrames fs) :=
  retOut X hx hret hn (Or.inr (Or.inr (Or.inr (Or.inr ⟨rfl, ht, hw⟩)))) hd hl
end New
/-- all that was there is there still: a write to a cell above -/
theorem own_ext_wr {h0 h h' : Heap} {a : Addr} {sl : Nat} {v : Value} (E : Ext h0 h) (W : Wr h h' a sl v) (q : h0.size ≤ a) : Ext h0 h' := by
  refine ⟨Nat.le_trans E.1 (Keep.of_wr W).1, fun x c hc => (Keep.of_wr W).2.1 x c (E.2 x c hc) fun hm => ?_⟩
  cases List.mem_singleton.mp hm
  exact absurd (Array.getElem?_eq_some_iff.mp hc).1 (Nat.not_lt.mpr q)
theorem own_ext_keep {h0 h h' : Heap} {ws : List Addr} (E : Ext h0 h) (K : Keep h h' ws) (q : ∀ x ∈ ws, h0.size ≤ x) : Ext h0 h' :=
  ⟨Nat.le_trans E.1 K.1, fun x c hc => K.2.1 x c (E.2 x c hc) fun hm => absurd (Array.getElem?_eq_some_iff.mp hc).1 (Nat.not_lt.mpr (q x hm))⟩
theorem own_ext_trans {h0 h h' : Heap} (E : Ext h0 h) (E' : Ext h h') : Ext h0 h' := ⟨Nat.le_trans E.1 E'.1, fun x c hc => E'.2 x c (E.2 x c hc)⟩
theorem own_ext_refl (h : Heap) : Ext h h := ⟨Nat.le_refl _, fun _ _ q => q⟩
/-- a static that holds an object of this very class -/
theorem own_sta {Z : State} {a0 : Array Value} {C n d K : String} (wi : (Cond.initialized C).before a0 Z = true) (wl : (Cond.laysStatic C n d).before a0 Z = true) (hx : (Cond.exactly (.static C n d) K).value a0 Z none Z [] = some true) :
    ∃ w, (Term.static C n d).eval a0 Z none [] Z = some (.ref w) ∧ Sta Z Z.heap C n d (.ref w) ∧ Exa Z Z.heap w K := by
  obtain ⟨w, ev⟩ := exa_v hx
  exact ⟨w, ev, Sta.start ev (Or.inr ⟨wi, wl⟩), Exa.start ev hx⟩
/-- a field of an object that a term names, by an 'eq' of ints -/
theorem own_fld {Z : State} {a0 : Array Value} {t : Term} {w : Addr} {C n d : String} {k : Int32} (ev : t.eval a0 Z none [] Z = some (.ref w)) (h : (Cond.eq (.field t C n d) (.int k)).value a0 Z none Z [] = some true) : Fld Z Z.heap w C n d (.int k) :=
  Fld.start ((fld_at ev).symm.trans (eqv_i (F := .int k) rfl h))
end Jvm.RoadKit
namespace Jvm.RoadKit
open Sem ClassFile Op Lib Jvm.Stand Jvm.Free Jvm.LawKit
theorem own_fldR {Z : State} {a0 : Array Value} {t u : Term} {w w' : Addr} {C n d : String} (ev : t.eval a0 Z none [] Z = some (.ref w)) (eu : u.eval a0 Z none [] Z = some (.ref w')) (h : (Cond.eq (.field t C n d) u).value a0 Z none Z [] = some true) : Fld Z Z.heap w C n d (.ref w') := by
  refine Fld.start ((fld_at ev).symm.trans ?_)
  obtain ⟨x, y, hx, hy, -, -⟩ := cmp_v (Or.inl h)
  cases eu.symm.trans hy
  simp only [Cond.value, hx, hy] at h
  cases x <;> simp at h
  rw [hx, h]
theorem own_staA {Z : State} {a0 : Array Value} {C n d : String} {ty : FieldType} (wi : (Cond.initialized C).before a0 Z = true) (wl : (Cond.laysStatic C n d).before a0 Z = true) (hx : (Cond.arrayOf (.static C n d) ty).value a0 Z none Z [] = some true) :
    ∃ w, (Term.static C n d).eval a0 Z none [] Z = some (.ref w) ∧ Sta Z Z.heap C n d (.ref w) ∧ ∃ c, Arr Z Z.heap w c ty := by
  obtain ⟨w, ev⟩ := arr_v hx
  exact ⟨w, ev, Sta.start ev (Or.inr ⟨wi, wl⟩), Arr.start ev hx⟩
theorem own_len {Z : State} {a0 : Array Value} {t : Term} {w : Addr} {c : Cell} {ty : FieldType} {k : Int32} {n : Nat} (ev : t.eval a0 Z none [] Z = some (.ref w)) (A : Arr Z Z.heap w c ty) (h : (Cond.eq (.length t) (.int k)).value a0 Z none Z [] = some true) (hk : k.toInt = n) : c.slots.size = n := by
  have e := eqv_i (F := .int k) rfl h
  have ha : Z.arrayAt? w = some c := Arr.fin (Vm.Alike.refl _) A
  simp only [Term.eval, ev, ha, Option.bind_eq_bind, Option.bind_some] at e
  split at e
  · rename_i hl
    have q : c.slots.size.toInt32 = k := by simpa using e
    have q2 := len_toInt hl
    rw [q, hk] at q2
    omega
  · cases e
theorem own_elem {Z : State} {a0 : Array Value} {t : Term} {w : Addr} {c : Cell} {ty : FieldType} {k : Int32} {n : Nat} {v : Value} (ev : t.eval a0 Z none [] Z = some (.ref w)) (A : Arr Z Z.heap w c ty) (h : (Term.elem t (.int k)).eval a0 Z none [] Z = some v) (hk : k.toNatClampNeg = n) : c.slots[n]? = some v := by
  have q := (elem_in h ev (j := k) rfl A.1).2
  rw [hk] at q; exact q
theorem own_elN {Z : State} {a0 : Array Value} {t : Term} {w : Addr} {c : Cell} {ty : FieldType} {k : Int32} {n : Nat} (ev : t.eval a0 Z none [] Z = some (.ref w)) (A : Arr Z Z.heap w c ty) (h : (Cond.eq (.elem t (.int k)) .null).value a0 Z none Z [] = some true) (hk : k.toNatClampNeg = n) : c.slots[n]? = some .null := own_elem ev A (null_v h) hk
theorem own_elI {Z : State} {a0 : Array Value} {t : Term} {w : Addr} {c : Cell} {ty : FieldType} {k i : Int32} {n : Nat} (ev : t.eval a0 Z none [] Z = some (.ref w)) (A : Arr Z Z.heap w c ty) (h : (Cond.eq (.elem t (.int k)) (.int i)).value a0 Z none Z [] = some true) (hk : k.toNatClampNeg = n) : c.slots[n]? = some (.int i) := own_elem ev A (eqv_i (F := .int i) rfl h) hk
theorem own_elR {Z : State} {a0 : Array Value} {t u : Term} {w w' : Addr} {c : Cell} {ty : FieldType} {k : Int32} {n : Nat} (ev : t.eval a0 Z none [] Z = some (.ref w)) (A : Arr Z Z.heap w c ty) (eu : u.eval a0 Z none [] Z = some (.ref w')) (h : (Cond.eq (.elem t (.int k)) u).value a0 Z none Z [] = some true) (hk : k.toNatClampNeg = n) : c.slots[n]? = some (.ref w') := by
  refine own_elem ev A ?_ hk
  obtain ⟨x, y, hx, hy, -, -⟩ := cmp_v (Or.inl h)
  cases eu.symm.trans hy
  simp only [Cond.value, hx, hy] at h
  cases x <;> simp at h
  rw [hx, h]
end Jvm.RoadKit
namespace Jvm.RoadKit
open Sem ClassFile Op Lib Jvm.Stand Jvm.Free Jvm.LawKit
theorem own_ns_root {Z : State} {a0 : Array Value} {O K : String} {n : Nat} (w : (Cond.noSuperclass O).before a0 Z = true) (wi : (Cond.instantiable K n).before a0 Z = true) (hn : O ≠ K) : NS Z O K := by
  obtain ⟨c, k, h1, h2, h3, -, -⟩ := Cond.noSuperclass_spec w
  obtain ⟨t, kt, g1, -⟩ := Cond.instantiable_spec wi
  have ne := ids_ne h1 g1 hn
  refine ⟨c, t, h1, g1, fun fuel => ?_⟩
  cases fuel with
  | zero => rfl
  | succ f => simp [Vm.isSubclassAux, ne, h2, h3]
/-- an object of a class below others is none of a class K that stands aside -/
theorem own_ns_no {Z : State} {a0 : Array Value} {C S K : String} {n : Nat} (w : (Cond.superclass C S).before a0 Z = true) (wi : (Cond.instantiable K n).before a0 Z = true) (ns : NS Z C K) (hn : C ≠ K) : ∃ c t, Z.vm.findClass C = some c ∧ Z.vm.findClass K = some t ∧ Z.vm.assignable c t = false := by
  obtain ⟨c, t, h0, g0, n3⟩ := ns
  obtain ⟨p, k, kp, h1, h2, h3, h4, h5, -, h7⟩ := Cond.superclass_spec h0 w
  obtain ⟨t', kt, g1, g2, g3, g4, -⟩ := Cond.instantiable_spec wi
  cases g0.symm.trans g1
  have ne := ids_ne h0 g0 hn
  have g5 : kt.isInterface = false := by
    cases hq : kt.isInterface
    · rfl
    · rw [hq] at g4; cases g4
  refine ⟨c, t, h0, g0, ?_⟩
  show Z.vm.assignableAux (255 + 1) c t = false
  simp [Vm.assignableAux, ne, h2, g2, h5, g3, g5, Vm.isSubclass, n3]
end Jvm.RoadKit
namespace Jvm.Pilot.@@N@@
open Jvm Jvm.ClassFile Sem Op Lib Jvm.Free Jvm.Stand Jvm.LawKit Jvm.RoadKit Bundle Jvm.Pilot.@@N@@.Jvm.D
theorem ef_init (m : MethodId) (a : Addr) (i : Int32) (j : Int32) : entryFrame m #[(.ref a), (.int i), (.int j)] 3 = mkF m 0 #[.val (.ref a), .val (.int i), .val (.int j)] [] := by first | (simp [entryFrame, mkF, argsToLocals, Value.category]; done) | rfl
def Q_init (Z : State) (a : Addr) (i : Int32) (j : Int32) (o_column : Value) (o_row : Value) (h0 : Heap) (n0 : Nat) (v : Option Value) (h : Heap) (L : List Loc) : Prop := v = none ∧ Fr n0 L ∧ Keep h0 h [a] ∧ Exa Z h a "com/example/fissure/fissure/games/breakable/Hex" ∧ Fld Z h a "com/example/fissure/fissure/games/breakable/Hex" "column" "I" (.int i) ∧ Fld Z h a "com/example/fissure/fissure/games/breakable/Hex" "row" "I" (.int j)
theorem pn_0 : plainName "com/example/fissure/fissure/games/breakable/Hex" = true := by first | (simp [plainName, overriddenIn]; done) | decide +kernel
theorem d1_0 : decode prog_26_method_1_code 0 = .ok (.aload_n 0, 1) := by decide +kernel
theorem d1_1 : decode prog_26_method_1_code 1 = .ok (.invokespecial 1, 3) := by decide +kernel
theorem d1_4 : decode prog_26_method_1_code 4 = .ok (.aload_n 0, 1) := by decide +kernel
theorem d1_5 : decode prog_26_method_1_code 5 = .ok (.iload_n 1, 1) := by decide +kernel
theorem d1_6 : decode prog_26_method_1_code 6 = .ok (.putfield 7, 3) := by decide +kernel
theorem d1_9 : decode prog_26_method_1_code 9 = .ok (.aload_n 0, 1) := by decide +kernel
theorem d1_10 : decode prog_26_method_1_code 10 = .ok (.iload_n 2, 1) := by decide +kernel
theorem d1_11 : decode prog_26_method_1_code 11 = .ok (.putfield 13, 3) := by decide +kernel
theorem d1_14 : decode prog_26_method_1_code 14 = .ok (.return_, 1) := by decide +kernel
set_option maxRecDepth 65536 in
set_option maxHeartbeats 40000000 in
theorem rm_init (l : Launch) (Z : State) (a0 : Array Value) (hw : ∀ d ∈ tables_1, d.before a0 Z = true) (ws : List Jvm.Cond) (a : Addr) (i : Int32) (j : Int32) (o_column : Value) (o_row : Value) (h0 : Heap) (n0 : Nat) (Z0 : n0 ≤ h0.size) (E_a : Exa Z h0 a "com/example/fissure/fissure/games/breakable/Hex") (gg_a : n0 ≤ a) (F_column : Fld Z h0 a "com/example/fissure/fissure/games/breakable/Hex" "column" "I" o_column) (F_row : Fld Z h0 a "com/example/fissure/fissure/games/breakable/Hex" "row" "I" o_row) :
    MetFree l (⟨"com/example/fissure/fissure/games/breakable/Hex", "<init>", "(II)V"⟩ : MethodName) (head1 (Jvm.Cond.code (⟨"com/example/fissure/fissure/games/breakable/Hex", "<init>", "(II)V"⟩ : MethodName) prog_26_method_1_code 3 none :: ws) ({ frames := 1, cells := 0, slots := 0, locals := 12 } : Room)) (fun a_ U_ => a_ = #[(.ref a), (.int i), (.int j)] ∧ Z.Warmed39 U_.vm ∧ U_.heap = h0) (fun _ _ _ _ _ => True) (fun _ U_ o_ V_ => ∃ v_ L_, o_ = .returned v_ ∧ Q_init Z a i j o_column o_row h0 n0 v_ V_.heap L_ ∧ FrameEnd U_ o_ V_ L_ ({ frames := 1, cells := 0, slots := 0, locals := 12 } : Room).cells ({ frames := 1, cells := 0, slots := 0, locals := 12 } : Room).slots) := by
  refine MetFree.of_bodySF (plainFor_of_name pn_0) hisR ?_
  intro p e s m args below meth c s₁ Bd hml0 hP hK
  obtain ⟨rfl, hZ, hh⟩ := hP
  have hx := Bd.exec
  have hby := Bd.bytes
  have hml : c.maxLocals = 3 := hml0
  have hown : s.vm.findClass "com/example/fissure/fissure/games/breakable/Hex" = some m.cls := findClass_of_methodNamed Bd.named
  have hnm := (name_of_methodNamed Bd.named Bd.method).1
  have X0 : Stand p l e ({ frames := 1, cells := 0, slots := 0, locals := 12 } : Room) s m #[(.ref a), (.int i), (.int j)] below meth c s₁ [] 0 0 := Stand.of_body Bd
  have e0 : s₁.heap = h0 := by rw [← hh, Bd.state]; rfl
  have N0 := Fr.nil n0
  have pre0 : ∀ t_, Steps p.tables e below (s₁.setTop (mkF m 0 #[.val (.ref a), .val (.int i), .val (.int j)] [])) t_ → Steps p.tables e below (s₁.setTop (entryFrame m #[(.ref a), (.int i), (.int j)] 3)) t_ := fun t_ k_ => castTop (ef_init m a i j) k_
  have O0 := own_ext_refl h0
  have K0 := Keep.refl h0 [a]
  obtain ⟨T1, X1, e1, st1⟩ := initO X0 hx hZ hown (hw _ (List.mem_of_getElem? (i := 6) rfl)) (hw _ (List.mem_of_getElem? (i := 7) rfl)) (hw _ (List.mem_of_getElem? (i := 8) rfl)) e0 (g := (mkF m 1 #[.val (.ref a), .val (.int i), .val (.int j)] [(.ref a)])) rfl (by rw [hml]; rfl) rfl (hb hby d1_1) (by decide) (W := 0) (by show 2 * 0 + _ ≤ _; exact Nat.le_of_eq rfl) (by decide)
  obtain ⟨T2, h2, X2, e2, W2, st2⟩ := putF X1 hx hZ hown (host := "") (Or.inl (hw _ (List.mem_of_getElem? (i := 9) rfl))) Via.refl e1 F_column E_a (Or.inr ⟨(hw _ (List.mem_of_getElem? (i := 10) rfl)), rfl, hnm⟩) (hw _ (List.mem_of_getElem? (i := 1) rfl)) (ty := .int) (by decide) rfl rfl (g := (mkF m 6 #[.val (.ref a), .val (.int i), .val (.int j)] [(.int i), (.ref a)])) rfl rfl (hb hby d1_6)
  have N2 := Fr.snoc X2 N0 gg_a
  have K2 := Keep.wr K0 W2 (Or.inl (List.mem_of_getElem? (i := 0) rfl))
  have Zs2 := Nat.le_trans Z0 (Keep.of_wr W2).1
  have c3 : Exa Z h2 a "com/example/fissure/fissure/games/breakable/Hex" := E_a.wr W2
  have c4 : Fld Z h2 a "com/example/fissure/fissure/games/breakable/Hex" "column" "I" (.int i) := F_column.same W2
  have c5 : Fld Z h2 a "com/example/fissure/fissure/games/breakable/Hex" "row" "I" o_row := F_row.other W2 (Or.inr (slot_ne (Or.inr (hw _ (List.mem_of_getElem? (i := 12) rfl))) (Or.inr (hw _ (List.mem_of_getElem? (i := 10) rfl))) (by decide) (t := .int) (t' := .int) (by decide) (by decide)))
  obtain ⟨T6, h6, X6, e6, W6, st6⟩ := putF X2 hx hZ hown (host := "") (Or.inl (hw _ (List.mem_of_getElem? (i := 11) rfl))) Via.refl e2 c5 c3 (Or.inr ⟨(hw _ (List.mem_of_getElem? (i := 12) rfl)), rfl, hnm⟩) (hw _ (List.mem_of_getElem? (i := 1) rfl)) (ty := .int) (by decide) rfl rfl (g := (mkF m 11 #[.val (.ref a), .val (.int i), .val (.int j)] [(.int j), (.ref a)])) rfl rfl (hb hby d1_11)
  have N6 := Fr.snoc X6 N2 gg_a
  have K6 := Keep.wr K2 W6 (Or.inl (List.mem_of_getElem? (i := 0) rfl))
  have Zs6 := Nat.le_trans Zs2 (Keep.of_wr W6).1
  have c7 : Exa Z h6 a "com/example/fissure/fissure/games/breakable/Hex" := c3.wr W6
  have c8 : Fld Z h6 a "com/example/fissure/fissure/games/breakable/Hex" "column" "I" (.int i) := c4.other W6 (Or.inr (slot_ne (Or.inr (hw _ (List.mem_of_getElem? (i := 10) rfl))) (Or.inr (hw _ (List.mem_of_getElem? (i := 12) rfl))) (by decide) (t := .int) (t' := .int) (by decide) (by decide)))
  have c9 : Fld Z h6 a "com/example/fissure/fissure/games/breakable/Hex" "row" "I" (.int j) := c5.same W6
  have pre10 : ∀ t_, Steps p.tables e below (T6.setTop (mkF m 14 #[.val (.ref a), .val (.int i), .val (.int j)] [])) t_ → Steps p.tables e below (s₁.setTop (entryFrame m #[(.ref a), (.int i), (.int j)] 3)) t_ := fun t_ k_ => pre0 t_ (by
    show Steps p.tables e below (s₁.setTop (mkF m 0 #[.val (.ref a), .val (.int i), .val (.int j)] [])) _
    refine XS.aloadN X0.here hx rfl (hb hby d1_0) rfl rfl ?_
    show Steps p.tables e below (s₁.setTop (mkF m 1 #[.val (.ref a), .val (.int i), .val (.int j)] [(.ref a)])) _
    refine st1 _ ?_
    show Steps p.tables e below (T1.setTop (mkF m 4 #[.val (.ref a), .val (.int i), .val (.int j)] [])) _
    refine XS.aloadN X1.here hx rfl (hb hby d1_4) rfl rfl ?_
    show Steps p.tables e below (T1.setTop (mkF m 5 #[.val (.ref a), .val (.int i), .val (.int j)] [(.ref a)])) _
    refine XS.iloadN X1.here hx rfl (hb hby d1_5) rfl ?_
    show Steps p.tables e below (T1.setTop (mkF m 6 #[.val (.ref a), .val (.int i), .val (.int j)] [(.int i), (.ref a)])) _
    refine st2 _ ?_
    show Steps p.tables e below (T2.setTop (mkF m 9 #[.val (.ref a), .val (.int i), .val (.int j)] [])) _
    refine XS.aloadN X2.here hx rfl (hb hby d1_9) rfl rfl ?_
    show Steps p.tables e below (T2.setTop (mkF m 10 #[.val (.ref a), .val (.int i), .val (.int j)] [(.ref a)])) _
    refine XS.iloadN X2.here hx rfl (hb hby d1_10) rfl ?_
    show Steps p.tables e below (T2.setTop (mkF m 11 #[.val (.ref a), .val (.int i), .val (.int j)] [(.int j), (.ref a)])) _
    refine st6 _ ?_
    show Steps p.tables e below (T6.setTop (mkF m 14 #[.val (.ref a), .val (.int i), .val (.int j)] [])) _
    exact k_)
  obtain ⟨fs, hr, hrun, hended, hW, hsame⟩ := X6.leave (v := none) (fun _ => rfl)
  refine ⟨_, _, pre10 _ ?_, hrun, hended, _, _, rfl, ?_, ⟨_, rfl⟩, hW, hsame.mono (by decide) (by decide)⟩
  · show Steps p.tables e below (T6.setTop (mkF m 14 #[.val (.ref a), .val (.int i), .val (.int j)] [])) _
    exact X6.returnOut hx Bd.returns (hb hby d1_14) hr
  · show Q_init Z a i j o_column o_row h0 n0 _ T6.heap _
    rw [e6]
    exact ⟨rfl, N6, K6, c7, c8, c9⟩
theorem ef_num (m : MethodId) (a : Addr) : entryFrame m #[(.ref a)] 1 = mkF m 0 #[.val (.ref a)] [] := by first | (simp [entryFrame, mkF, argsToLocals, Value.category]; done) | rfl
def Q_num (Z : State) (a : Addr) (h0 : Heap) (n0 : Nat) (v : Option Value) (h : Heap) (L : List Loc) : Prop := v = none ∧ Fr n0 L ∧ h = h0
theorem pn_1 : plainName "java/lang/Number" = true := by first | (simp [plainName, overriddenIn]; done) | decide +kernel
theorem d6_0 : decode jdk_18_method_1_code 0 = .ok (.aload_n 0, 1) := by decide +kernel
theorem d6_1 : decode jdk_18_method_1_code 1 = .ok (.invokespecial 1, 3) := by decide +kernel
theorem d6_4 : decode jdk_18_method_1_code 4 = .ok (.return_, 1) := by decide +kernel
set_option maxRecDepth 65536 in
set_option maxHeartbeats 40000000 in
theorem rm_num (l : Launch) (Z : State) (a0 : Array Value) (hw : ∀ d ∈ tables_1, d.before a0 Z = true) (ws : List Jvm.Cond) (a : Addr) (h0 : Heap) (n0 : Nat) (Z0 : n0 ≤ h0.size) :
    MetFree l (⟨"java/lang/Number", "<init>", "()V"⟩ : MethodName) (head1 (Jvm.Cond.code (⟨"java/lang/Number", "<init>", "()V"⟩ : MethodName) jdk_18_method_1_code 1 none :: ws) ({ frames := 1, cells := 0, slots := 0, locals := 12 } : Room)) (fun a_ U_ => a_ = #[(.ref a)] ∧ Z.Warmed39 U_.vm ∧ U_.heap = h0) (fun _ _ _ _ _ => True) (fun _ U_ o_ V_ => ∃ v_ L_, o_ = .returned v_ ∧ Q_num Z a h0 n0 v_ V_.heap L_ ∧ FrameEnd U_ o_ V_ L_ ({ frames := 1, cells := 0, slots := 0, locals := 12 } : Room).cells ({ frames := 1, cells := 0, slots := 0, locals := 12 } : Room).slots) := by
  refine MetFree.of_bodySF (plainFor_of_name pn_1) hisR ?_
  intro p e s m args below meth c s₁ Bd hml0 hP hK
  obtain ⟨rfl, hZ, hh⟩ := hP
  have hx := Bd.exec
  have hby := Bd.bytes
  have hml : c.maxLocals = 1 := hml0
  have hown : s.vm.findClass "java/lang/Number" = some m.cls := findClass_of_methodNamed Bd.named
  have hnm := (name_of_methodNamed Bd.named Bd.method).1
  have X0 : Stand p l e ({ frames := 1, cells := 0, slots := 0, locals := 12 } : Room) s m #[(.ref a)] below meth c s₁ [] 0 0 := Stand.of_body Bd
  have e0 : s₁.heap = h0 := by rw [← hh, Bd.state]; rfl
  have N0 := Fr.nil n0
  have pre0 : ∀ t_, Steps p.tables e below (s₁.setTop (mkF m 0 #[.val (.ref a)] [])) t_ → Steps p.tables e below (s₁.setTop (entryFrame m #[(.ref a)] 1)) t_ := fun t_ k_ => castTop (ef_num m a) k_
  obtain ⟨T11, X11, e11, st11⟩ := initO X0 hx hZ hown (hw _ (List.mem_of_getElem? (i := 38) rfl)) (hw _ (List.mem_of_getElem? (i := 7) rfl)) (hw _ (List.mem_of_getElem? (i := 8) rfl)) e0 (g := (mkF m 1 #[.val (.ref a)] [(.ref a)])) rfl (by rw [hml]; rfl) rfl (hb hby d6_1) (by decide) (W := 0) (by show 2 * 0 + _ ≤ _; exact Nat.le_of_eq rfl) (by decide)
  have pre12 : ∀ t_, Steps p.tables e below (T11.setTop (mkF m 4 #[.val (.ref a)] [])) t_ → Steps p.tables e below (s₁.setTop (entryFrame m #[(.ref a)] 1)) t_ := fun t_ k_ => pre0 t_ (by
    show Steps p.tables e below (s₁.setTop (mkF m 0 #[.val (.ref a)] [])) _
    refine XS.aloadN X0.here hx rfl (hb hby d6_0) rfl rfl ?_
    show Steps p.tables e below (s₁.setTop (mkF m 1 #[.val (.ref a)] [(.ref a)])) _
    refine st11 _ ?_
    show Steps p.tables e below (T11.setTop (mkF m 4 #[.val (.ref a)] [])) _
    exact k_)
  obtain ⟨fs, hr, hrun, hended, hW, hsame⟩ := X11.leave (v := none) (fun _ => rfl)
  refine ⟨_, _, pre12 _ ?_, hrun, hended, _, _, rfl, ?_, ⟨_, rfl⟩, hW, hsame.mono (by decide) (by decide)⟩
  · show Steps p.tables e below (T11.setTop (mkF m 4 #[.val (.ref a)] [])) _
    exact X11.returnOut hx Bd.returns (hb hby d6_4) hr
  · show Q_num Z a h0 n0 _ T11.heap _
    rw [e11]
    exact ⟨rfl, N0, rfl⟩
theorem ef_iinit (m : MethodId) (a : Addr) (i : Int32) : entryFrame m #[(.ref a), (.int i)] 2 = mkF m 0 #[.val (.ref a), .val (.int i)] [] := by first | (simp [entryFrame, mkF, argsToLocals, Value.category]; done) | rfl
def Q_iinit (Z : State) (a : Addr) (i : Int32) (o_value : Value) (h0 : Heap) (n0 : Nat) (v : Option Value) (h : Heap) (L : List Loc) : Prop := v = none ∧ Fr n0 L ∧ Keep h0 h [a] ∧ Exa Z h a "java/lang/Integer" ∧ Fld Z h a "java/lang/Integer" "value" "I" (.int i)
theorem pn_2 : plainName "java/lang/Integer" = true := by first | (simp [plainName, overriddenIn]; done) | decide +kernel
theorem d5_0 : decode jdk_33_method_23_code 0 = .ok (.aload_n 0, 1) := by decide +kernel
theorem d5_1 : decode jdk_33_method_23_code 1 = .ok (.invokespecial 202, 3) := by decide +kernel
theorem pd_0 : parseMethodDescriptor "()V" = some ⟨[], none⟩ := by decide +kernel
theorem d5_4 : decode jdk_33_method_23_code 4 = .ok (.aload_n 0, 1) := by decide +kernel
theorem d5_5 : decode jdk_33_method_23_code 5 = .ok (.iload_n 1, 1) := by decide +kernel
theorem d5_6 : decode jdk_33_method_23_code 6 = .ok (.putfield 205, 3) := by decide +kernel
theorem d5_9 : decode jdk_33_method_23_code 9 = .ok (.return_, 1) := by decide +kernel
set_option maxRecDepth 65536 in
set_option maxHeartbeats 40000000 in
theorem rm_iinit (l : Launch) (Z : State) (a0 : Array Value) (hw : ∀ d ∈ tables_1, d.before a0 Z = true) (ws : List Jvm.Cond) (a : Addr) (i : Int32) (o_value : Value) (h0 : Heap) (n0 : Nat) (Z0 : n0 ≤ h0.size) (E_a : Exa Z h0 a "java/lang/Integer") (gg_a : n0 ≤ a) (F_value : Fld Z h0 a "java/lang/Integer" "value" "I" o_value) :
    MetFree l (⟨"java/lang/Integer", "<init>", "(I)V"⟩ : MethodName) (head1 (Jvm.Cond.code (⟨"java/lang/Integer", "<init>", "(I)V"⟩ : MethodName) jdk_33_method_23_code 2 none :: ws) ({ frames := 2, cells := 0, slots := 0, locals := 24 } : Room)) (fun a_ U_ => a_ = #[(.ref a), (.int i)] ∧ Z.Warmed39 U_.vm ∧ U_.heap = h0) (fun _ _ _ _ _ => True) (fun _ U_ o_ V_ => ∃ v_ L_, o_ = .returned v_ ∧ Q_iinit Z a i o_value h0 n0 v_ V_.heap L_ ∧ FrameEnd U_ o_ V_ L_ ({ frames := 2, cells := 0, slots := 0, locals := 24 } : Room).cells ({ frames := 2, cells := 0, slots := 0, locals := 24 } : Room).slots) := by
  refine MetFree.of_bodySF (plainFor_of_name pn_2) hisR ?_
  intro p e s m args below meth c s₁ Bd hml0 hP hK
  obtain ⟨rfl, hZ, hh⟩ := hP
  have hx := Bd.exec
  have hby := Bd.bytes
  have hml : c.maxLocals = 2 := hml0
  have hown : s.vm.findClass "java/lang/Integer" = some m.cls := findClass_of_methodNamed Bd.named
  have hnm := (name_of_methodNamed Bd.named Bd.method).1
  have X0 : Stand p l e ({ frames := 2, cells := 0, slots := 0, locals := 24 } : Room) s m #[(.ref a), (.int i)] below meth c s₁ [] 0 0 := Stand.of_body Bd
  have e0 : s₁.heap = h0 := by rw [← hh, Bd.state]; rfl
  have N0 := Fr.nil n0
  have pre0 : ∀ t_, Steps p.tables e below (s₁.setTop (mkF m 0 #[.val (.ref a), .val (.int i)] [])) t_ → Steps p.tables e below (s₁.setTop (entryFrame m #[(.ref a), (.int i)] 2)) t_ := fun t_ k_ => castTop (ef_iinit m a i) k_
  have O0 := own_ext_refl h0
  have K0 := Keep.refl h0 [a]
  obtain ⟨v13, _, ⟨T13, L13, k13, n13⟩, -, X13, ⟨Lc13, hQ13, l13, y13, z13⟩, st13⟩ := X0.specialBack hx (y := (⟨"java/lang/Number", "<init>", "()V"⟩ : MethodName)) rfl hown (mvT hZ (hw _ (List.mem_of_getElem? (i := 32) rfl))) (mvT hZ (hw _ (List.mem_of_getElem? (i := 33) rfl))) (mvT hZ (hw _ (List.mem_of_getElem? (i := 37) rfl))) (by decide) (backOf (W := 0) (rm_num l Z a0 hw [] a h0 n0 Z0 ) hZ (hw _ (List.mem_of_getElem? (i := 37) rfl)) (hw _ (List.mem_of_getElem? (i := 36) rfl)) (by decide) (by decide)) (g := (mkF m 1 #[.val (.ref a), .val (.int i)] [(.ref a)])) rfl (by rw [hml]; rfl) (Steps.refl _) (a := a) (argsL := []) (rest := []) (lenOf pd_0 rfl) rfl (by show 2 * 0 + _ ≤ _; exact Nat.le_of_eq rfl) (hb hby d5_1) (fun _ _ => ⟨rfl, e0, (by decide : 0 + 0 ≤ _), (by decide : 0 + 0 ≤ _)⟩)
  dsimp only [Pt.U, Pt.locs, Pt.cells, Pt.slots] at X13 l13 y13 z13 st13 hQ13
  subst l13 y13 z13
  obtain ⟨hv13, N13q, e13⟩ := hQ13
  have N13 := Fr.app N0 N13q
  subst hv13
  obtain ⟨T14, h14, X14, e14, W14, st14⟩ := putF X13 hx hZ hown (host := "") (Or.inl (hw _ (List.mem_of_getElem? (i := 39) rfl))) Via.refl e13 F_value E_a (Or.inr ⟨(hw _ (List.mem_of_getElem? (i := 40) rfl)), rfl, hnm⟩) (hw _ (List.mem_of_getElem? (i := 27) rfl)) (ty := .int) (by decide) rfl rfl (g := (mkF m 6 #[.val (.ref a), .val (.int i)] [(.int i), (.ref a)])) rfl rfl (hb hby d5_6)
  have N14 := Fr.snoc X14 N13 gg_a
  have K14 := Keep.wr K0 W14 (Or.inl (List.mem_of_getElem? (i := 0) rfl))
  have Zs14 := Nat.le_trans Z0 (Keep.of_wr W14).1
  have c15 : Exa Z h14 a "java/lang/Integer" := E_a.wr W14
  have c16 : Fld Z h14 a "java/lang/Integer" "value" "I" (.int i) := F_value.same W14
  have pre17 : ∀ t_, Steps p.tables e below (T14.setTop (mkF m 9 #[.val (.ref a), .val (.int i)] [])) t_ → Steps p.tables e below (s₁.setTop (entryFrame m #[(.ref a), (.int i)] 2)) t_ := fun t_ k_ => pre0 t_ (by
    show Steps p.tables e below (s₁.setTop (mkF m 0 #[.val (.ref a), .val (.int i)] [])) _
    refine XS.aloadN X0.here hx rfl (hb hby d5_0) rfl rfl ?_
    show Steps p.tables e below (s₁.setTop (mkF m 1 #[.val (.ref a), .val (.int i)] [(.ref a)])) _
    refine st13.trans ?_
    show Steps p.tables e below (T13.setTop (mkF m 4 #[.val (.ref a), .val (.int i)] [])) _
    refine XS.aloadN X13.here hx rfl (hb hby d5_4) rfl rfl ?_
    show Steps p.tables e below (T13.setTop (mkF m 5 #[.val (.ref a), .val (.int i)] [(.ref a)])) _
    refine XS.iloadN X13.here hx rfl (hb hby d5_5) rfl ?_
    show Steps p.tables e below (T13.setTop (mkF m 6 #[.val (.ref a), .val (.int i)] [(.int i), (.ref a)])) _
    refine st14 _ ?_
    show Steps p.tables e below (T14.setTop (mkF m 9 #[.val (.ref a), .val (.int i)] [])) _
    exact k_)
  obtain ⟨fs, hr, hrun, hended, hW, hsame⟩ := X14.leave (v := none) (fun _ => rfl)
  refine ⟨_, _, pre17 _ ?_, hrun, hended, _, _, rfl, ?_, ⟨_, rfl⟩, hW, hsame.mono (by decide) (by decide)⟩
  · show Steps p.tables e below (T14.setTop (mkF m 9 #[.val (.ref a), .val (.int i)] [])) _
    exact X14.returnOut hx Bd.returns (hb hby d5_9) hr
  · show Q_iinit Z a i o_value h0 n0 _ T14.heap _
    rw [e14]
    exact ⟨rfl, N14, K14, c15, c16⟩
theorem own_cache_in (i : Int32) (h0 : ¬ i < (-128 : Int32)) (h1 : ¬ (127 : Int32) < i) : ¬ (i + (128 : Int32)) < (0 : Int32) ∧ (i + (128 : Int32)) < (256 : Int32) := by
  rw [Int32.lt_iff_toInt_lt] at h0 h1
  rw [Int32.lt_iff_toInt_lt, Int32.lt_iff_toInt_lt]
  have q := c_iadd i (128 : Int32)
  have e1 : (-128 : Int32).toInt = -128 := by decide
  have e2 : (127 : Int32).toInt = 127 := by decide
  have e3 : (128 : Int32).toInt = 128 := by decide
  have e4 : (0 : Int32).toInt = 0 := by decide
  have e5 : (256 : Int32).toInt = 256 := by decide
  have r := rng32 (i + (128 : Int32))
  rw [e1] at h0; rw [e2] at h1; rw [e3] at q; rw [e4, e5]
  omega
theorem own_sub {Z : State} {args : Array Value} {j : Int32} (hj : ¬ j < 0) : (Term.sub (.index 0) (.int (128 : Int32))).eval args Z none [j.toNatClampNeg] Z = some (.int (j - (128 : Int32))) := by
  have q := idx_at (args := args) (s := Z) (first := Z) (o := none) hj
  simp only [Term.eval] at q ⊢
  rw [q]; rfl
theorem ef_valueOf (m : MethodId) (i : Int32) : entryFrame m #[(.int i)] 1 = mkF m 0 #[.val (.int i)] [] := by first | (simp [entryFrame, mkF, argsToLocals, Value.category]; done) | rfl
def Q_valueOf (Z : State) (i : Int32) (w_cache : Addr) (cl_cache : Cell) (bx : Int32 → Value) (h0 : Heap) (n0 : Nat) (v : Option Value) (h : Heap) (L : List Loc) : Prop := (∃ r : Addr, v = some (.ref r) ∧ Exa Z h r "java/lang/Integer") ∧ Fr n0 L ∧ Ext h0 h
theorem d4_0 : decode jdk_33_method_22_code 0 = .ok (.iload_n 0, 1) := by decide +kernel
theorem d4_1 : decode jdk_33_method_22_code 1 = .ok (.bipush (-128), 2) := by decide +kernel
theorem d4_3 : decode jdk_33_method_22_code 3 = .ok (.if_icmp .lt 20, 3) := by decide +kernel
theorem d4_23 : decode jdk_33_method_22_code 23 = .ok (.new 1, 3) := by decide +kernel
theorem d4_26 : decode jdk_33_method_22_code 26 = .ok (.dup, 1) := by decide +kernel
theorem d4_27 : decode jdk_33_method_22_code 27 = .ok (.iload_n 0, 1) := by decide +kernel
theorem d4_28 : decode jdk_33_method_22_code 28 = .ok (.invokespecial 199, 3) := by decide +kernel
theorem pd_1 : parseMethodDescriptor "(I)V" = some ⟨[.int], none⟩ := by decide +kernel
theorem d4_31 : decode jdk_33_method_22_code 31 = .ok (.areturn, 1) := by decide +kernel
theorem d4_6 : decode jdk_33_method_22_code 6 = .ok (.iload_n 0, 1) := by decide +kernel
theorem d4_7 : decode jdk_33_method_22_code 7 = .ok (.getstatic 191, 3) := by decide +kernel
theorem d4_10 : decode jdk_33_method_22_code 10 = .ok (.if_icmp .gt 13, 3) := by decide +kernel
theorem d4_13 : decode jdk_33_method_22_code 13 = .ok (.getstatic 195, 3) := by decide +kernel
theorem d4_16 : decode jdk_33_method_22_code 16 = .ok (.iload_n 0, 1) := by decide +kernel
theorem d4_17 : decode jdk_33_method_22_code 17 = .ok (.sipush 128, 3) := by decide +kernel
theorem d4_20 : decode jdk_33_method_22_code 20 = .ok (.iadd, 1) := by decide +kernel
theorem d4_21 : decode jdk_33_method_22_code 21 = .ok (.aaload, 1) := by decide +kernel
theorem d4_22 : decode jdk_33_method_22_code 22 = .ok (.areturn, 1) := by decide +kernel
set_option maxRecDepth 65536 in
set_option maxHeartbeats 40000000 in
theorem rm_valueOf (l : Launch) (Z : State) (a0 : Array Value) (hw : ∀ d ∈ tables_1, d.before a0 Z = true) (ws : List Jvm.Cond) (i : Int32) (w_cache : Addr) (cl_cache : Cell) (bx : Int32 → Value) (h0 : Heap) (n0 : Nat) (Z0 : n0 ≤ h0.size) (S_high : Sta Z h0 "java/lang/Integer$IntegerCache" "high" "I" (.int (127 : Int32))) (S_cache : Sta Z h0 "java/lang/Integer$IntegerCache" "cache" "[Ljava/lang/Integer;" (.ref w_cache)) (Bx : Bxs Z w_cache cl_cache "java/lang/Integer" "I" (256 : Int32) bx) (Oz : Ext Z.heap h0) :
    MetFree l (⟨"java/lang/Integer", "valueOf", "(I)Ljava/lang/Integer;"⟩ : MethodName) (head1 (Jvm.Cond.code (⟨"java/lang/Integer", "valueOf", "(I)Ljava/lang/Integer;"⟩ : MethodName) jdk_33_method_22_code 1 (some (.object "java/lang/Integer")) :: ws) ({ frames := 3, cells := 1, slots := 1, locals := 38 } : Room)) (fun a_ U_ => a_ = #[(.int i)] ∧ Z.Warmed39 U_.vm ∧ U_.heap = h0) (fun _ _ _ _ _ => True) (fun _ U_ o_ V_ => ∃ v_ L_, o_ = .returned v_ ∧ Q_valueOf Z i w_cache cl_cache bx h0 n0 v_ V_.heap L_ ∧ FrameEnd U_ o_ V_ L_ ({ frames := 3, cells := 1, slots := 1, locals := 38 } : Room).cells ({ frames := 3, cells := 1, slots := 1, locals := 38 } : Room).slots) := by
  refine MetFree.of_bodySF (plainFor_of_name pn_2) hisR ?_
  intro p e s m args below meth c s₁ Bd hml0 hP hK
  obtain ⟨rfl, hZ, hh⟩ := hP
  have hx := Bd.exec
  have hby := Bd.bytes
  have hml : c.maxLocals = 1 := hml0
  have hown : s.vm.findClass "java/lang/Integer" = some m.cls := findClass_of_methodNamed Bd.named
  have hnm := (name_of_methodNamed Bd.named Bd.method).1
  have X0 : Stand p l e ({ frames := 3, cells := 1, slots := 1, locals := 38 } : Room) s m #[(.int i)] below meth c s₁ [] 0 0 := Stand.of_body Bd
  have e0 : s₁.heap = h0 := by rw [← hh, Bd.state]; rfl
  have N0 := Fr.nil n0
  have pre0 : ∀ t_, Steps p.tables e below (s₁.setTop (mkF m 0 #[.val (.int i)] [])) t_ → Steps p.tables e below (s₁.setTop (entryFrame m #[(.int i)] 1)) t_ := fun t_ k_ => castTop (ef_valueOf m i) k_
  have O0 := own_ext_refl h0
  have pre18 : ∀ t_, Steps p.tables e below (s₁.setTop (mkF m 3 #[.val (.int i)] [(.int (-128 : Int32)), (.int i)])) t_ → Steps p.tables e below (s₁.setTop (entryFrame m #[(.int i)] 1)) t_ := fun t_ k_ => pre0 t_ (by
    show Steps p.tables e below (s₁.setTop (mkF m 0 #[.val (.int i)] [])) _
    refine XS.iloadN X0.here hx rfl (hb hby d4_0) rfl ?_
    show Steps p.tables e below (s₁.setTop (mkF m 1 #[.val (.int i)] [(.int i)])) _
    refine XS.bipush X0.here hx rfl (hb hby d4_1) ?_
    show Steps p.tables e below (s₁.setTop (mkF m 3 #[.val (.int i)] [(.int (-128 : Int32)), (.int i)])) _
    exact k_)
  by_cases hc3_19 : i < (-128 : Int32)
  · obtain ⟨T20, h20, X20, e20, E20, A20, D20, -, st20⟩ := newO X0 hx hZ hown (hw _ (List.mem_of_getElem? (i := 26) rfl)) (hw _ (List.mem_of_getElem? (i := 27) rfl)) (hw _ (List.mem_of_getElem? (i := 22) rfl)) e0 (g := (mkF m 23 #[.val (.int i)] [])) rfl (hb hby d4_23) (by decide) (by decide)
    obtain ⟨b20, g20⟩ : ∃ z, z = h0.size := ⟨_, rfl⟩
    rw [← g20] at A20 D20 st20
    have gg_b20 : n0 ≤ b20 := Nat.le_trans Z0 (Nat.le_of_eq g20.symm)
    have sz_b20 : h0.size ≤ b20 := Nat.le_trans O0.1 (Nat.le_of_eq g20.symm)
    have O21 := own_ext_trans O0 E20
    have Zs21 := Nat.le_trans Z0 (E20).1
    have c22 : Sta Z h20 "java/lang/Integer$IntegerCache" "high" "I" (.int (127 : Int32)) := S_high.ext E20
    have c23 : Sta Z h20 "java/lang/Integer$IntegerCache" "cache" "[Ljava/lang/Integer;" (.ref w_cache) := S_cache.ext E20
    have F20_value : Fld Z h20 b20 "java/lang/Integer" "value" "I" (.int (0 : Int32)) := D20 (Or.inr (hw _ (List.mem_of_getElem? (i := 40) rfl))) (ty := .int) (by decide)
    obtain ⟨v24, _, ⟨T24, L24, k24, n24⟩, -, X24, ⟨Lc24, hQ24, l24, y24, z24⟩, st24⟩ := X20.specialBack hx (y := (⟨"java/lang/Integer", "<init>", "(I)V"⟩ : MethodName)) rfl hown (mvT hZ (hw _ (List.mem_of_getElem? (i := 28) rfl))) (mvT hZ (hw _ (List.mem_of_getElem? (i := 29) rfl))) (mvT hZ (hw _ (List.mem_of_getElem? (i := 31) rfl))) (by decide) (backOf (W := 1) (rm_iinit l Z a0 hw [] b20 i (.int (0 : Int32)) h20 n0 Zs21 A20 gg_b20 F20_value) hZ (hw _ (List.mem_of_getElem? (i := 31) rfl)) (hw _ (List.mem_of_getElem? (i := 22) rfl)) (by decide) (by decide)) (g := (mkF m 28 #[.val (.int i)] [(.int i), (.ref b20), (.ref b20)])) rfl (by rw [hml]; rfl) (Steps.refl _) (a := b20) (argsL := [(.int i)]) (rest := [(.ref b20)]) (lenOf pd_1 rfl) rfl (by show 2 * 0 + _ ≤ _; exact Nat.le_of_eq rfl) (hb hby d4_28) (fun _ _ => ⟨rfl, e20, (by decide : 1 + 0 ≤ _), (by decide : 1 + 0 ≤ _)⟩)
    dsimp only [Pt.U, Pt.locs, Pt.cells, Pt.slots] at X24 l24 y24 z24 st24 hQ24
    subst l24 y24 z24
    obtain ⟨hv24, N24q, M24⟩ := hQ24
    have N24 := Fr.app N0 N24q
    subst hv24
    obtain ⟨K24k, E24x, F24_value⟩ := M24
    have O25 := own_ext_keep O21 K24k (allS sz_b20 all0)
    have Zs25 := Nat.le_trans Zs21 K24k.1
    have c26 : Exa Z T24.heap b20 "java/lang/Integer" := A20.keep K24k
    have pre27 : ∀ t_, Steps p.tables e below (T24.setTop (mkF m 31 #[.val (.int i)] [(.ref b20)])) t_ → Steps p.tables e below (s₁.setTop (entryFrame m #[(.int i)] 1)) t_ := fun t_ k_ => pre18 t_ (by
      show Steps p.tables e below (s₁.setTop (mkF m 3 #[.val (.int i)] [(.int (-128 : Int32)), (.int i)])) _
      refine XS.icmpYes X0.here hx rfl (pc0 := 3) (pc' := 23) rfl (hb hby d4_3) rfl (tlt hc3_19).1 (by decide) (by decide) ?_
      show Steps p.tables e below (s₁.setTop (mkF m 23 #[.val (.int i)] [])) _
      refine st20 _ ?_
      show Steps p.tables e below (T20.setTop (mkF m 26 #[.val (.int i)] [(.ref b20)])) _
      refine XS.dup X20.here hx rfl (hb hby d4_26) rfl rfl ?_
      show Steps p.tables e below (T20.setTop (mkF m 27 #[.val (.int i)] [(.ref b20), (.ref b20)])) _
      refine XS.iloadN X20.here hx rfl (hb hby d4_27) rfl ?_
      show Steps p.tables e below (T20.setTop (mkF m 28 #[.val (.int i)] [(.int i), (.ref b20), (.ref b20)])) _
      refine st24.trans ?_
      show Steps p.tables e below (T24.setTop (mkF m 31 #[.val (.int i)] [(.ref b20)])) _
      exact k_)
    obtain ⟨fs, hr, hrun, hended, hW, hsame⟩ := X24.leave (v := some (.ref b20)) (fun h => by rw [Bd.returns] at h; cases h)
    refine ⟨_, _, pre27 _ ?_, hrun, hended, _, _, rfl, ?_, ⟨_, rfl⟩, hW, hsame.mono (by decide) (by decide)⟩
    · show Steps p.tables e below (T24.setTop (mkF m 31 #[.val (.int i)] [(.ref b20)])) _
      exact retA X24 hx Bd.returns rfl rfl rfl (hb hby d4_31) hr
    · show Q_valueOf Z i w_cache cl_cache bx h0 n0 _ T24.heap _
      exact ⟨⟨b20, rfl, E24x⟩, N24, O25⟩
  · obtain ⟨T28, X28, e28, st28⟩ := getS2 X0 hx hZ hown (host := "") (Or.inl (hw _ (List.mem_of_getElem? (i := 24) rfl))) Via.refl e0 S_high (g := (mkF m 7 #[.val (.int i)] [(.int i)])) rfl (hb hby d4_7)
    have pre29 : ∀ t_, Steps p.tables e below (T28.setTop (mkF m 10 #[.val (.int i)] [(.int (127 : Int32)), (.int i)])) t_ → Steps p.tables e below (s₁.setTop (entryFrame m #[(.int i)] 1)) t_ := fun t_ k_ => pre18 t_ (by
      show Steps p.tables e below (s₁.setTop (mkF m 3 #[.val (.int i)] [(.int (-128 : Int32)), (.int i)])) _
      refine XS.icmpNo X0.here hx rfl (hb hby d4_3) rfl (flt hc3_19).1 ?_
      show Steps p.tables e below (s₁.setTop (mkF m 6 #[.val (.int i)] [])) _
      refine XS.iloadN X0.here hx rfl (hb hby d4_6) rfl ?_
      show Steps p.tables e below (s₁.setTop (mkF m 7 #[.val (.int i)] [(.int i)])) _
      refine st28 _ ?_
      show Steps p.tables e below (T28.setTop (mkF m 10 #[.val (.int i)] [(.int (127 : Int32)), (.int i)])) _
      exact k_)
    by_cases hc10_30 : (127 : Int32) < i
    · obtain ⟨T31, h31, X31, e31, E31, A31, D31, -, st31⟩ := newO X28 hx hZ hown (hw _ (List.mem_of_getElem? (i := 26) rfl)) (hw _ (List.mem_of_getElem? (i := 27) rfl)) (hw _ (List.mem_of_getElem? (i := 22) rfl)) e28 (g := (mkF m 23 #[.val (.int i)] [])) rfl (hb hby d4_23) (by decide) (by decide)
      obtain ⟨b31, g31⟩ : ∃ z, z = h0.size := ⟨_, rfl⟩
      rw [← g31] at A31 D31 st31
      have gg_b31 : n0 ≤ b31 := Nat.le_trans Z0 (Nat.le_of_eq g31.symm)
      have sz_b31 : h0.size ≤ b31 := Nat.le_trans O0.1 (Nat.le_of_eq g31.symm)
      have O32 := own_ext_trans O0 E31
      have Zs32 := Nat.le_trans Z0 (E31).1
      have c33 : Sta Z h31 "java/lang/Integer$IntegerCache" "high" "I" (.int (127 : Int32)) := S_high.ext E31
      have c34 : Sta Z h31 "java/lang/Integer$IntegerCache" "cache" "[Ljava/lang/Integer;" (.ref w_cache) := S_cache.ext E31
      have F31_value : Fld Z h31 b31 "java/lang/Integer" "value" "I" (.int (0 : Int32)) := D31 (Or.inr (hw _ (List.mem_of_getElem? (i := 40) rfl))) (ty := .int) (by decide)
      obtain ⟨v35, _, ⟨T35, L35, k35, n35⟩, -, X35, ⟨Lc35, hQ35, l35, y35, z35⟩, st35⟩ := X31.specialBack hx (y := (⟨"java/lang/Integer", "<init>", "(I)V"⟩ : MethodName)) rfl hown (mvT hZ (hw _ (List.mem_of_getElem? (i := 28) rfl))) (mvT hZ (hw _ (List.mem_of_getElem? (i := 29) rfl))) (mvT hZ (hw _ (List.mem_of_getElem? (i := 31) rfl))) (by decide) (backOf (W := 1) (rm_iinit l Z a0 hw [] b31 i (.int (0 : Int32)) h31 n0 Zs32 A31 gg_b31 F31_value) hZ (hw _ (List.mem_of_getElem? (i := 31) rfl)) (hw _ (List.mem_of_getElem? (i := 22) rfl)) (by decide) (by decide)) (g := (mkF m 28 #[.val (.int i)] [(.int i), (.ref b31), (.ref b31)])) rfl (by rw [hml]; rfl) (Steps.refl _) (a := b31) (argsL := [(.int i)]) (rest := [(.ref b31)]) (lenOf pd_1 rfl) rfl (by show 2 * 0 + _ ≤ _; exact Nat.le_of_eq rfl) (hb hby d4_28) (fun _ _ => ⟨rfl, e31, (by decide : 1 + 0 ≤ _), (by decide : 1 + 0 ≤ _)⟩)
      dsimp only [Pt.U, Pt.locs, Pt.cells, Pt.slots] at X35 l35 y35 z35 st35 hQ35
      subst l35 y35 z35
      obtain ⟨hv35, N35q, M35⟩ := hQ35
      have N35 := Fr.app N0 N35q
      subst hv35
      obtain ⟨K35k, E35x, F35_value⟩ := M35
      have O36 := own_ext_keep O32 K35k (allS sz_b31 all0)
      have Zs36 := Nat.le_trans Zs32 K35k.1
      have c37 : Exa Z T35.heap b31 "java/lang/Integer" := A31.keep K35k
      have pre38 : ∀ t_, Steps p.tables e below (T35.setTop (mkF m 31 #[.val (.int i)] [(.ref b31)])) t_ → Steps p.tables e below (s₁.setTop (entryFrame m #[(.int i)] 1)) t_ := fun t_ k_ => pre29 t_ (by
        show Steps p.tables e below (T28.setTop (mkF m 10 #[.val (.int i)] [(.int (127 : Int32)), (.int i)])) _
        refine XS.icmpYes X28.here hx rfl (pc0 := 10) (pc' := 23) rfl (hb hby d4_10) rfl (tlt hc10_30).2.2.1 (by decide) (by decide) ?_
        show Steps p.tables e below (T28.setTop (mkF m 23 #[.val (.int i)] [])) _
        refine st31 _ ?_
        show Steps p.tables e below (T31.setTop (mkF m 26 #[.val (.int i)] [(.ref b31)])) _
        refine XS.dup X31.here hx rfl (hb hby d4_26) rfl rfl ?_
        show Steps p.tables e below (T31.setTop (mkF m 27 #[.val (.int i)] [(.ref b31), (.ref b31)])) _
        refine XS.iloadN X31.here hx rfl (hb hby d4_27) rfl ?_
        show Steps p.tables e below (T31.setTop (mkF m 28 #[.val (.int i)] [(.int i), (.ref b31), (.ref b31)])) _
        refine st35.trans ?_
        show Steps p.tables e below (T35.setTop (mkF m 31 #[.val (.int i)] [(.ref b31)])) _
        exact k_)
      obtain ⟨fs, hr, hrun, hended, hW, hsame⟩ := X35.leave (v := some (.ref b31)) (fun h => by rw [Bd.returns] at h; cases h)
      refine ⟨_, _, pre38 _ ?_, hrun, hended, _, _, rfl, ?_, ⟨_, rfl⟩, hW, hsame.mono (by decide) (by decide)⟩
      · show Steps p.tables e below (T35.setTop (mkF m 31 #[.val (.int i)] [(.ref b31)])) _
        exact retA X35 hx Bd.returns rfl rfl rfl (hb hby d4_31) hr
      · show Q_valueOf Z i w_cache cl_cache bx h0 n0 _ T35.heap _
        exact ⟨⟨b31, rfl, E35x⟩, N35, O36⟩
    · obtain ⟨T39, X39, e39, st39⟩ := getS2 X28 hx hZ hown (host := "") (Or.inl (hw _ (List.mem_of_getElem? (i := 44) rfl))) Via.refl e28 S_cache (g := (mkF m 13 #[.val (.int i)] [])) rfl (hb hby d4_13)
      have hin := own_cache_in i hc3_19 hc10_30
      obtain ⟨bo, hat, Ebo, -⟩ := Bx.2.2.2 (i + (128 : Int32)) (inb_of Bx.2.1 hin)
      have Ab := Bx.1.ext Oz
      have pre40 : ∀ t_, Steps p.tables e below (T39.setTop (mkF m 22 #[.val (.int i)] [(.ref bo)])) t_ → Steps p.tables e below (s₁.setTop (entryFrame m #[(.int i)] 1)) t_ := fun t_ k_ => pre29 t_ (by
        show Steps p.tables e below (T28.setTop (mkF m 10 #[.val (.int i)] [(.int (127 : Int32)), (.int i)])) _
        refine XS.icmpNo X28.here hx rfl (hb hby d4_10) rfl (flt hc10_30).2.2.1 ?_
        show Steps p.tables e below (T28.setTop (mkF m 13 #[.val (.int i)] [])) _
        refine st39 _ ?_
        show Steps p.tables e below (T39.setTop (mkF m 16 #[.val (.int i)] [(.ref w_cache)])) _
        refine XS.iloadN X39.here hx rfl (hb hby d4_16) rfl ?_
        show Steps p.tables e below (T39.setTop (mkF m 17 #[.val (.int i)] [(.int i), (.ref w_cache)])) _
        refine XS.sipush X39.here hx rfl (hb hby d4_17) ?_
        show Steps p.tables e below (T39.setTop (mkF m 20 #[.val (.int i)] [(.int (128 : Int32)), (.int i), (.ref w_cache)])) _
        refine XS.iadd X39.here hx rfl (hb hby d4_20) rfl ?_
        show Steps p.tables e below (T39.setTop (mkF m 21 #[.val (.int i)] [(.int (i + (128 : Int32))), (.ref w_cache)])) _
        refine X39.aaload hx (j := (i + (128 : Int32))) (v := (.ref bo)) (by rw [e39]; exact Ab.1) (State.isArrayOf_alike hZ.alike Ab.2.1) rfl Ab.2.2 (inb_of Bx.2.1 hin) hat (g := (mkF m 21 #[.val (.int i)] [(.int (i + (128 : Int32))), (.ref w_cache)])) rfl rfl (hb hby d4_21) _ ?_
        show Steps p.tables e below (T39.setTop (mkF m 22 #[.val (.int i)] [(.ref bo)])) _
        exact k_)
      obtain ⟨fs, hr, hrun, hended, hW, hsame⟩ := X39.leave (v := some (.ref bo)) (fun h => by rw [Bd.returns] at h; cases h)
      refine ⟨_, _, pre40 _ ?_, hrun, hended, _, _, rfl, ?_, ⟨_, rfl⟩, hW, hsame.mono (by decide) (by decide)⟩
      · show Steps p.tables e below (T39.setTop (mkF m 22 #[.val (.int i)] [(.ref bo)])) _
        exact retA X39 hx Bd.returns rfl rfl rfl (hb hby d4_22) hr
      · show Q_valueOf Z i w_cache cl_cache bx h0 n0 _ T39.heap _
        rw [e39]
        exact ⟨⟨bo, rfl, (Ebo.ext Oz)⟩, N0, O0⟩
def own_eq (ax az ox oz : Int32) : Int32 := if ox = ax then (if oz = az then (1 : Int32) else (0 : Int32)) else (0 : Int32)
theorem ef_eqC (m : MethodId) (a : Addr) (o : Addr) : entryFrame m #[(.ref a), (.ref o)] 3 = mkF m 0 #[.val (.ref a), .val (.ref o), .unset] [] := by first | (simp [entryFrame, mkF, argsToLocals, Value.category]; done) | rfl
def Q_eqC (Z : State) (a : Addr) (o : Addr) (ax : Int32) (az : Int32) (ox : Int32) (oz : Int32) (h0 : Heap) (n0 : Nat) (v : Option Value) (h : Heap) (L : List Loc) : Prop := v = some (.int (own_eq ax az ox oz)) ∧ Fr n0 L ∧ h = h0
theorem d3_0 : decode prog_26_method_6_code 0 = .ok (.aload_n 1, 1) := by decide +kernel
theorem d3_1 : decode prog_26_method_6_code 1 = .ok (.instanceof 8, 3) := by decide +kernel
theorem d3_4 : decode prog_26_method_6_code 4 = .ok (.ifCond .eq 34, 3) := by decide +kernel
theorem d3_7 : decode prog_26_method_6_code 7 = .ok (.aload_n 1, 1) := by decide +kernel
theorem d3_8 : decode prog_26_method_6_code 8 = .ok (.checkcast 8, 3) := by decide +kernel
theorem d3_11 : decode prog_26_method_6_code 11 = .ok (.astore_n 2, 1) := by decide +kernel
theorem d3_12 : decode prog_26_method_6_code 12 = .ok (.aload_n 2, 1) := by decide +kernel
theorem d3_13 : decode prog_26_method_6_code 13 = .ok (.getfield 7, 3) := by decide +kernel
theorem d3_16 : decode prog_26_method_6_code 16 = .ok (.aload_n 0, 1) := by decide +kernel
theorem d3_17 : decode prog_26_method_6_code 17 = .ok (.getfield 7, 3) := by decide +kernel
theorem d3_20 : decode prog_26_method_6_code 20 = .ok (.if_icmp .ne 18, 3) := by decide +kernel
theorem d3_23 : decode prog_26_method_6_code 23 = .ok (.aload_n 2, 1) := by decide +kernel
theorem d3_24 : decode prog_26_method_6_code 24 = .ok (.getfield 13, 3) := by decide +kernel
theorem d3_27 : decode prog_26_method_6_code 27 = .ok (.aload_n 0, 1) := by decide +kernel
theorem d3_28 : decode prog_26_method_6_code 28 = .ok (.getfield 13, 3) := by decide +kernel
theorem d3_31 : decode prog_26_method_6_code 31 = .ok (.if_icmp .ne 7, 3) := by decide +kernel
theorem d3_34 : decode prog_26_method_6_code 34 = .ok (.iconst 1, 1) := by decide +kernel
theorem d3_35 : decode prog_26_method_6_code 35 = .ok (.goto 4, 3) := by decide +kernel
theorem d3_39 : decode prog_26_method_6_code 39 = .ok (.ireturn, 1) := by decide +kernel
theorem d3_38 : decode prog_26_method_6_code 38 = .ok (.iconst 0, 1) := by decide +kernel
set_option maxRecDepth 65536 in
set_option maxHeartbeats 40000000 in
theorem rm_eqC (l : Launch) (Z : State) (a0 : Array Value) (hw : ∀ d ∈ tables_1, d.before a0 Z = true) (ws : List Jvm.Cond) (a : Addr) (o : Addr) (ax : Int32) (az : Int32) (ox : Int32) (oz : Int32) (h0 : Heap) (n0 : Nat) (Z0 : n0 ≤ h0.size) (E_o : Exa Z h0 o "com/example/fissure/fissure/games/breakable/Hex") (F_a_column : Fld Z h0 a "com/example/fissure/fissure/games/breakable/Hex" "column" "I" (.int ax)) (F_a_row : Fld Z h0 a "com/example/fissure/fissure/games/breakable/Hex" "row" "I" (.int az)) (F_o_column : Fld Z h0 o "com/example/fissure/fissure/games/breakable/Hex" "column" "I" (.int ox)) (F_o_row : Fld Z h0 o "com/example/fissure/fissure/games/breakable/Hex" "row" "I" (.int oz)) :
    MetFree l (⟨"com/example/fissure/fissure/games/breakable/Hex", "equals", "(Ljava/lang/Object;)Z"⟩ : MethodName) (head1 (Jvm.Cond.code (⟨"com/example/fissure/fissure/games/breakable/Hex", "equals", "(Ljava/lang/Object;)Z"⟩ : MethodName) prog_26_method_6_code 3 (some .boolean) :: ws) ({ frames := 0, cells := 0, slots := 0, locals := 0 } : Room)) (fun a_ U_ => a_ = #[(.ref a), (.ref o)] ∧ Z.Warmed39 U_.vm ∧ U_.heap = h0) (fun _ _ _ _ _ => True) (fun _ U_ o_ V_ => ∃ v_ L_, o_ = .returned v_ ∧ Q_eqC Z a o ax az ox oz h0 n0 v_ V_.heap L_ ∧ FrameEnd U_ o_ V_ L_ ({ frames := 0, cells := 0, slots := 0, locals := 0 } : Room).cells ({ frames := 0, cells := 0, slots := 0, locals := 0 } : Room).slots) := by
  refine MetFree.of_bodySF (plainFor_of_name pn_0) hisR ?_
  intro p e s m args below meth c s₁ Bd hml0 hP hK
  obtain ⟨rfl, hZ, hh⟩ := hP
  have hx := Bd.exec
  have hby := Bd.bytes
  have hml : c.maxLocals = 3 := hml0
  have hown : s.vm.findClass "com/example/fissure/fissure/games/breakable/Hex" = some m.cls := findClass_of_methodNamed Bd.named
  have hnm := (name_of_methodNamed Bd.named Bd.method).1
  have X0 : Stand p l e ({ frames := 0, cells := 0, slots := 0, locals := 0 } : Room) s m #[(.ref a), (.ref o)] below meth c s₁ [] 0 0 := Stand.of_body Bd
  have e0 : s₁.heap = h0 := by rw [← hh, Bd.state]; rfl
  have N0 := Fr.nil n0
  have pre0 : ∀ t_, Steps p.tables e below (s₁.setTop (mkF m 0 #[.val (.ref a), .val (.ref o), .unset] [])) t_ → Steps p.tables e below (s₁.setTop (entryFrame m #[(.ref a), (.ref o)] 3)) t_ := fun t_ k_ => castTop (ef_eqC m a o) k_
  have O0 := own_ext_refl h0
  obtain ⟨T41, X41, e41, st41⟩ := instY X0 hx hZ hown (hw _ (List.mem_of_getElem? (i := 18) rfl)) e0 (Ins.self E_o) (g := (mkF m 1 #[.val (.ref a), .val (.ref o), .unset] [(.ref o)])) rfl rfl (hb hby d3_1)
  obtain ⟨T42, X42, e42, st42⟩ := castY X41 hx hZ hown (hw _ (List.mem_of_getElem? (i := 18) rfl)) e41 (Ins.self E_o) (g := (mkF m 8 #[.val (.ref a), .val (.ref o), .unset] [(.ref o)])) rfl rfl (hb hby d3_8)
  obtain ⟨T43, X43, e43, st43⟩ := getF X42 hx hZ hown (host := "") (Or.inl (hw _ (List.mem_of_getElem? (i := 9) rfl))) Via.refl e42 F_o_column (g := (mkF m 13 #[.val (.ref a), .val (.ref o), .val (.ref o)] [(.ref o)])) rfl rfl (hb hby d3_13)
  obtain ⟨T44, X44, e44, st44⟩ := getF X43 hx hZ hown (host := "") (Or.inl (hw _ (List.mem_of_getElem? (i := 9) rfl))) Via.refl e43 F_a_column (g := (mkF m 17 #[.val (.ref a), .val (.ref o), .val (.ref o)] [(.ref a), (.int ox)])) rfl rfl (hb hby d3_17)
  have pre45 : ∀ t_, Steps p.tables e below (T44.setTop (mkF m 20 #[.val (.ref a), .val (.ref o), .val (.ref o)] [(.int ax), (.int ox)])) t_ → Steps p.tables e below (s₁.setTop (entryFrame m #[(.ref a), (.ref o)] 3)) t_ := fun t_ k_ => pre0 t_ (by
    show Steps p.tables e below (s₁.setTop (mkF m 0 #[.val (.ref a), .val (.ref o), .unset] [])) _
    refine XS.aloadN X0.here hx rfl (hb hby d3_0) rfl rfl ?_
    show Steps p.tables e below (s₁.setTop (mkF m 1 #[.val (.ref a), .val (.ref o), .unset] [(.ref o)])) _
    refine st41 _ ?_
    show Steps p.tables e below (T41.setTop (mkF m 4 #[.val (.ref a), .val (.ref o), .unset] [(.int (1 : Int32))])) _
    refine XS.ifNo X41.here hx rfl (hb hby d3_4) rfl ((if0 _ _).trans (feq (by decide : ¬ ((1 : Int32) = (0 : Int32)))).1) ?_
    show Steps p.tables e below (T41.setTop (mkF m 7 #[.val (.ref a), .val (.ref o), .unset] [])) _
    refine XS.aloadN X41.here hx rfl (hb hby d3_7) rfl rfl ?_
    show Steps p.tables e below (T41.setTop (mkF m 8 #[.val (.ref a), .val (.ref o), .unset] [(.ref o)])) _
    refine st42 _ ?_
    show Steps p.tables e below (T42.setTop (mkF m 11 #[.val (.ref a), .val (.ref o), .unset] [(.ref o)])) _
    refine XS.astoreN X42.here hx rfl (hb hby d3_11) rfl rfl (l' := #[.val (.ref a), .val (.ref o), .val (.ref o)]) rfl ?_
    show Steps p.tables e below (T42.setTop (mkF m 12 #[.val (.ref a), .val (.ref o), .val (.ref o)] [])) _
    refine XS.aloadN X42.here hx rfl (hb hby d3_12) rfl rfl ?_
    show Steps p.tables e below (T42.setTop (mkF m 13 #[.val (.ref a), .val (.ref o), .val (.ref o)] [(.ref o)])) _
    refine st43 _ ?_
    show Steps p.tables e below (T43.setTop (mkF m 16 #[.val (.ref a), .val (.ref o), .val (.ref o)] [(.int ox)])) _
    refine XS.aloadN X43.here hx rfl (hb hby d3_16) rfl rfl ?_
    show Steps p.tables e below (T43.setTop (mkF m 17 #[.val (.ref a), .val (.ref o), .val (.ref o)] [(.ref a), (.int ox)])) _
    refine st44 _ ?_
    show Steps p.tables e below (T44.setTop (mkF m 20 #[.val (.ref a), .val (.ref o), .val (.ref o)] [(.int ax), (.int ox)])) _
    exact k_)
  by_cases hc20_46 : ox = ax
  · obtain ⟨T47, X47, e47, st47⟩ := getF X44 hx hZ hown (host := "") (Or.inl (hw _ (List.mem_of_getElem? (i := 11) rfl))) Via.refl e44 F_o_row (g := (mkF m 24 #[.val (.ref a), .val (.ref o), .val (.ref o)] [(.ref o)])) rfl rfl (hb hby d3_24)
    obtain ⟨T48, X48, e48, st48⟩ := getF X47 hx hZ hown (host := "") (Or.inl (hw _ (List.mem_of_getElem? (i := 11) rfl))) Via.refl e47 F_a_row (g := (mkF m 28 #[.val (.ref a), .val (.ref o), .val (.ref o)] [(.ref a), (.int oz)])) rfl rfl (hb hby d3_28)
    have pre49 : ∀ t_, Steps p.tables e below (T48.setTop (mkF m 31 #[.val (.ref a), .val (.ref o), .val (.ref o)] [(.int az), (.int oz)])) t_ → Steps p.tables e below (s₁.setTop (entryFrame m #[(.ref a), (.ref o)] 3)) t_ := fun t_ k_ => pre45 t_ (by
      show Steps p.tables e below (T44.setTop (mkF m 20 #[.val (.ref a), .val (.ref o), .val (.ref o)] [(.int ax), (.int ox)])) _
      refine XS.icmpNo X44.here hx rfl (hb hby d3_20) rfl (teq hc20_46).2 ?_
      show Steps p.tables e below (T44.setTop (mkF m 23 #[.val (.ref a), .val (.ref o), .val (.ref o)] [])) _
      refine XS.aloadN X44.here hx rfl (hb hby d3_23) rfl rfl ?_
      show Steps p.tables e below (T44.setTop (mkF m 24 #[.val (.ref a), .val (.ref o), .val (.ref o)] [(.ref o)])) _
      refine st47 _ ?_
      show Steps p.tables e below (T47.setTop (mkF m 27 #[.val (.ref a), .val (.ref o), .val (.ref o)] [(.int oz)])) _
      refine XS.aloadN X47.here hx rfl (hb hby d3_27) rfl rfl ?_
      show Steps p.tables e below (T47.setTop (mkF m 28 #[.val (.ref a), .val (.ref o), .val (.ref o)] [(.ref a), (.int oz)])) _
      refine st48 _ ?_
      show Steps p.tables e below (T48.setTop (mkF m 31 #[.val (.ref a), .val (.ref o), .val (.ref o)] [(.int az), (.int oz)])) _
      exact k_)
    by_cases hc31_50 : oz = az
    · have pre51 : ∀ t_, Steps p.tables e below (T48.setTop (mkF m 39 #[.val (.ref a), .val (.ref o), .val (.ref o)] [(.int (1 : Int32))])) t_ → Steps p.tables e below (s₁.setTop (entryFrame m #[(.ref a), (.ref o)] 3)) t_ := fun t_ k_ => pre49 t_ (by
        show Steps p.tables e below (T48.setTop (mkF m 31 #[.val (.ref a), .val (.ref o), .val (.ref o)] [(.int az), (.int oz)])) _
        refine XS.icmpNo X48.here hx rfl (hb hby d3_31) rfl (teq hc31_50).2 ?_
        show Steps p.tables e below (T48.setTop (mkF m 34 #[.val (.ref a), .val (.ref o), .val (.ref o)] [])) _
        refine XS.iconst X48.here hx rfl (hb hby d3_34) ?_
        show Steps p.tables e below (T48.setTop (mkF m 35 #[.val (.ref a), .val (.ref o), .val (.ref o)] [(.int (1 : Int32))])) _
        refine XS.goto X48.here hx rfl (pc0 := 35) (pc' := 39) rfl (hb hby d3_35) (by decide) (by decide) ?_
        show Steps p.tables e below (T48.setTop (mkF m 39 #[.val (.ref a), .val (.ref o), .val (.ref o)] [(.int (1 : Int32))])) _
        exact k_)
      obtain ⟨fs, hr, hrun, hended, hW, hsame⟩ := X48.leave (v := some (.int (1 : Int32))) (fun h => by rw [Bd.returns] at h; cases h)
      refine ⟨_, _, pre51 _ ?_, hrun, hended, _, _, rfl, ?_, ⟨_, rfl⟩, hW, hsame.mono (by decide) (by decide)⟩
      · show Steps p.tables e below (T48.setTop (mkF m 39 #[.val (.ref a), .val (.ref o), .val (.ref o)] [(.int (1 : Int32))])) _
        exact retN X48 hx (t := .boolean) Bd.returns (by simp) (hb hby d3_39) hr
      · show Q_eqC Z a o ax az ox oz h0 n0 _ T48.heap _
        rw [e48]
        exact ⟨by rw [own_eq, if_pos hc20_46, if_pos hc31_50], N0, rfl⟩
    · have pre52 : ∀ t_, Steps p.tables e below (T48.setTop (mkF m 39 #[.val (.ref a), .val (.ref o), .val (.ref o)] [(.int (0 : Int32))])) t_ → Steps p.tables e below (s₁.setTop (entryFrame m #[(.ref a), (.ref o)] 3)) t_ := fun t_ k_ => pre49 t_ (by
        show Steps p.tables e below (T48.setTop (mkF m 31 #[.val (.ref a), .val (.ref o), .val (.ref o)] [(.int az), (.int oz)])) _
        refine XS.icmpYes X48.here hx rfl (pc0 := 31) (pc' := 38) rfl (hb hby d3_31) rfl (feq hc31_50).2 (by decide) (by decide) ?_
        show Steps p.tables e below (T48.setTop (mkF m 38 #[.val (.ref a), .val (.ref o), .val (.ref o)] [])) _
        refine XS.iconst X48.here hx rfl (hb hby d3_38) ?_
        show Steps p.tables e below (T48.setTop (mkF m 39 #[.val (.ref a), .val (.ref o), .val (.ref o)] [(.int (0 : Int32))])) _
        exact k_)
      obtain ⟨fs, hr, hrun, hended, hW, hsame⟩ := X48.leave (v := some (.int (0 : Int32))) (fun h => by rw [Bd.returns] at h; cases h)
      refine ⟨_, _, pre52 _ ?_, hrun, hended, _, _, rfl, ?_, ⟨_, rfl⟩, hW, hsame.mono (by decide) (by decide)⟩
      · show Steps p.tables e below (T48.setTop (mkF m 39 #[.val (.ref a), .val (.ref o), .val (.ref o)] [(.int (0 : Int32))])) _
        exact retN X48 hx (t := .boolean) Bd.returns (by simp) (hb hby d3_39) hr
      · show Q_eqC Z a o ax az ox oz h0 n0 _ T48.heap _
        rw [e48]
        exact ⟨by rw [own_eq, if_pos hc20_46, if_neg hc31_50], N0, rfl⟩
  · have pre53 : ∀ t_, Steps p.tables e below (T44.setTop (mkF m 39 #[.val (.ref a), .val (.ref o), .val (.ref o)] [(.int (0 : Int32))])) t_ → Steps p.tables e below (s₁.setTop (entryFrame m #[(.ref a), (.ref o)] 3)) t_ := fun t_ k_ => pre45 t_ (by
      show Steps p.tables e below (T44.setTop (mkF m 20 #[.val (.ref a), .val (.ref o), .val (.ref o)] [(.int ax), (.int ox)])) _
      refine XS.icmpYes X44.here hx rfl (pc0 := 20) (pc' := 38) rfl (hb hby d3_20) rfl (feq hc20_46).2 (by decide) (by decide) ?_
      show Steps p.tables e below (T44.setTop (mkF m 38 #[.val (.ref a), .val (.ref o), .val (.ref o)] [])) _
      refine XS.iconst X44.here hx rfl (hb hby d3_38) ?_
      show Steps p.tables e below (T44.setTop (mkF m 39 #[.val (.ref a), .val (.ref o), .val (.ref o)] [(.int (0 : Int32))])) _
      exact k_)
    obtain ⟨fs, hr, hrun, hended, hW, hsame⟩ := X44.leave (v := some (.int (0 : Int32))) (fun h => by rw [Bd.returns] at h; cases h)
    refine ⟨_, _, pre53 _ ?_, hrun, hended, _, _, rfl, ?_, ⟨_, rfl⟩, hW, hsame.mono (by decide) (by decide)⟩
    · show Steps p.tables e below (T44.setTop (mkF m 39 #[.val (.ref a), .val (.ref o), .val (.ref o)] [(.int (0 : Int32))])) _
      exact retN X44 hx (t := .boolean) Bd.returns (by simp) (hb hby d3_39) hr
    · show Q_eqC Z a o ax az ox oz h0 n0 _ T44.heap _
      rw [e44]
      exact ⟨by rw [own_eq, if_neg hc20_46], N0, rfl⟩
theorem ef_eqN (m : MethodId) (a : Addr) : entryFrame m #[(.ref a), .null] 3 = mkF m 0 #[.val (.ref a), .val .null, .unset] [] := by first | (simp [entryFrame, mkF, argsToLocals, Value.category]; done) | rfl
def Q_eqN (Z : State) (a : Addr) (h0 : Heap) (n0 : Nat) (v : Option Value) (h : Heap) (L : List Loc) : Prop := v = some (.int (0 : Int32)) ∧ Fr n0 L ∧ h = h0
set_option maxRecDepth 65536 in
set_option maxHeartbeats 40000000 in
theorem rm_eqN (l : Launch) (Z : State) (a0 : Array Value) (hw : ∀ d ∈ tables_1, d.before a0 Z = true) (ws : List Jvm.Cond) (a : Addr) (h0 : Heap) (n0 : Nat) (Z0 : n0 ≤ h0.size) :
    MetFree l (⟨"com/example/fissure/fissure/games/breakable/Hex", "equals", "(Ljava/lang/Object;)Z"⟩ : MethodName) (head1 (Jvm.Cond.code (⟨"com/example/fissure/fissure/games/breakable/Hex", "equals", "(Ljava/lang/Object;)Z"⟩ : MethodName) prog_26_method_6_code 3 (some .boolean) :: ws) ({ frames := 0, cells := 0, slots := 0, locals := 0 } : Room)) (fun a_ U_ => a_ = #[(.ref a), .null] ∧ Z.Warmed39 U_.vm ∧ U_.heap = h0) (fun _ _ _ _ _ => True) (fun _ U_ o_ V_ => ∃ v_ L_, o_ = .returned v_ ∧ Q_eqN Z a h0 n0 v_ V_.heap L_ ∧ FrameEnd U_ o_ V_ L_ ({ frames := 0, cells := 0, slots := 0, locals := 0 } : Room).cells ({ frames := 0, cells := 0, slots := 0, locals := 0 } : Room).slots) := by
  refine MetFree.of_bodySF (plainFor_of_name pn_0) hisR ?_
  intro p e s m args below meth c s₁ Bd hml0 hP hK
  obtain ⟨rfl, hZ, hh⟩ := hP
  have hx := Bd.exec
  have hby := Bd.bytes
  have hml : c.maxLocals = 3 := hml0
  have hown : s.vm.findClass "com/example/fissure/fissure/games/breakable/Hex" = some m.cls := findClass_of_methodNamed Bd.named
  have hnm := (name_of_methodNamed Bd.named Bd.method).1
  have X0 : Stand p l e ({ frames := 0, cells := 0, slots := 0, locals := 0 } : Room) s m #[(.ref a), .null] below meth c s₁ [] 0 0 := Stand.of_body Bd
  have e0 : s₁.heap = h0 := by rw [← hh, Bd.state]; rfl
  have N0 := Fr.nil n0
  have pre0 : ∀ t_, Steps p.tables e below (s₁.setTop (mkF m 0 #[.val (.ref a), .val .null, .unset] [])) t_ → Steps p.tables e below (s₁.setTop (entryFrame m #[(.ref a), .null] 3)) t_ := fun t_ k_ => castTop (ef_eqN m a) k_
  have O0 := own_ext_refl h0
  have pre54 : ∀ t_, Steps p.tables e below (s₁.setTop (mkF m 39 #[.val (.ref a), .val .null, .unset] [(.int (0 : Int32))])) t_ → Steps p.tables e below (s₁.setTop (entryFrame m #[(.ref a), .null] 3)) t_ := fun t_ k_ => pre0 t_ (by
    show Steps p.tables e below (s₁.setTop (mkF m 0 #[.val (.ref a), .val .null, .unset] [])) _
    refine XS.aloadN X0.here hx rfl (hb hby d3_0) rfl rfl ?_
    show Steps p.tables e below (s₁.setTop (mkF m 1 #[.val (.ref a), .val .null, .unset] [.null])) _
    refine X0.instanceofNull hx (g := (mkF m 1 #[.val (.ref a), .val .null, .unset] [.null])) rfl rfl (hb hby d3_1) _ ?_
    show Steps p.tables e below (s₁.setTop (mkF m 4 #[.val (.ref a), .val .null, .unset] [(.int (0 : Int32))])) _
    refine XS.ifYes X0.here hx rfl (pc0 := 4) (pc' := 38) rfl (hb hby d3_4) rfl ((if0 _ _).trans (teq (rfl : (0 : Int32) = (0 : Int32))).1) (by decide) (by decide) ?_
    show Steps p.tables e below (s₁.setTop (mkF m 38 #[.val (.ref a), .val .null, .unset] [])) _
    refine XS.iconst X0.here hx rfl (hb hby d3_38) ?_
    show Steps p.tables e below (s₁.setTop (mkF m 39 #[.val (.ref a), .val .null, .unset] [(.int (0 : Int32))])) _
    exact k_)
  obtain ⟨fs, hr, hrun, hended, hW, hsame⟩ := X0.leave (v := some (.int (0 : Int32))) (fun h => by rw [Bd.returns] at h; cases h)
  refine ⟨_, _, pre54 _ ?_, hrun, hended, _, _, rfl, ?_, ⟨_, rfl⟩, hW, hsame.mono (by decide) (by decide)⟩
  · show Steps p.tables e below (s₁.setTop (mkF m 39 #[.val (.ref a), .val .null, .unset] [(.int (0 : Int32))])) _
    exact retN X0 hx (t := .boolean) Bd.returns (by simp) (hb hby d3_39) hr
  · show Q_eqN Z a h0 n0 _ s₁.heap _
    rw [e0]
    exact ⟨rfl, N0, rfl⟩
theorem own_no (Z : State) (a0 : Array Value) (hw : ∀ d ∈ tables_1, d.before a0 Z = true) : ∃ c t, Z.vm.findClass "java/lang/Integer" = some c ∧ Z.vm.findClass "com/example/fissure/fissure/games/breakable/Hex" = some t ∧ Z.vm.assignable c t = false :=
  own_ns_no (hw _ (List.mem_of_getElem? (i := 41) rfl)) (hw _ (List.mem_of_getElem? (i := 1) rfl)) (NS.step (hw _ (List.mem_of_getElem? (i := 41) rfl)) (NS.step (hw _ (List.mem_of_getElem? (i := 42) rfl)) (own_ns_root (hw _ (List.mem_of_getElem? (i := 43) rfl)) (hw _ (List.mem_of_getElem? (i := 1) rfl)) (by decide)) (by decide)) (by decide)) (by decide)
theorem ef_eqI (m : MethodId) (a : Addr) (o : Addr) : entryFrame m #[(.ref a), (.ref o)] 3 = mkF m 0 #[.val (.ref a), .val (.ref o), .unset] [] := by first | (simp [entryFrame, mkF, argsToLocals, Value.category]; done) | rfl
def Q_eqI (Z : State) (a : Addr) (o : Addr) (h0 : Heap) (n0 : Nat) (v : Option Value) (h : Heap) (L : List Loc) : Prop := v = some (.int (0 : Int32)) ∧ Fr n0 L ∧ h = h0
set_option maxRecDepth 65536 in
set_option maxHeartbeats 40000000 in
theorem rm_eqI (l : Launch) (Z : State) (a0 : Array Value) (hw : ∀ d ∈ tables_1, d.before a0 Z = true) (ws : List Jvm.Cond) (a : Addr) (o : Addr) (h0 : Heap) (n0 : Nat) (Z0 : n0 ≤ h0.size) (E_o : Exa Z h0 o "java/lang/Integer") :
    MetFree l (⟨"com/example/fissure/fissure/games/breakable/Hex", "equals", "(Ljava/lang/Object;)Z"⟩ : MethodName) (head1 (Jvm.Cond.code (⟨"com/example/fissure/fissure/games/breakable/Hex", "equals", "(Ljava/lang/Object;)Z"⟩ : MethodName) prog_26_method_6_code 3 (some .boolean) :: ws) ({ frames := 0, cells := 0, slots := 0, locals := 0 } : Room)) (fun a_ U_ => a_ = #[(.ref a), (.ref o)] ∧ Z.Warmed39 U_.vm ∧ U_.heap = h0) (fun _ _ _ _ _ => True) (fun _ U_ o_ V_ => ∃ v_ L_, o_ = .returned v_ ∧ Q_eqI Z a o h0 n0 v_ V_.heap L_ ∧ FrameEnd U_ o_ V_ L_ ({ frames := 0, cells := 0, slots := 0, locals := 0 } : Room).cells ({ frames := 0, cells := 0, slots := 0, locals := 0 } : Room).slots) := by
  refine MetFree.of_bodySF (plainFor_of_name pn_0) hisR ?_
  intro p e s m args below meth c s₁ Bd hml0 hP hK
  obtain ⟨rfl, hZ, hh⟩ := hP
  have hx := Bd.exec
  have hby := Bd.bytes
  have hml : c.maxLocals = 3 := hml0
  have hown : s.vm.findClass "com/example/fissure/fissure/games/breakable/Hex" = some m.cls := findClass_of_methodNamed Bd.named
  have hnm := (name_of_methodNamed Bd.named Bd.method).1
  have X0 : Stand p l e ({ frames := 0, cells := 0, slots := 0, locals := 0 } : Room) s m #[(.ref a), (.ref o)] below meth c s₁ [] 0 0 := Stand.of_body Bd
  have e0 : s₁.heap = h0 := by rw [← hh, Bd.state]; rfl
  have N0 := Fr.nil n0
  have pre0 : ∀ t_, Steps p.tables e below (s₁.setTop (mkF m 0 #[.val (.ref a), .val (.ref o), .unset] [])) t_ → Steps p.tables e below (s₁.setTop (entryFrame m #[(.ref a), (.ref o)] 3)) t_ := fun t_ k_ => castTop (ef_eqI m a o) k_
  have O0 := own_ext_refl h0
  obtain ⟨T55, X55, e55, st55⟩ := instNo X0 hx hZ hown (hw _ (List.mem_of_getElem? (i := 18) rfl)) e0 E_o (own_no Z a0 hw) (g := (mkF m 1 #[.val (.ref a), .val (.ref o), .unset] [(.ref o)])) rfl rfl (hb hby d3_1)
  have pre56 : ∀ t_, Steps p.tables e below (T55.setTop (mkF m 39 #[.val (.ref a), .val (.ref o), .unset] [(.int (0 : Int32))])) t_ → Steps p.tables e below (s₁.setTop (entryFrame m #[(.ref a), (.ref o)] 3)) t_ := fun t_ k_ => pre0 t_ (by
    show Steps p.tables e below (s₁.setTop (mkF m 0 #[.val (.ref a), .val (.ref o), .unset] [])) _
    refine XS.aloadN X0.here hx rfl (hb hby d3_0) rfl rfl ?_
    show Steps p.tables e below (s₁.setTop (mkF m 1 #[.val (.ref a), .val (.ref o), .unset] [(.ref o)])) _
    refine st55 _ ?_
    show Steps p.tables e below (T55.setTop (mkF m 4 #[.val (.ref a), .val (.ref o), .unset] [(.int (0 : Int32))])) _
    refine XS.ifYes X55.here hx rfl (pc0 := 4) (pc' := 38) rfl (hb hby d3_4) rfl ((if0 _ _).trans (teq (rfl : (0 : Int32) = (0 : Int32))).1) (by decide) (by decide) ?_
    show Steps p.tables e below (T55.setTop (mkF m 38 #[.val (.ref a), .val (.ref o), .unset] [])) _
    refine XS.iconst X55.here hx rfl (hb hby d3_38) ?_
    show Steps p.tables e below (T55.setTop (mkF m 39 #[.val (.ref a), .val (.ref o), .unset] [(.int (0 : Int32))])) _
    exact k_)
  obtain ⟨fs, hr, hrun, hended, hW, hsame⟩ := X55.leave (v := some (.int (0 : Int32))) (fun h => by rw [Bd.returns] at h; cases h)
  refine ⟨_, _, pre56 _ ?_, hrun, hended, _, _, rfl, ?_, ⟨_, rfl⟩, hW, hsame.mono (by decide) (by decide)⟩
  · show Steps p.tables e below (T55.setTop (mkF m 39 #[.val (.ref a), .val (.ref o), .unset] [(.int (0 : Int32))])) _
    exact retN X55 hx (t := .boolean) Bd.returns (by simp) (hb hby d3_39) hr
  · show Q_eqI Z a o h0 n0 _ T55.heap _
    rw [e55]
    exact ⟨rfl, N0, rfl⟩
theorem own_self (x z : Int32) : own_eq x z x z = 1 := by rw [own_eq, if_pos rfl, if_pos rfl]
theorem own_yes {ax az ox oz : Int32} (h1 : ax = ox) (h2 : az = oz) : own_eq ax az ox oz = 1 := by rw [own_eq, if_pos h1.symm, if_pos h2.symm]
theorem own_n1 {ax az ox oz : Int32} (h1 : ¬ ax = ox) : own_eq ax az ox oz = 0 := by rw [own_eq, if_neg (fun h => h1 h.symm)]
theorem own_n2 {ax az ox oz : Int32} (h1 : ax = ox) (h2 : ¬ az = oz) : own_eq ax az ox oz = 0 := by rw [own_eq, if_pos h1.symm, if_neg (fun h => h2 h.symm)]
theorem ef_0 (m : MethodId) (k0 : Int32) (k1 : Int32) (k2 : Int32) (k3 : Int32) (k4 : Int32) : entryFrame m #[(.int k0), (.int k1), (.int k2), (.int k3), (.int k4)] maxLocals = mkF m 0 #[.val (.int k0), .val (.int k1), .val (.int k2), .val (.int k3), .val (.int k4), .unset, .unset, .unset, .unset, .unset, .unset, .unset] [] := by first | (simp [entryFrame, mkF, argsToLocals, Value.category, maxLocals]; done) | rfl
def Q_0 (Z : State) (k0 : Int32) (k1 : Int32) (k2 : Int32) (k3 : Int32) (k4 : Int32) (w_cache : Addr) (cl_cache : Cell) (bx : Int32 → Value) (h0 : Heap) (n0 : Nat) (v : Option Value) (h : Heap) (L : List Loc) : Prop := v = some (.int (1 : Int32)) ∧ Fr n0 L
theorem pn_3 : plainName "com/example/fissure/fissure/games/breakable/HexEqualsPinLaw" = true := by first | (simp [plainName, overriddenIn]; done) | decide +kernel
theorem pd_2 : parseMethodDescriptor "(II)V" = some ⟨[.int, .int], none⟩ := by decide +kernel
theorem pd_3 : parseMethodDescriptor "(Ljava/lang/Object;)Z" = some ⟨[(.object "java/lang/Object")], some .boolean⟩ := by decide +kernel
theorem pd_4 : parseMethodDescriptor "(I)Ljava/lang/Integer;" = some ⟨[.int], some (.object "java/lang/Integer")⟩ := by decide +kernel
set_option maxRecDepth 65536 in
set_option maxHeartbeats 40000000 in
theorem rm_0 (l : Launch) (Z : State) (a0 : Array Value) (hw : ∀ d ∈ tables_1, d.before a0 Z = true) (ws : List Jvm.Cond) (k0 : Int32) (k1 : Int32) (k2 : Int32) (k3 : Int32) (k4 : Int32) (w_cache : Addr) (cl_cache : Cell) (bx : Int32 → Value) (h0 : Heap) (n0 : Nat) (Z0 : n0 ≤ h0.size) (S_high : Sta Z h0 "java/lang/Integer$IntegerCache" "high" "I" (.int (127 : Int32))) (S_cache : Sta Z h0 "java/lang/Integer$IntegerCache" "cache" "[Ljava/lang/Integer;" (.ref w_cache)) (Bx : Bxs Z w_cache cl_cache "java/lang/Integer" "I" (256 : Int32) bx) (Oz : Ext Z.heap h0) :
    MetFree l x (head1 (Jvm.Cond.code x code maxLocals ret :: ws) room_1) (fun a_ U_ => a_ = #[(.int k0), (.int k1), (.int k2), (.int k3), (.int k4)] ∧ Z.Warmed39 U_.vm ∧ U_.heap = h0) (fun _ _ _ _ _ => True) (fun _ U_ o_ V_ => ∃ v_ L_, o_ = .returned v_ ∧ Q_0 Z k0 k1 k2 k3 k4 w_cache cl_cache bx h0 n0 v_ V_.heap L_ ∧ FrameEnd U_ o_ V_ L_ room_1.cells room_1.slots) := by
  refine MetFree.of_bodySF (plainFor_of_name pn_3) hisR ?_
  intro p e s m args below meth c s₁ Bd hml0 hP hK
  obtain ⟨rfl, hZ, hh⟩ := hP
  have hx := Bd.exec
  have hby := Bd.bytes
  have hml : c.maxLocals = 12 := hml0
  have hown : s.vm.findClass "com/example/fissure/fissure/games/breakable/HexEqualsPinLaw" = some m.cls := findClass_of_methodNamed Bd.named
  have hnm := (name_of_methodNamed Bd.named Bd.method).1
  have X0 : Stand p l e room_1 s m #[(.int k0), (.int k1), (.int k2), (.int k3), (.int k4)] below meth c s₁ [] 0 0 := Stand.of_body Bd
  have e0 : s₁.heap = h0 := by rw [← hh, Bd.state]; rfl
  have N0 := Fr.nil n0
  have pre0 : ∀ t_, Steps p.tables e below (s₁.setTop (mkF m 0 #[.val (.int k0), .val (.int k1), .val (.int k2), .val (.int k3), .val (.int k4), .unset, .unset, .unset, .unset, .unset, .unset, .unset] [])) t_ → Steps p.tables e below (s₁.setTop (entryFrame m #[(.int k0), (.int k1), (.int k2), (.int k3), (.int k4)] maxLocals)) t_ := fun t_ k_ => castTop (ef_0 m k0 k1 k2 k3 k4) k_
  have O0 := own_ext_refl h0
  obtain ⟨T57, h57, X57, e57, E57, A57, D57, -, st57⟩ := newO X0 hx hZ hown (hw _ (List.mem_of_getElem? (i := 0) rfl)) (hw _ (List.mem_of_getElem? (i := 1) rfl)) (hw _ (List.mem_of_getElem? (i := 2) rfl)) e0 (g := (mkF m 0 #[.val (.int k0), .val (.int k1), .val (.int k2), .val (.int k3), .val (.int k4), .unset, .unset, .unset, .unset, .unset, .unset, .unset] [])) rfl (hb hby at_0) (by decide) (by decide)
  obtain ⟨b57, g57⟩ : ∃ z, z = h0.size := ⟨_, rfl⟩
  rw [← g57] at A57 D57 st57
  have gg_b57 : n0 ≤ b57 := Nat.le_trans Z0 (Nat.le_of_eq g57.symm)
  have sz_b57 : h0.size ≤ b57 := Nat.le_trans O0.1 (Nat.le_of_eq g57.symm)
  have O58 := own_ext_trans O0 E57
  have Zs58 := Nat.le_trans Z0 (E57).1
  have c59 : Sta Z h57 "java/lang/Integer$IntegerCache" "high" "I" (.int (127 : Int32)) := S_high.ext E57
  have c60 : Sta Z h57 "java/lang/Integer$IntegerCache" "cache" "[Ljava/lang/Integer;" (.ref w_cache) := S_cache.ext E57
  have F57_column : Fld Z h57 b57 "com/example/fissure/fissure/games/breakable/Hex" "column" "I" (.int (0 : Int32)) := D57 (Or.inr (hw _ (List.mem_of_getElem? (i := 10) rfl))) (ty := .int) (by decide)
  have F57_row : Fld Z h57 b57 "com/example/fissure/fissure/games/breakable/Hex" "row" "I" (.int (0 : Int32)) := D57 (Or.inr (hw _ (List.mem_of_getElem? (i := 12) rfl))) (ty := .int) (by decide)
  obtain ⟨v61, _, ⟨T61, L61, k61, n61⟩, -, X61, ⟨Lc61, hQ61, l61, y61, z61⟩, st61⟩ := X57.specialBack hx (y := (⟨"com/example/fissure/fissure/games/breakable/Hex", "<init>", "(II)V"⟩ : MethodName)) rfl hown (mvT hZ (hw _ (List.mem_of_getElem? (i := 3) rfl))) (mvT hZ (hw _ (List.mem_of_getElem? (i := 4) rfl))) (mvT hZ (hw _ (List.mem_of_getElem? (i := 5) rfl))) (by decide) (backOf (W := 1) (rm_init l Z a0 hw [] b57 k0 k1 (.int (0 : Int32)) (.int (0 : Int32)) h57 n0 Zs58 A57 gg_b57 F57_column F57_row) hZ (hw _ (List.mem_of_getElem? (i := 5) rfl)) (hw _ (List.mem_of_getElem? (i := 2) rfl)) (by decide) (by decide)) (g := (mkF m 6 #[.val (.int k0), .val (.int k1), .val (.int k2), .val (.int k3), .val (.int k4), .unset, .unset, .unset, .unset, .unset, .unset, .unset] [(.int k1), (.int k0), (.ref b57), (.ref b57)])) rfl (by rw [hml]; rfl) (Steps.refl _) (a := b57) (argsL := [(.int k0), (.int k1)]) (rest := [(.ref b57)]) (lenOf pd_2 rfl) rfl (by show 2 * 0 + _ ≤ _; exact Nat.le_of_eq rfl) (hb hby at_6) (fun _ _ => ⟨rfl, e57, (by decide : 1 + 0 ≤ _), (by decide : 2 + 0 ≤ _)⟩)
  dsimp only [Pt.U, Pt.locs, Pt.cells, Pt.slots] at X61 l61 y61 z61 st61 hQ61
  subst l61 y61 z61
  obtain ⟨hv61, N61q, M61⟩ := hQ61
  have N61 := Fr.app N0 N61q
  subst hv61
  obtain ⟨K61k, E61x, F61_column, F61_row⟩ := M61
  have O62 := own_ext_keep O58 K61k (allS sz_b57 all0)
  have Zs62 := Nat.le_trans Zs58 K61k.1
  have c63 : Exa Z T61.heap b57 "com/example/fissure/fissure/games/breakable/Hex" := A57.keep K61k
  have pre64 : ∀ t_, Steps p.tables e below (T61.setTop (mkF m 15 #[.val (.int k0), .val (.int k1), .val (.int k2), .val (.int k3), .val (.int k4), .val (.ref b57), .unset, .unset, .unset, .unset, .unset, .unset] [(.int (k4 &&& (1 : Int32)))])) t_ → Steps p.tables e below (s₁.setTop (entryFrame m #[(.int k0), (.int k1), (.int k2), (.int k3), (.int k4)] maxLocals)) t_ := fun t_ k_ => pre0 t_ (by
    show Steps p.tables e below (s₁.setTop (mkF m 0 #[.val (.int k0), .val (.int k1), .val (.int k2), .val (.int k3), .val (.int k4), .unset, .unset, .unset, .unset, .unset, .unset, .unset] [])) _
    refine st57 _ ?_
    show Steps p.tables e below (T57.setTop (mkF m 3 #[.val (.int k0), .val (.int k1), .val (.int k2), .val (.int k3), .val (.int k4), .unset, .unset, .unset, .unset, .unset, .unset, .unset] [(.ref b57)])) _
    refine XS.dup X57.here hx rfl (hb hby at_3) rfl rfl ?_
    show Steps p.tables e below (T57.setTop (mkF m 4 #[.val (.int k0), .val (.int k1), .val (.int k2), .val (.int k3), .val (.int k4), .unset, .unset, .unset, .unset, .unset, .unset, .unset] [(.ref b57), (.ref b57)])) _
    refine XS.iloadN X57.here hx rfl (hb hby at_4) rfl ?_
    show Steps p.tables e below (T57.setTop (mkF m 5 #[.val (.int k0), .val (.int k1), .val (.int k2), .val (.int k3), .val (.int k4), .unset, .unset, .unset, .unset, .unset, .unset, .unset] [(.int k0), (.ref b57), (.ref b57)])) _
    refine XS.iloadN X57.here hx rfl (hb hby at_5) rfl ?_
    show Steps p.tables e below (T57.setTop (mkF m 6 #[.val (.int k0), .val (.int k1), .val (.int k2), .val (.int k3), .val (.int k4), .unset, .unset, .unset, .unset, .unset, .unset, .unset] [(.int k1), (.int k0), (.ref b57), (.ref b57)])) _
    refine st61.trans ?_
    show Steps p.tables e below (T61.setTop (mkF m 9 #[.val (.int k0), .val (.int k1), .val (.int k2), .val (.int k3), .val (.int k4), .unset, .unset, .unset, .unset, .unset, .unset, .unset] [(.ref b57)])) _
    refine XS.astore X61.here hx rfl (hb hby at_9) rfl rfl (l' := #[.val (.int k0), .val (.int k1), .val (.int k2), .val (.int k3), .val (.int k4), .val (.ref b57), .unset, .unset, .unset, .unset, .unset, .unset]) rfl ?_
    show Steps p.tables e below (T61.setTop (mkF m 11 #[.val (.int k0), .val (.int k1), .val (.int k2), .val (.int k3), .val (.int k4), .val (.ref b57), .unset, .unset, .unset, .unset, .unset, .unset] [])) _
    refine XS.iload X61.here hx rfl (hb hby at_11) rfl ?_
    show Steps p.tables e below (T61.setTop (mkF m 13 #[.val (.int k0), .val (.int k1), .val (.int k2), .val (.int k3), .val (.int k4), .val (.ref b57), .unset, .unset, .unset, .unset, .unset, .unset] [(.int k4)])) _
    refine XS.iconst X61.here hx rfl (hb hby at_13) ?_
    show Steps p.tables e below (T61.setTop (mkF m 14 #[.val (.int k0), .val (.int k1), .val (.int k2), .val (.int k3), .val (.int k4), .val (.ref b57), .unset, .unset, .unset, .unset, .unset, .unset] [(.int (1 : Int32)), (.int k4)])) _
    refine XS.iand X61.here hx rfl (hb hby at_14) rfl ?_
    show Steps p.tables e below (T61.setTop (mkF m 15 #[.val (.int k0), .val (.int k1), .val (.int k2), .val (.int k3), .val (.int k4), .val (.ref b57), .unset, .unset, .unset, .unset, .unset, .unset] [(.int (k4 &&& (1 : Int32)))])) _
    exact k_)
  by_cases hc15_65 : (k4 &&& (1 : Int32)) = (0 : Int32)
  · have pre66 : ∀ t_, Steps p.tables e below (T61.setTop (mkF m 29 #[.val (.int k0), .val (.int k1), .val (.int k2), .val (.int k3), .val (.int k4), .val (.ref b57), .val (.int k2), .unset, .unset, .unset, .unset, .unset] [(.int (k4 &&& (2 : Int32)))])) t_ → Steps p.tables e below (s₁.setTop (entryFrame m #[(.int k0), (.int k1), (.int k2), (.int k3), (.int k4)] maxLocals)) t_ := fun t_ k_ => pre64 t_ (by
      show Steps p.tables e below (T61.setTop (mkF m 15 #[.val (.int k0), .val (.int k1), .val (.int k2), .val (.int k3), .val (.int k4), .val (.ref b57), .unset, .unset, .unset, .unset, .unset, .unset] [(.int (k4 &&& (1 : Int32)))])) _
      refine XS.ifYes X61.here hx rfl (pc0 := 15) (pc' := 22) rfl (hb hby at_15) rfl ((if0 _ _).trans (teq hc15_65).1) (by decide) (by decide) ?_
      show Steps p.tables e below (T61.setTop (mkF m 22 #[.val (.int k0), .val (.int k1), .val (.int k2), .val (.int k3), .val (.int k4), .val (.ref b57), .unset, .unset, .unset, .unset, .unset, .unset] [])) _
      refine XS.iloadN X61.here hx rfl (hb hby at_22) rfl ?_
      show Steps p.tables e below (T61.setTop (mkF m 23 #[.val (.int k0), .val (.int k1), .val (.int k2), .val (.int k3), .val (.int k4), .val (.ref b57), .unset, .unset, .unset, .unset, .unset, .unset] [(.int k2)])) _
      refine XS.istore X61.here hx rfl (hb hby at_23) rfl (l' := #[.val (.int k0), .val (.int k1), .val (.int k2), .val (.int k3), .val (.int k4), .val (.ref b57), .val (.int k2), .unset, .unset, .unset, .unset, .unset]) rfl ?_
      show Steps p.tables e below (T61.setTop (mkF m 25 #[.val (.int k0), .val (.int k1), .val (.int k2), .val (.int k3), .val (.int k4), .val (.ref b57), .val (.int k2), .unset, .unset, .unset, .unset, .unset] [])) _
      refine XS.iload X61.here hx rfl (hb hby at_25) rfl ?_
      show Steps p.tables e below (T61.setTop (mkF m 27 #[.val (.int k0), .val (.int k1), .val (.int k2), .val (.int k3), .val (.int k4), .val (.ref b57), .val (.int k2), .unset, .unset, .unset, .unset, .unset] [(.int k4)])) _
      refine XS.iconst X61.here hx rfl (hb hby at_27) ?_
      show Steps p.tables e below (T61.setTop (mkF m 28 #[.val (.int k0), .val (.int k1), .val (.int k2), .val (.int k3), .val (.int k4), .val (.ref b57), .val (.int k2), .unset, .unset, .unset, .unset, .unset] [(.int (2 : Int32)), (.int k4)])) _
      refine XS.iand X61.here hx rfl (hb hby at_28) rfl ?_
      show Steps p.tables e below (T61.setTop (mkF m 29 #[.val (.int k0), .val (.int k1), .val (.int k2), .val (.int k3), .val (.int k4), .val (.ref b57), .val (.int k2), .unset, .unset, .unset, .unset, .unset] [(.int (k4 &&& (2 : Int32)))])) _
      exact k_)
    by_cases hc29_67 : (k4 &&& (2 : Int32)) = (0 : Int32)
    · obtain ⟨T68, h68, X68, e68, E68, A68, D68, -, st68⟩ := newO X61 hx hZ hown (hw _ (List.mem_of_getElem? (i := 0) rfl)) (hw _ (List.mem_of_getElem? (i := 1) rfl)) (hw _ (List.mem_of_getElem? (i := 2) rfl)) rfl (g := (mkF m 39 #[.val (.int k0), .val (.int k1), .val (.int k2), .val (.int k3), .val (.int k4), .val (.ref b57), .val (.int k2), .val (.int k3), .unset, .unset, .unset, .unset] [])) rfl (hb hby at_39) (by decide) (by decide)
      obtain ⟨b68, g68⟩ : ∃ z, z = T61.heap.size := ⟨_, rfl⟩
      rw [← g68] at A68 D68 st68
      have ne_b57_b68 : b57 ≠ b68 := Nat.ne_of_lt (Nat.lt_of_lt_of_le E61x.lt (Nat.le_of_eq g68.symm))
      have gg_b68 : n0 ≤ b68 := Nat.le_trans Zs62 (Nat.le_of_eq g68.symm)
      have sz_b68 : h0.size ≤ b68 := Nat.le_trans O62.1 (Nat.le_of_eq g68.symm)
      have O69 := own_ext_trans O62 E68
      have Zs69 := Nat.le_trans Zs62 (E68).1
      have c70 : Exa Z h68 b57 "com/example/fissure/fissure/games/breakable/Hex" := E61x.ext E68
      have c71 : Fld Z h68 b57 "com/example/fissure/fissure/games/breakable/Hex" "column" "I" (.int k0) := F61_column.ext E68
      have c72 : Fld Z h68 b57 "com/example/fissure/fissure/games/breakable/Hex" "row" "I" (.int k1) := F61_row.ext E68
      have F68_column : Fld Z h68 b68 "com/example/fissure/fissure/games/breakable/Hex" "column" "I" (.int (0 : Int32)) := D68 (Or.inr (hw _ (List.mem_of_getElem? (i := 10) rfl))) (ty := .int) (by decide)
      have F68_row : Fld Z h68 b68 "com/example/fissure/fissure/games/breakable/Hex" "row" "I" (.int (0 : Int32)) := D68 (Or.inr (hw _ (List.mem_of_getElem? (i := 12) rfl))) (ty := .int) (by decide)
      obtain ⟨v73, _, ⟨T73, L73, k73, n73⟩, -, X73, ⟨Lc73, hQ73, l73, y73, z73⟩, st73⟩ := X68.specialBack hx (y := (⟨"com/example/fissure/fissure/games/breakable/Hex", "<init>", "(II)V"⟩ : MethodName)) rfl hown (mvT hZ (hw _ (List.mem_of_getElem? (i := 3) rfl))) (mvT hZ (hw _ (List.mem_of_getElem? (i := 4) rfl))) (mvT hZ (hw _ (List.mem_of_getElem? (i := 5) rfl))) (by decide) (backOf (W := 1) (rm_init l Z a0 hw [] b68 k2 k3 (.int (0 : Int32)) (.int (0 : Int32)) h68 n0 Zs69 A68 gg_b68 F68_column F68_row) hZ (hw _ (List.mem_of_getElem? (i := 5) rfl)) (hw _ (List.mem_of_getElem? (i := 2) rfl)) (by decide) (by decide)) (g := (mkF m 47 #[.val (.int k0), .val (.int k1), .val (.int k2), .val (.int k3), .val (.int k4), .val (.ref b57), .val (.int k2), .val (.int k3), .unset, .unset, .unset, .unset] [(.int k3), (.int k2), (.ref b68), (.ref b68)])) rfl (by rw [hml]; rfl) (Steps.refl _) (a := b68) (argsL := [(.int k2), (.int k3)]) (rest := [(.ref b68)]) (lenOf pd_2 rfl) rfl (by show 2 * 0 + _ ≤ _; exact Nat.le_of_eq rfl) (hb hby at_47) (fun _ _ => ⟨rfl, e68, (by decide : 2 + 0 ≤ _), (by decide : 4 + 0 ≤ _)⟩)
      dsimp only [Pt.U, Pt.locs, Pt.cells, Pt.slots] at X73 l73 y73 z73 st73 hQ73
      subst l73 y73 z73
      obtain ⟨hv73, N73q, M73⟩ := hQ73
      have N73 := Fr.app N61 N73q
      subst hv73
      obtain ⟨K73k, E73x, F73_column, F73_row⟩ := M73
      have O74 := own_ext_keep O69 K73k (allS sz_b68 all0)
      have Zs74 := Nat.le_trans Zs69 K73k.1
      have c75 : Exa Z T73.heap b57 "com/example/fissure/fissure/games/breakable/Hex" := c70.keep K73k
      have c76 : Fld Z T73.heap b57 "com/example/fissure/fissure/games/breakable/Hex" "column" "I" (.int k0) := c71.keep K73k (ninS ne_b57_b68 nin0)
      have c77 : Fld Z T73.heap b57 "com/example/fissure/fissure/games/breakable/Hex" "row" "I" (.int k1) := c72.keep K73k (ninS ne_b57_b68 nin0)
      have c78 : Exa Z T73.heap b68 "com/example/fissure/fissure/games/breakable/Hex" := A68.keep K73k
      have pre79 : ∀ t_, Steps p.tables e below (T73.setTop (mkF m 62 #[.val (.int k0), .val (.int k1), .val (.int k2), .val (.int k3), .val (.int k4), .val (.ref b57), .val (.int k2), .val (.int k3), .val (.ref b68), .val (.int (((k4.toUInt32 >>> ((2 : Int32) &&& 31).toUInt32).toInt32) &&& (3 : Int32))), .unset, .unset] [(.int (((k4.toUInt32 >>> ((2 : Int32) &&& 31).toUInt32).toInt32) &&& (3 : Int32)))])) t_ → Steps p.tables e below (s₁.setTop (entryFrame m #[(.int k0), (.int k1), (.int k2), (.int k3), (.int k4)] maxLocals)) t_ := fun t_ k_ => pre66 t_ (by
        show Steps p.tables e below (T61.setTop (mkF m 29 #[.val (.int k0), .val (.int k1), .val (.int k2), .val (.int k3), .val (.int k4), .val (.ref b57), .val (.int k2), .unset, .unset, .unset, .unset, .unset] [(.int (k4 &&& (2 : Int32)))])) _
        refine XS.ifYes X61.here hx rfl (pc0 := 29) (pc' := 36) rfl (hb hby at_29) rfl ((if0 _ _).trans (teq hc29_67).1) (by decide) (by decide) ?_
        show Steps p.tables e below (T61.setTop (mkF m 36 #[.val (.int k0), .val (.int k1), .val (.int k2), .val (.int k3), .val (.int k4), .val (.ref b57), .val (.int k2), .unset, .unset, .unset, .unset, .unset] [])) _
        refine XS.iloadN X61.here hx rfl (hb hby at_36) rfl ?_
        show Steps p.tables e below (T61.setTop (mkF m 37 #[.val (.int k0), .val (.int k1), .val (.int k2), .val (.int k3), .val (.int k4), .val (.ref b57), .val (.int k2), .unset, .unset, .unset, .unset, .unset] [(.int k3)])) _
        refine XS.istore X61.here hx rfl (hb hby at_37) rfl (l' := #[.val (.int k0), .val (.int k1), .val (.int k2), .val (.int k3), .val (.int k4), .val (.ref b57), .val (.int k2), .val (.int k3), .unset, .unset, .unset, .unset]) rfl ?_
        show Steps p.tables e below (T61.setTop (mkF m 39 #[.val (.int k0), .val (.int k1), .val (.int k2), .val (.int k3), .val (.int k4), .val (.ref b57), .val (.int k2), .val (.int k3), .unset, .unset, .unset, .unset] [])) _
        refine st68 _ ?_
        show Steps p.tables e below (T68.setTop (mkF m 42 #[.val (.int k0), .val (.int k1), .val (.int k2), .val (.int k3), .val (.int k4), .val (.ref b57), .val (.int k2), .val (.int k3), .unset, .unset, .unset, .unset] [(.ref b68)])) _
        refine XS.dup X68.here hx rfl (hb hby at_42) rfl rfl ?_
        show Steps p.tables e below (T68.setTop (mkF m 43 #[.val (.int k0), .val (.int k1), .val (.int k2), .val (.int k3), .val (.int k4), .val (.ref b57), .val (.int k2), .val (.int k3), .unset, .unset, .unset, .unset] [(.ref b68), (.ref b68)])) _
        refine XS.iload X68.here hx rfl (hb hby at_43) rfl ?_
        show Steps p.tables e below (T68.setTop (mkF m 45 #[.val (.int k0), .val (.int k1), .val (.int k2), .val (.int k3), .val (.int k4), .val (.ref b57), .val (.int k2), .val (.int k3), .unset, .unset, .unset, .unset] [(.int k2), (.ref b68), (.ref b68)])) _
        refine XS.iload X68.here hx rfl (hb hby at_45) rfl ?_
        show Steps p.tables e below (T68.setTop (mkF m 47 #[.val (.int k0), .val (.int k1), .val (.int k2), .val (.int k3), .val (.int k4), .val (.ref b57), .val (.int k2), .val (.int k3), .unset, .unset, .unset, .unset] [(.int k3), (.int k2), (.ref b68), (.ref b68)])) _
        refine st73.trans ?_
        show Steps p.tables e below (T73.setTop (mkF m 50 #[.val (.int k0), .val (.int k1), .val (.int k2), .val (.int k3), .val (.int k4), .val (.ref b57), .val (.int k2), .val (.int k3), .unset, .unset, .unset, .unset] [(.ref b68)])) _
        refine XS.astore X73.here hx rfl (hb hby at_50) rfl rfl (l' := #[.val (.int k0), .val (.int k1), .val (.int k2), .val (.int k3), .val (.int k4), .val (.ref b57), .val (.int k2), .val (.int k3), .val (.ref b68), .unset, .unset, .unset]) rfl ?_
        show Steps p.tables e below (T73.setTop (mkF m 52 #[.val (.int k0), .val (.int k1), .val (.int k2), .val (.int k3), .val (.int k4), .val (.ref b57), .val (.int k2), .val (.int k3), .val (.ref b68), .unset, .unset, .unset] [])) _
        refine XS.iload X73.here hx rfl (hb hby at_52) rfl ?_
        show Steps p.tables e below (T73.setTop (mkF m 54 #[.val (.int k0), .val (.int k1), .val (.int k2), .val (.int k3), .val (.int k4), .val (.ref b57), .val (.int k2), .val (.int k3), .val (.ref b68), .unset, .unset, .unset] [(.int k4)])) _
        refine XS.iconst X73.here hx rfl (hb hby at_54) ?_
        show Steps p.tables e below (T73.setTop (mkF m 55 #[.val (.int k0), .val (.int k1), .val (.int k2), .val (.int k3), .val (.int k4), .val (.ref b57), .val (.int k2), .val (.int k3), .val (.ref b68), .unset, .unset, .unset] [(.int (2 : Int32)), (.int k4)])) _
        refine XS.iushr X73.here hx rfl (hb hby at_55) rfl ?_
        show Steps p.tables e below (T73.setTop (mkF m 56 #[.val (.int k0), .val (.int k1), .val (.int k2), .val (.int k3), .val (.int k4), .val (.ref b57), .val (.int k2), .val (.int k3), .val (.ref b68), .unset, .unset, .unset] [(.int ((k4.toUInt32 >>> ((2 : Int32) &&& 31).toUInt32).toInt32))])) _
        refine XS.iconst X73.here hx rfl (hb hby at_56) ?_
        show Steps p.tables e below (T73.setTop (mkF m 57 #[.val (.int k0), .val (.int k1), .val (.int k2), .val (.int k3), .val (.int k4), .val (.ref b57), .val (.int k2), .val (.int k3), .val (.ref b68), .unset, .unset, .unset] [(.int (3 : Int32)), (.int ((k4.toUInt32 >>> ((2 : Int32) &&& 31).toUInt32).toInt32))])) _
        refine XS.iand X73.here hx rfl (hb hby at_57) rfl ?_
        show Steps p.tables e below (T73.setTop (mkF m 58 #[.val (.int k0), .val (.int k1), .val (.int k2), .val (.int k3), .val (.int k4), .val (.ref b57), .val (.int k2), .val (.int k3), .val (.ref b68), .unset, .unset, .unset] [(.int (((k4.toUInt32 >>> ((2 : Int32) &&& 31).toUInt32).toInt32) &&& (3 : Int32)))])) _
        refine XS.istore X73.here hx rfl (hb hby at_58) rfl (l' := #[.val (.int k0), .val (.int k1), .val (.int k2), .val (.int k3), .val (.int k4), .val (.ref b57), .val (.int k2), .val (.int k3), .val (.ref b68), .val (.int (((k4.toUInt32 >>> ((2 : Int32) &&& 31).toUInt32).toInt32) &&& (3 : Int32))), .unset, .unset]) rfl ?_
        show Steps p.tables e below (T73.setTop (mkF m 60 #[.val (.int k0), .val (.int k1), .val (.int k2), .val (.int k3), .val (.int k4), .val (.ref b57), .val (.int k2), .val (.int k3), .val (.ref b68), .val (.int (((k4.toUInt32 >>> ((2 : Int32) &&& 31).toUInt32).toInt32) &&& (3 : Int32))), .unset, .unset] [])) _
        refine XS.iload X73.here hx rfl (hb hby at_60) rfl ?_
        show Steps p.tables e below (T73.setTop (mkF m 62 #[.val (.int k0), .val (.int k1), .val (.int k2), .val (.int k3), .val (.int k4), .val (.ref b57), .val (.int k2), .val (.int k3), .val (.ref b68), .val (.int (((k4.toUInt32 >>> ((2 : Int32) &&& 31).toUInt32).toInt32) &&& (3 : Int32))), .unset, .unset] [(.int (((k4.toUInt32 >>> ((2 : Int32) &&& 31).toUInt32).toInt32) &&& (3 : Int32)))])) _
        exact k_)
      by_cases hc62_80 : (((k4.toUInt32 >>> ((2 : Int32) &&& 31).toUInt32).toInt32) &&& (3 : Int32)) = (0 : Int32)
      · have pre81 : ∀ t_, Steps p.tables e below (T73.setTop (mkF m 72 #[.val (.int k0), .val (.int k1), .val (.int k2), .val (.int k3), .val (.int k4), .val (.ref b57), .val (.int k2), .val (.int k3), .val (.ref b68), .val (.int (((k4.toUInt32 >>> ((2 : Int32) &&& 31).toUInt32).toInt32) &&& (3 : Int32))), .val (.ref b68), .unset] [(.int k2), (.int k0)])) t_ → Steps p.tables e below (s₁.setTop (entryFrame m #[(.int k0), (.int k1), (.int k2), (.int k3), (.int k4)] maxLocals)) t_ := fun t_ k_ => pre79 t_ (by
          show Steps p.tables e below (T73.setTop (mkF m 62 #[.val (.int k0), .val (.int k1), .val (.int k2), .val (.int k3), .val (.int k4), .val (.ref b57), .val (.int k2), .val (.int k3), .val (.ref b68), .val (.int (((k4.toUInt32 >>> ((2 : Int32) &&& 31).toUInt32).toInt32) &&& (3 : Int32))), .unset, .unset] [(.int (((k4.toUInt32 >>> ((2 : Int32) &&& 31).toUInt32).toInt32) &&& (3 : Int32)))])) _
          refine XS.ifNo X73.here hx rfl (hb hby at_62) rfl ((if0 _ _).trans (teq hc62_80).2) ?_
          show Steps p.tables e below (T73.setTop (mkF m 65 #[.val (.int k0), .val (.int k1), .val (.int k2), .val (.int k3), .val (.int k4), .val (.ref b57), .val (.int k2), .val (.int k3), .val (.ref b68), .val (.int (((k4.toUInt32 >>> ((2 : Int32) &&& 31).toUInt32).toInt32) &&& (3 : Int32))), .unset, .unset] [])) _
          refine XS.aload X73.here hx rfl (hb hby at_65) rfl rfl ?_
          show Steps p.tables e below (T73.setTop (mkF m 67 #[.val (.int k0), .val (.int k1), .val (.int k2), .val (.int k3), .val (.int k4), .val (.ref b57), .val (.int k2), .val (.int k3), .val (.ref b68), .val (.int (((k4.toUInt32 >>> ((2 : Int32) &&& 31).toUInt32).toInt32) &&& (3 : Int32))), .unset, .unset] [(.ref b68)])) _
          refine XS.astore X73.here hx rfl (hb hby at_67) rfl rfl (l' := #[.val (.int k0), .val (.int k1), .val (.int k2), .val (.int k3), .val (.int k4), .val (.ref b57), .val (.int k2), .val (.int k3), .val (.ref b68), .val (.int (((k4.toUInt32 >>> ((2 : Int32) &&& 31).toUInt32).toInt32) &&& (3 : Int32))), .val (.ref b68), .unset]) rfl ?_
          show Steps p.tables e below (T73.setTop (mkF m 69 #[.val (.int k0), .val (.int k1), .val (.int k2), .val (.int k3), .val (.int k4), .val (.ref b57), .val (.int k2), .val (.int k3), .val (.ref b68), .val (.int (((k4.toUInt32 >>> ((2 : Int32) &&& 31).toUInt32).toInt32) &&& (3 : Int32))), .val (.ref b68), .unset] [])) _
          refine XS.iloadN X73.here hx rfl (hb hby at_69) rfl ?_
          show Steps p.tables e below (T73.setTop (mkF m 70 #[.val (.int k0), .val (.int k1), .val (.int k2), .val (.int k3), .val (.int k4), .val (.ref b57), .val (.int k2), .val (.int k3), .val (.ref b68), .val (.int (((k4.toUInt32 >>> ((2 : Int32) &&& 31).toUInt32).toInt32) &&& (3 : Int32))), .val (.ref b68), .unset] [(.int k0)])) _
          refine XS.iload X73.here hx rfl (hb hby at_70) rfl ?_
          show Steps p.tables e below (T73.setTop (mkF m 72 #[.val (.int k0), .val (.int k1), .val (.int k2), .val (.int k3), .val (.int k4), .val (.ref b57), .val (.int k2), .val (.int k3), .val (.ref b68), .val (.int (((k4.toUInt32 >>> ((2 : Int32) &&& 31).toUInt32).toInt32) &&& (3 : Int32))), .val (.ref b68), .unset] [(.int k2), (.int k0)])) _
          exact k_)
        by_cases hc72_82 : k0 = k2
        · have pre83 : ∀ t_, Steps p.tables e below (T73.setTop (mkF m 78 #[.val (.int k0), .val (.int k1), .val (.int k2), .val (.int k3), .val (.int k4), .val (.ref b57), .val (.int k2), .val (.int k3), .val (.ref b68), .val (.int (((k4.toUInt32 >>> ((2 : Int32) &&& 31).toUInt32).toInt32) &&& (3 : Int32))), .val (.ref b68), .unset] [(.int k3), (.int k1)])) t_ → Steps p.tables e below (s₁.setTop (entryFrame m #[(.int k0), (.int k1), (.int k2), (.int k3), (.int k4)] maxLocals)) t_ := fun t_ k_ => pre81 t_ (by
            show Steps p.tables e below (T73.setTop (mkF m 72 #[.val (.int k0), .val (.int k1), .val (.int k2), .val (.int k3), .val (.int k4), .val (.ref b57), .val (.int k2), .val (.int k3), .val (.ref b68), .val (.int (((k4.toUInt32 >>> ((2 : Int32) &&& 31).toUInt32).toInt32) &&& (3 : Int32))), .val (.ref b68), .unset] [(.int k2), (.int k0)])) _
            refine XS.icmpNo X73.here hx rfl (hb hby at_72) rfl (teq hc72_82).2 ?_
            show Steps p.tables e below (T73.setTop (mkF m 75 #[.val (.int k0), .val (.int k1), .val (.int k2), .val (.int k3), .val (.int k4), .val (.ref b57), .val (.int k2), .val (.int k3), .val (.ref b68), .val (.int (((k4.toUInt32 >>> ((2 : Int32) &&& 31).toUInt32).toInt32) &&& (3 : Int32))), .val (.ref b68), .unset] [])) _
            refine XS.iloadN X73.here hx rfl (hb hby at_75) rfl ?_
            show Steps p.tables e below (T73.setTop (mkF m 76 #[.val (.int k0), .val (.int k1), .val (.int k2), .val (.int k3), .val (.int k4), .val (.ref b57), .val (.int k2), .val (.int k3), .val (.ref b68), .val (.int (((k4.toUInt32 >>> ((2 : Int32) &&& 31).toUInt32).toInt32) &&& (3 : Int32))), .val (.ref b68), .unset] [(.int k1)])) _
            refine XS.iload X73.here hx rfl (hb hby at_76) rfl ?_
            show Steps p.tables e below (T73.setTop (mkF m 78 #[.val (.int k0), .val (.int k1), .val (.int k2), .val (.int k3), .val (.int k4), .val (.ref b57), .val (.int k2), .val (.int k3), .val (.ref b68), .val (.int (((k4.toUInt32 >>> ((2 : Int32) &&& 31).toUInt32).toInt32) &&& (3 : Int32))), .val (.ref b68), .unset] [(.int k3), (.int k1)])) _
            exact k_)
          by_cases hc78_84 : k1 = k3
          · obtain ⟨cq85, kq85, q85a, q85b, q85c⟩ := isOf hZ rfl c75
            obtain ⟨v85, _, ⟨T85, L85, k85, n85⟩, -, X85, ⟨Lc85, hQ85, l85, y85, z85⟩, st85⟩ := X73.virtualBack hx (y := (⟨"com/example/fissure/fissure/games/breakable/Hex", "equals", "(Ljava/lang/Object;)Z"⟩ : MethodName)) (z := (⟨"com/example/fissure/fissure/games/breakable/Hex", "equals", "(Ljava/lang/Object;)Z"⟩ : MethodName)) hown (mvT hZ (hw _ (List.mem_of_getElem? (i := 13) rfl))) (mvT hZ (hw _ (List.mem_of_getElem? (i := 14) rfl))) (notFace_of_selects (args := #[]) (mvT hZ (hw _ (List.mem_of_getElem? (i := 16) rfl)))) (mvT hZ (hw _ (List.mem_of_getElem? (i := 16) rfl))) (mvT hZ (hw _ (List.mem_of_getElem? (i := 15) rfl))) (by decide) (backOf (W := 0) (rm_eqC l Z a0 hw [] b57 b68 k0 k1 k2 k3 T73.heap n0 Zs74 E73x c76 c77 F73_column F73_row) hZ (hw _ (List.mem_of_getElem? (i := 17) rfl)) (hw _ (List.mem_of_getElem? (i := 2) rfl)) (by decide) (by decide)) q85a q85c (g := (mkF m 135 #[.val (.int k0), .val (.int k1), .val (.int k2), .val (.int k3), .val (.int k4), .val (.ref b57), .val (.int k2), .val (.int k3), .val (.ref b68), .val (.int (((k4.toUInt32 >>> ((2 : Int32) &&& 31).toUInt32).toInt32) &&& (3 : Int32))), .val (.ref b68), .val (.int (1 : Int32))] [(.ref b68), (.ref b57)])) rfl (by rw [hml]; rfl) (Steps.refl _) (argsL := [(.ref b68)]) (rest := []) (lenOf pd_3 rfl) rfl (by show 2 * 0 + _ ≤ _; exact Nat.le_of_eq rfl) (hb hby at_135) (fun _ _ => ⟨rfl, rfl, (by decide : 2 + 0 ≤ _), (by decide : 4 + 0 ≤ _)⟩)
            dsimp only [Pt.U, Pt.locs, Pt.cells, Pt.slots] at X85 l85 y85 z85 st85 hQ85
            subst l85 y85 z85
            obtain ⟨hv85, N85q, e85⟩ := hQ85
            have N85 := Fr.app N73 N85q
            have hw85 : v85 = some (.int (1 : Int32)) := hv85.trans (congrArg (fun z => some (Value.int z)) (own_yes hc72_82 hc78_84))
            subst hw85
            have pre86 : ∀ t_, Steps p.tables e below (T85.setTop (mkF m 148 #[.val (.int k0), .val (.int k1), .val (.int k2), .val (.int k3), .val (.int k4), .val (.ref b57), .val (.int k2), .val (.int k3), .val (.ref b68), .val (.int (((k4.toUInt32 >>> ((2 : Int32) &&& 31).toUInt32).toInt32) &&& (3 : Int32))), .val (.ref b68), .val (.int (1 : Int32))] [(.int (1 : Int32))])) t_ → Steps p.tables e below (s₁.setTop (entryFrame m #[(.int k0), (.int k1), (.int k2), (.int k3), (.int k4)] maxLocals)) t_ := fun t_ k_ => pre83 t_ (by
              show Steps p.tables e below (T73.setTop (mkF m 78 #[.val (.int k0), .val (.int k1), .val (.int k2), .val (.int k3), .val (.int k4), .val (.ref b57), .val (.int k2), .val (.int k3), .val (.ref b68), .val (.int (((k4.toUInt32 >>> ((2 : Int32) &&& 31).toUInt32).toInt32) &&& (3 : Int32))), .val (.ref b68), .unset] [(.int k3), (.int k1)])) _
              refine XS.icmpNo X73.here hx rfl (hb hby at_78) rfl (teq hc78_84).2 ?_
              show Steps p.tables e below (T73.setTop (mkF m 81 #[.val (.int k0), .val (.int k1), .val (.int k2), .val (.int k3), .val (.int k4), .val (.ref b57), .val (.int k2), .val (.int k3), .val (.ref b68), .val (.int (((k4.toUInt32 >>> ((2 : Int32) &&& 31).toUInt32).toInt32) &&& (3 : Int32))), .val (.ref b68), .unset] [])) _
              refine XS.iconst X73.here hx rfl (hb hby at_81) ?_
              show Steps p.tables e below (T73.setTop (mkF m 82 #[.val (.int k0), .val (.int k1), .val (.int k2), .val (.int k3), .val (.int k4), .val (.ref b57), .val (.int k2), .val (.int k3), .val (.ref b68), .val (.int (((k4.toUInt32 >>> ((2 : Int32) &&& 31).toUInt32).toInt32) &&& (3 : Int32))), .val (.ref b68), .unset] [(.int (1 : Int32))])) _
              refine XS.goto X73.here hx rfl (pc0 := 82) (pc' := 86) rfl (hb hby at_82) (by decide) (by decide) ?_
              show Steps p.tables e below (T73.setTop (mkF m 86 #[.val (.int k0), .val (.int k1), .val (.int k2), .val (.int k3), .val (.int k4), .val (.ref b57), .val (.int k2), .val (.int k3), .val (.ref b68), .val (.int (((k4.toUInt32 >>> ((2 : Int32) &&& 31).toUInt32).toInt32) &&& (3 : Int32))), .val (.ref b68), .unset] [(.int (1 : Int32))])) _
              refine XS.istore X73.here hx rfl (hb hby at_86) rfl (l' := #[.val (.int k0), .val (.int k1), .val (.int k2), .val (.int k3), .val (.int k4), .val (.ref b57), .val (.int k2), .val (.int k3), .val (.ref b68), .val (.int (((k4.toUInt32 >>> ((2 : Int32) &&& 31).toUInt32).toInt32) &&& (3 : Int32))), .val (.ref b68), .val (.int (1 : Int32))]) rfl ?_
              show Steps p.tables e below (T73.setTop (mkF m 88 #[.val (.int k0), .val (.int k1), .val (.int k2), .val (.int k3), .val (.int k4), .val (.ref b57), .val (.int k2), .val (.int k3), .val (.ref b68), .val (.int (((k4.toUInt32 >>> ((2 : Int32) &&& 31).toUInt32).toInt32) &&& (3 : Int32))), .val (.ref b68), .val (.int (1 : Int32))] [])) _
              refine XS.goto X73.here hx rfl (pc0 := 88) (pc' := 131) rfl (hb hby at_88) (by decide) (by decide) ?_
              show Steps p.tables e below (T73.setTop (mkF m 131 #[.val (.int k0), .val (.int k1), .val (.int k2), .val (.int k3), .val (.int k4), .val (.ref b57), .val (.int k2), .val (.int k3), .val (.ref b68), .val (.int (((k4.toUInt32 >>> ((2 : Int32) &&& 31).toUInt32).toInt32) &&& (3 : Int32))), .val (.ref b68), .val (.int (1 : Int32))] [])) _
              refine XS.aload X73.here hx rfl (hb hby at_131) rfl rfl ?_
              show Steps p.tables e below (T73.setTop (mkF m 133 #[.val (.int k0), .val (.int k1), .val (.int k2), .val (.int k3), .val (.int k4), .val (.ref b57), .val (.int k2), .val (.int k3), .val (.ref b68), .val (.int (((k4.toUInt32 >>> ((2 : Int32) &&& 31).toUInt32).toInt32) &&& (3 : Int32))), .val (.ref b68), .val (.int (1 : Int32))] [(.ref b57)])) _
              refine XS.aload X73.here hx rfl (hb hby at_133) rfl rfl ?_
              show Steps p.tables e below (T73.setTop (mkF m 135 #[.val (.int k0), .val (.int k1), .val (.int k2), .val (.int k3), .val (.int k4), .val (.ref b57), .val (.int k2), .val (.int k3), .val (.ref b68), .val (.int (((k4.toUInt32 >>> ((2 : Int32) &&& 31).toUInt32).toInt32) &&& (3 : Int32))), .val (.ref b68), .val (.int (1 : Int32))] [(.ref b68), (.ref b57)])) _
              refine st85.trans ?_
              show Steps p.tables e below (T85.setTop (mkF m 138 #[.val (.int k0), .val (.int k1), .val (.int k2), .val (.int k3), .val (.int k4), .val (.ref b57), .val (.int k2), .val (.int k3), .val (.ref b68), .val (.int (((k4.toUInt32 >>> ((2 : Int32) &&& 31).toUInt32).toInt32) &&& (3 : Int32))), .val (.ref b68), .val (.int (1 : Int32))] [(.int (1 : Int32))])) _
              refine XS.iload X85.here hx rfl (hb hby at_138) rfl ?_
              show Steps p.tables e below (T85.setTop (mkF m 140 #[.val (.int k0), .val (.int k1), .val (.int k2), .val (.int k3), .val (.int k4), .val (.ref b57), .val (.int k2), .val (.int k3), .val (.ref b68), .val (.int (((k4.toUInt32 >>> ((2 : Int32) &&& 31).toUInt32).toInt32) &&& (3 : Int32))), .val (.ref b68), .val (.int (1 : Int32))] [(.int (1 : Int32)), (.int (1 : Int32))])) _
              refine XS.icmpNo X85.here hx rfl (hb hby at_140) rfl (teq (rfl : (1 : Int32) = (1 : Int32))).2 ?_
              show Steps p.tables e below (T85.setTop (mkF m 143 #[.val (.int k0), .val (.int k1), .val (.int k2), .val (.int k3), .val (.int k4), .val (.ref b57), .val (.int k2), .val (.int k3), .val (.ref b68), .val (.int (((k4.toUInt32 >>> ((2 : Int32) &&& 31).toUInt32).toInt32) &&& (3 : Int32))), .val (.ref b68), .val (.int (1 : Int32))] [])) _
              refine XS.iconst X85.here hx rfl (hb hby at_143) ?_
              show Steps p.tables e below (T85.setTop (mkF m 144 #[.val (.int k0), .val (.int k1), .val (.int k2), .val (.int k3), .val (.int k4), .val (.ref b57), .val (.int k2), .val (.int k3), .val (.ref b68), .val (.int (((k4.toUInt32 >>> ((2 : Int32) &&& 31).toUInt32).toInt32) &&& (3 : Int32))), .val (.ref b68), .val (.int (1 : Int32))] [(.int (1 : Int32))])) _
              refine XS.goto X85.here hx rfl (pc0 := 144) (pc' := 148) rfl (hb hby at_144) (by decide) (by decide) ?_
              show Steps p.tables e below (T85.setTop (mkF m 148 #[.val (.int k0), .val (.int k1), .val (.int k2), .val (.int k3), .val (.int k4), .val (.ref b57), .val (.int k2), .val (.int k3), .val (.ref b68), .val (.int (((k4.toUInt32 >>> ((2 : Int32) &&& 31).toUInt32).toInt32) &&& (3 : Int32))), .val (.ref b68), .val (.int (1 : Int32))] [(.int (1 : Int32))])) _
              exact k_)
            obtain ⟨fs, hr, hrun, hended, hW, hsame⟩ := X85.leave (v := some (.int (1 : Int32))) (fun h => by rw [Bd.returns] at h; cases h)
            refine ⟨_, _, pre86 _ ?_, hrun, hended, _, _, rfl, ?_, ⟨_, rfl⟩, hW, hsame.mono (by decide) (by decide)⟩
            · show Steps p.tables e below (T85.setTop (mkF m 148 #[.val (.int k0), .val (.int k1), .val (.int k2), .val (.int k3), .val (.int k4), .val (.ref b57), .val (.int k2), .val (.int k3), .val (.ref b68), .val (.int (((k4.toUInt32 >>> ((2 : Int32) &&& 31).toUInt32).toInt32) &&& (3 : Int32))), .val (.ref b68), .val (.int (1 : Int32))] [(.int (1 : Int32))])) _
              exact retN X85 hx (t := .boolean) Bd.returns (by simp) (hb hby at_148) hr
            · show Q_0 Z k0 k1 k2 k3 k4 w_cache cl_cache bx h0 n0 _ T85.heap _
              rw [e85]
              exact ⟨rfl, N85⟩
          · obtain ⟨cq87, kq87, q87a, q87b, q87c⟩ := isOf hZ rfl c75
            obtain ⟨v87, _, ⟨T87, L87, k87, n87⟩, -, X87, ⟨Lc87, hQ87, l87, y87, z87⟩, st87⟩ := X73.virtualBack hx (y := (⟨"com/example/fissure/fissure/games/breakable/Hex", "equals", "(Ljava/lang/Object;)Z"⟩ : MethodName)) (z := (⟨"com/example/fissure/fissure/games/breakable/Hex", "equals", "(Ljava/lang/Object;)Z"⟩ : MethodName)) hown (mvT hZ (hw _ (List.mem_of_getElem? (i := 13) rfl))) (mvT hZ (hw _ (List.mem_of_getElem? (i := 14) rfl))) (notFace_of_selects (args := #[]) (mvT hZ (hw _ (List.mem_of_getElem? (i := 16) rfl)))) (mvT hZ (hw _ (List.mem_of_getElem? (i := 16) rfl))) (mvT hZ (hw _ (List.mem_of_getElem? (i := 15) rfl))) (by decide) (backOf (W := 0) (rm_eqC l Z a0 hw [] b57 b68 k0 k1 k2 k3 T73.heap n0 Zs74 E73x c76 c77 F73_column F73_row) hZ (hw _ (List.mem_of_getElem? (i := 17) rfl)) (hw _ (List.mem_of_getElem? (i := 2) rfl)) (by decide) (by decide)) q87a q87c (g := (mkF m 135 #[.val (.int k0), .val (.int k1), .val (.int k2), .val (.int k3), .val (.int k4), .val (.ref b57), .val (.int k2), .val (.int k3), .val (.ref b68), .val (.int (((k4.toUInt32 >>> ((2 : Int32) &&& 31).toUInt32).toInt32) &&& (3 : Int32))), .val (.ref b68), .val (.int (0 : Int32))] [(.ref b68), (.ref b57)])) rfl (by rw [hml]; rfl) (Steps.refl _) (argsL := [(.ref b68)]) (rest := []) (lenOf pd_3 rfl) rfl (by show 2 * 0 + _ ≤ _; exact Nat.le_of_eq rfl) (hb hby at_135) (fun _ _ => ⟨rfl, rfl, (by decide : 2 + 0 ≤ _), (by decide : 4 + 0 ≤ _)⟩)
            dsimp only [Pt.U, Pt.locs, Pt.cells, Pt.slots] at X87 l87 y87 z87 st87 hQ87
            subst l87 y87 z87
            obtain ⟨hv87, N87q, e87⟩ := hQ87
            have N87 := Fr.app N73 N87q
            have hw87 : v87 = some (.int (0 : Int32)) := hv87.trans (congrArg (fun z => some (Value.int z)) (own_n2 hc72_82 hc78_84))
            subst hw87
            have pre88 : ∀ t_, Steps p.tables e below (T87.setTop (mkF m 148 #[.val (.int k0), .val (.int k1), .val (.int k2), .val (.int k3), .val (.int k4), .val (.ref b57), .val (.int k2), .val (.int k3), .val (.ref b68), .val (.int (((k4.toUInt32 >>> ((2 : Int32) &&& 31).toUInt32).toInt32) &&& (3 : Int32))), .val (.ref b68), .val (.int (0 : Int32))] [(.int (1 : Int32))])) t_ → Steps p.tables e below (s₁.setTop (entryFrame m #[(.int k0), (.int k1), (.int k2), (.int k3), (.int k4)] maxLocals)) t_ := fun t_ k_ => pre83 t_ (by
              show Steps p.tables e below (T73.setTop (mkF m 78 #[.val (.int k0), .val (.int k1), .val (.int k2), .val (.int k3), .val (.int k4), .val (.ref b57), .val (.int k2), .val (.int k3), .val (.ref b68), .val (.int (((k4.toUInt32 >>> ((2 : Int32) &&& 31).toUInt32).toInt32) &&& (3 : Int32))), .val (.ref b68), .unset] [(.int k3), (.int k1)])) _
              refine XS.icmpYes X73.here hx rfl (pc0 := 78) (pc' := 85) rfl (hb hby at_78) rfl (feq hc78_84).2 (by decide) (by decide) ?_
              show Steps p.tables e below (T73.setTop (mkF m 85 #[.val (.int k0), .val (.int k1), .val (.int k2), .val (.int k3), .val (.int k4), .val (.ref b57), .val (.int k2), .val (.int k3), .val (.ref b68), .val (.int (((k4.toUInt32 >>> ((2 : Int32) &&& 31).toUInt32).toInt32) &&& (3 : Int32))), .val (.ref b68), .unset] [])) _
              refine XS.iconst X73.here hx rfl (hb hby at_85) ?_
              show Steps p.tables e below (T73.setTop (mkF m 86 #[.val (.int k0), .val (.int k1), .val (.int k2), .val (.int k3), .val (.int k4), .val (.ref b57), .val (.int k2), .val (.int k3), .val (.ref b68), .val (.int (((k4.toUInt32 >>> ((2 : Int32) &&& 31).toUInt32).toInt32) &&& (3 : Int32))), .val (.ref b68), .unset] [(.int (0 : Int32))])) _
              refine XS.istore X73.here hx rfl (hb hby at_86) rfl (l' := #[.val (.int k0), .val (.int k1), .val (.int k2), .val (.int k3), .val (.int k4), .val (.ref b57), .val (.int k2), .val (.int k3), .val (.ref b68), .val (.int (((k4.toUInt32 >>> ((2 : Int32) &&& 31).toUInt32).toInt32) &&& (3 : Int32))), .val (.ref b68), .val (.int (0 : Int32))]) rfl ?_
              show Steps p.tables e below (T73.setTop (mkF m 88 #[.val (.int k0), .val (.int k1), .val (.int k2), .val (.int k3), .val (.int k4), .val (.ref b57), .val (.int k2), .val (.int k3), .val (.ref b68), .val (.int (((k4.toUInt32 >>> ((2 : Int32) &&& 31).toUInt32).toInt32) &&& (3 : Int32))), .val (.ref b68), .val (.int (0 : Int32))] [])) _
              refine XS.goto X73.here hx rfl (pc0 := 88) (pc' := 131) rfl (hb hby at_88) (by decide) (by decide) ?_
              show Steps p.tables e below (T73.setTop (mkF m 131 #[.val (.int k0), .val (.int k1), .val (.int k2), .val (.int k3), .val (.int k4), .val (.ref b57), .val (.int k2), .val (.int k3), .val (.ref b68), .val (.int (((k4.toUInt32 >>> ((2 : Int32) &&& 31).toUInt32).toInt32) &&& (3 : Int32))), .val (.ref b68), .val (.int (0 : Int32))] [])) _
              refine XS.aload X73.here hx rfl (hb hby at_131) rfl rfl ?_
              show Steps p.tables e below (T73.setTop (mkF m 133 #[.val (.int k0), .val (.int k1), .val (.int k2), .val (.int k3), .val (.int k4), .val (.ref b57), .val (.int k2), .val (.int k3), .val (.ref b68), .val (.int (((k4.toUInt32 >>> ((2 : Int32) &&& 31).toUInt32).toInt32) &&& (3 : Int32))), .val (.ref b68), .val (.int (0 : Int32))] [(.ref b57)])) _
              refine XS.aload X73.here hx rfl (hb hby at_133) rfl rfl ?_
              show Steps p.tables e below (T73.setTop (mkF m 135 #[.val (.int k0), .val (.int k1), .val (.int k2), .val (.int k3), .val (.int k4), .val (.ref b57), .val (.int k2), .val (.int k3), .val (.ref b68), .val (.int (((k4.toUInt32 >>> ((2 : Int32) &&& 31).toUInt32).toInt32) &&& (3 : Int32))), .val (.ref b68), .val (.int (0 : Int32))] [(.ref b68), (.ref b57)])) _
              refine st87.trans ?_
              show Steps p.tables e below (T87.setTop (mkF m 138 #[.val (.int k0), .val (.int k1), .val (.int k2), .val (.int k3), .val (.int k4), .val (.ref b57), .val (.int k2), .val (.int k3), .val (.ref b68), .val (.int (((k4.toUInt32 >>> ((2 : Int32) &&& 31).toUInt32).toInt32) &&& (3 : Int32))), .val (.ref b68), .val (.int (0 : Int32))] [(.int (0 : Int32))])) _
              refine XS.iload X87.here hx rfl (hb hby at_138) rfl ?_
              show Steps p.tables e below (T87.setTop (mkF m 140 #[.val (.int k0), .val (.int k1), .val (.int k2), .val (.int k3), .val (.int k4), .val (.ref b57), .val (.int k2), .val (.int k3), .val (.ref b68), .val (.int (((k4.toUInt32 >>> ((2 : Int32) &&& 31).toUInt32).toInt32) &&& (3 : Int32))), .val (.ref b68), .val (.int (0 : Int32))] [(.int (0 : Int32)), (.int (0 : Int32))])) _
              refine XS.icmpNo X87.here hx rfl (hb hby at_140) rfl (teq (rfl : (0 : Int32) = (0 : Int32))).2 ?_
              show Steps p.tables e below (T87.setTop (mkF m 143 #[.val (.int k0), .val (.int k1), .val (.int k2), .val (.int k3), .val (.int k4), .val (.ref b57), .val (.int k2), .val (.int k3), .val (.ref b68), .val (.int (((k4.toUInt32 >>> ((2 : Int32) &&& 31).toUInt32).toInt32) &&& (3 : Int32))), .val (.ref b68), .val (.int (0 : Int32))] [])) _
              refine XS.iconst X87.here hx rfl (hb hby at_143) ?_
              show Steps p.tables e below (T87.setTop (mkF m 144 #[.val (.int k0), .val (.int k1), .val (.int k2), .val (.int k3), .val (.int k4), .val (.ref b57), .val (.int k2), .val (.int k3), .val (.ref b68), .val (.int (((k4.toUInt32 >>> ((2 : Int32) &&& 31).toUInt32).toInt32) &&& (3 : Int32))), .val (.ref b68), .val (.int (0 : Int32))] [(.int (1 : Int32))])) _
              refine XS.goto X87.here hx rfl (pc0 := 144) (pc' := 148) rfl (hb hby at_144) (by decide) (by decide) ?_
              show Steps p.tables e below (T87.setTop (mkF m 148 #[.val (.int k0), .val (.int k1), .val (.int k2), .val (.int k3), .val (.int k4), .val (.ref b57), .val (.int k2), .val (.int k3), .val (.ref b68), .val (.int (((k4.toUInt32 >>> ((2 : Int32) &&& 31).toUInt32).toInt32) &&& (3 : Int32))), .val (.ref b68), .val (.int (0 : Int32))] [(.int (1 : Int32))])) _
              exact k_)
            obtain ⟨fs, hr, hrun, hended, hW, hsame⟩ := X87.leave (v := some (.int (1 : Int32))) (fun h => by rw [Bd.returns] at h; cases h)
            refine ⟨_, _, pre88 _ ?_, hrun, hended, _, _, rfl, ?_, ⟨_, rfl⟩, hW, hsame.mono (by decide) (by decide)⟩
            · show Steps p.tables e below (T87.setTop (mkF m 148 #[.val (.int k0), .val (.int k1), .val (.int k2), .val (.int k3), .val (.int k4), .val (.ref b57), .val (.int k2), .val (.int k3), .val (.ref b68), .val (.int (((k4.toUInt32 >>> ((2 : Int32) &&& 31).toUInt32).toInt32) &&& (3 : Int32))), .val (.ref b68), .val (.int (0 : Int32))] [(.int (1 : Int32))])) _
              exact retN X87 hx (t := .boolean) Bd.returns (by simp) (hb hby at_148) hr
            · show Q_0 Z k0 k1 k2 k3 k4 w_cache cl_cache bx h0 n0 _ T87.heap _
              rw [e87]
              exact ⟨rfl, N87⟩
        · obtain ⟨cq89, kq89, q89a, q89b, q89c⟩ := isOf hZ rfl c75
          obtain ⟨v89, _, ⟨T89, L89, k89, n89⟩, -, X89, ⟨Lc89, hQ89, l89, y89, z89⟩, st89⟩ := X73.virtualBack hx (y := (⟨"com/example/fissure/fissure/games/breakable/Hex", "equals", "(Ljava/lang/Object;)Z"⟩ : MethodName)) (z := (⟨"com/example/fissure/fissure/games/breakable/Hex", "equals", "(Ljava/lang/Object;)Z"⟩ : MethodName)) hown (mvT hZ (hw _ (List.mem_of_getElem? (i := 13) rfl))) (mvT hZ (hw _ (List.mem_of_getElem? (i := 14) rfl))) (notFace_of_selects (args := #[]) (mvT hZ (hw _ (List.mem_of_getElem? (i := 16) rfl)))) (mvT hZ (hw _ (List.mem_of_getElem? (i := 16) rfl))) (mvT hZ (hw _ (List.mem_of_getElem? (i := 15) rfl))) (by decide) (backOf (W := 0) (rm_eqC l Z a0 hw [] b57 b68 k0 k1 k2 k3 T73.heap n0 Zs74 E73x c76 c77 F73_column F73_row) hZ (hw _ (List.mem_of_getElem? (i := 17) rfl)) (hw _ (List.mem_of_getElem? (i := 2) rfl)) (by decide) (by decide)) q89a q89c (g := (mkF m 135 #[.val (.int k0), .val (.int k1), .val (.int k2), .val (.int k3), .val (.int k4), .val (.ref b57), .val (.int k2), .val (.int k3), .val (.ref b68), .val (.int (((k4.toUInt32 >>> ((2 : Int32) &&& 31).toUInt32).toInt32) &&& (3 : Int32))), .val (.ref b68), .val (.int (0 : Int32))] [(.ref b68), (.ref b57)])) rfl (by rw [hml]; rfl) (Steps.refl _) (argsL := [(.ref b68)]) (rest := []) (lenOf pd_3 rfl) rfl (by show 2 * 0 + _ ≤ _; exact Nat.le_of_eq rfl) (hb hby at_135) (fun _ _ => ⟨rfl, rfl, (by decide : 2 + 0 ≤ _), (by decide : 4 + 0 ≤ _)⟩)
          dsimp only [Pt.U, Pt.locs, Pt.cells, Pt.slots] at X89 l89 y89 z89 st89 hQ89
          subst l89 y89 z89
          obtain ⟨hv89, N89q, e89⟩ := hQ89
          have N89 := Fr.app N73 N89q
          have hw89 : v89 = some (.int (0 : Int32)) := hv89.trans (congrArg (fun z => some (Value.int z)) (own_n1 hc72_82))
          subst hw89
          have pre90 : ∀ t_, Steps p.tables e below (T89.setTop (mkF m 148 #[.val (.int k0), .val (.int k1), .val (.int k2), .val (.int k3), .val (.int k4), .val (.ref b57), .val (.int k2), .val (.int k3), .val (.ref b68), .val (.int (((k4.toUInt32 >>> ((2 : Int32) &&& 31).toUInt32).toInt32) &&& (3 : Int32))), .val (.ref b68), .val (.int (0 : Int32))] [(.int (1 : Int32))])) t_ → Steps p.tables e below (s₁.setTop (entryFrame m #[(.int k0), (.int k1), (.int k2), (.int k3), (.int k4)] maxLocals)) t_ := fun t_ k_ => pre81 t_ (by
            show Steps p.tables e below (T73.setTop (mkF m 72 #[.val (.int k0), .val (.int k1), .val (.int k2), .val (.int k3), .val (.int k4), .val (.ref b57), .val (.int k2), .val (.int k3), .val (.ref b68), .val (.int (((k4.toUInt32 >>> ((2 : Int32) &&& 31).toUInt32).toInt32) &&& (3 : Int32))), .val (.ref b68), .unset] [(.int k2), (.int k0)])) _
            refine XS.icmpYes X73.here hx rfl (pc0 := 72) (pc' := 85) rfl (hb hby at_72) rfl (feq hc72_82).2 (by decide) (by decide) ?_
            show Steps p.tables e below (T73.setTop (mkF m 85 #[.val (.int k0), .val (.int k1), .val (.int k2), .val (.int k3), .val (.int k4), .val (.ref b57), .val (.int k2), .val (.int k3), .val (.ref b68), .val (.int (((k4.toUInt32 >>> ((2 : Int32) &&& 31).toUInt32).toInt32) &&& (3 : Int32))), .val (.ref b68), .unset] [])) _
            refine XS.iconst X73.here hx rfl (hb hby at_85) ?_
            show Steps p.tables e below (T73.setTop (mkF m 86 #[.val (.int k0), .val (.int k1), .val (.int k2), .val (.int k3), .val (.int k4), .val (.ref b57), .val (.int k2), .val (.int k3), .val (.ref b68), .val (.int (((k4.toUInt32 >>> ((2 : Int32) &&& 31).toUInt32).toInt32) &&& (3 : Int32))), .val (.ref b68), .unset] [(.int (0 : Int32))])) _
            refine XS.istore X73.here hx rfl (hb hby at_86) rfl (l' := #[.val (.int k0), .val (.int k1), .val (.int k2), .val (.int k3), .val (.int k4), .val (.ref b57), .val (.int k2), .val (.int k3), .val (.ref b68), .val (.int (((k4.toUInt32 >>> ((2 : Int32) &&& 31).toUInt32).toInt32) &&& (3 : Int32))), .val (.ref b68), .val (.int (0 : Int32))]) rfl ?_
            show Steps p.tables e below (T73.setTop (mkF m 88 #[.val (.int k0), .val (.int k1), .val (.int k2), .val (.int k3), .val (.int k4), .val (.ref b57), .val (.int k2), .val (.int k3), .val (.ref b68), .val (.int (((k4.toUInt32 >>> ((2 : Int32) &&& 31).toUInt32).toInt32) &&& (3 : Int32))), .val (.ref b68), .val (.int (0 : Int32))] [])) _
            refine XS.goto X73.here hx rfl (pc0 := 88) (pc' := 131) rfl (hb hby at_88) (by decide) (by decide) ?_
            show Steps p.tables e below (T73.setTop (mkF m 131 #[.val (.int k0), .val (.int k1), .val (.int k2), .val (.int k3), .val (.int k4), .val (.ref b57), .val (.int k2), .val (.int k3), .val (.ref b68), .val (.int (((k4.toUInt32 >>> ((2 : Int32) &&& 31).toUInt32).toInt32) &&& (3 : Int32))), .val (.ref b68), .val (.int (0 : Int32))] [])) _
            refine XS.aload X73.here hx rfl (hb hby at_131) rfl rfl ?_
            show Steps p.tables e below (T73.setTop (mkF m 133 #[.val (.int k0), .val (.int k1), .val (.int k2), .val (.int k3), .val (.int k4), .val (.ref b57), .val (.int k2), .val (.int k3), .val (.ref b68), .val (.int (((k4.toUInt32 >>> ((2 : Int32) &&& 31).toUInt32).toInt32) &&& (3 : Int32))), .val (.ref b68), .val (.int (0 : Int32))] [(.ref b57)])) _
            refine XS.aload X73.here hx rfl (hb hby at_133) rfl rfl ?_
            show Steps p.tables e below (T73.setTop (mkF m 135 #[.val (.int k0), .val (.int k1), .val (.int k2), .val (.int k3), .val (.int k4), .val (.ref b57), .val (.int k2), .val (.int k3), .val (.ref b68), .val (.int (((k4.toUInt32 >>> ((2 : Int32) &&& 31).toUInt32).toInt32) &&& (3 : Int32))), .val (.ref b68), .val (.int (0 : Int32))] [(.ref b68), (.ref b57)])) _
            refine st89.trans ?_
            show Steps p.tables e below (T89.setTop (mkF m 138 #[.val (.int k0), .val (.int k1), .val (.int k2), .val (.int k3), .val (.int k4), .val (.ref b57), .val (.int k2), .val (.int k3), .val (.ref b68), .val (.int (((k4.toUInt32 >>> ((2 : Int32) &&& 31).toUInt32).toInt32) &&& (3 : Int32))), .val (.ref b68), .val (.int (0 : Int32))] [(.int (0 : Int32))])) _
            refine XS.iload X89.here hx rfl (hb hby at_138) rfl ?_
            show Steps p.tables e below (T89.setTop (mkF m 140 #[.val (.int k0), .val (.int k1), .val (.int k2), .val (.int k3), .val (.int k4), .val (.ref b57), .val (.int k2), .val (.int k3), .val (.ref b68), .val (.int (((k4.toUInt32 >>> ((2 : Int32) &&& 31).toUInt32).toInt32) &&& (3 : Int32))), .val (.ref b68), .val (.int (0 : Int32))] [(.int (0 : Int32)), (.int (0 : Int32))])) _
            refine XS.icmpNo X89.here hx rfl (hb hby at_140) rfl (teq (rfl : (0 : Int32) = (0 : Int32))).2 ?_
            show Steps p.tables e below (T89.setTop (mkF m 143 #[.val (.int k0), .val (.int k1), .val (.int k2), .val (.int k3), .val (.int k4), .val (.ref b57), .val (.int k2), .val (.int k3), .val (.ref b68), .val (.int (((k4.toUInt32 >>> ((2 : Int32) &&& 31).toUInt32).toInt32) &&& (3 : Int32))), .val (.ref b68), .val (.int (0 : Int32))] [])) _
            refine XS.iconst X89.here hx rfl (hb hby at_143) ?_
            show Steps p.tables e below (T89.setTop (mkF m 144 #[.val (.int k0), .val (.int k1), .val (.int k2), .val (.int k3), .val (.int k4), .val (.ref b57), .val (.int k2), .val (.int k3), .val (.ref b68), .val (.int (((k4.toUInt32 >>> ((2 : Int32) &&& 31).toUInt32).toInt32) &&& (3 : Int32))), .val (.ref b68), .val (.int (0 : Int32))] [(.int (1 : Int32))])) _
            refine XS.goto X89.here hx rfl (pc0 := 144) (pc' := 148) rfl (hb hby at_144) (by decide) (by decide) ?_
            show Steps p.tables e below (T89.setTop (mkF m 148 #[.val (.int k0), .val (.int k1), .val (.int k2), .val (.int k3), .val (.int k4), .val (.ref b57), .val (.int k2), .val (.int k3), .val (.ref b68), .val (.int (((k4.toUInt32 >>> ((2 : Int32) &&& 31).toUInt32).toInt32) &&& (3 : Int32))), .val (.ref b68), .val (.int (0 : Int32))] [(.int (1 : Int32))])) _
            exact k_)
          obtain ⟨fs, hr, hrun, hended, hW, hsame⟩ := X89.leave (v := some (.int (1 : Int32))) (fun h => by rw [Bd.returns] at h; cases h)
          refine ⟨_, _, pre90 _ ?_, hrun, hended, _, _, rfl, ?_, ⟨_, rfl⟩, hW, hsame.mono (by decide) (by decide)⟩
          · show Steps p.tables e below (T89.setTop (mkF m 148 #[.val (.int k0), .val (.int k1), .val (.int k2), .val (.int k3), .val (.int k4), .val (.ref b57), .val (.int k2), .val (.int k3), .val (.ref b68), .val (.int (((k4.toUInt32 >>> ((2 : Int32) &&& 31).toUInt32).toInt32) &&& (3 : Int32))), .val (.ref b68), .val (.int (0 : Int32))] [(.int (1 : Int32))])) _
            exact retN X89 hx (t := .boolean) Bd.returns (by simp) (hb hby at_148) hr
          · show Q_0 Z k0 k1 k2 k3 k4 w_cache cl_cache bx h0 n0 _ T89.heap _
            rw [e89]
            exact ⟨rfl, N89⟩
      · have pre91 : ∀ t_, Steps p.tables e below (T73.setTop (mkF m 94 #[.val (.int k0), .val (.int k1), .val (.int k2), .val (.int k3), .val (.int k4), .val (.ref b57), .val (.int k2), .val (.int k3), .val (.ref b68), .val (.int (((k4.toUInt32 >>> ((2 : Int32) &&& 31).toUInt32).toInt32) &&& (3 : Int32))), .unset, .unset] [(.int (1 : Int32)), (.int (((k4.toUInt32 >>> ((2 : Int32) &&& 31).toUInt32).toInt32) &&& (3 : Int32)))])) t_ → Steps p.tables e below (s₁.setTop (entryFrame m #[(.int k0), (.int k1), (.int k2), (.int k3), (.int k4)] maxLocals)) t_ := fun t_ k_ => pre79 t_ (by
          show Steps p.tables e below (T73.setTop (mkF m 62 #[.val (.int k0), .val (.int k1), .val (.int k2), .val (.int k3), .val (.int k4), .val (.ref b57), .val (.int k2), .val (.int k3), .val (.ref b68), .val (.int (((k4.toUInt32 >>> ((2 : Int32) &&& 31).toUInt32).toInt32) &&& (3 : Int32))), .unset, .unset] [(.int (((k4.toUInt32 >>> ((2 : Int32) &&& 31).toUInt32).toInt32) &&& (3 : Int32)))])) _
          refine XS.ifYes X73.here hx rfl (pc0 := 62) (pc' := 91) rfl (hb hby at_62) rfl ((if0 _ _).trans (feq hc62_80).2) (by decide) (by decide) ?_
          show Steps p.tables e below (T73.setTop (mkF m 91 #[.val (.int k0), .val (.int k1), .val (.int k2), .val (.int k3), .val (.int k4), .val (.ref b57), .val (.int k2), .val (.int k3), .val (.ref b68), .val (.int (((k4.toUInt32 >>> ((2 : Int32) &&& 31).toUInt32).toInt32) &&& (3 : Int32))), .unset, .unset] [])) _
          refine XS.iload X73.here hx rfl (hb hby at_91) rfl ?_
          show Steps p.tables e below (T73.setTop (mkF m 93 #[.val (.int k0), .val (.int k1), .val (.int k2), .val (.int k3), .val (.int k4), .val (.ref b57), .val (.int k2), .val (.int k3), .val (.ref b68), .val (.int (((k4.toUInt32 >>> ((2 : Int32) &&& 31).toUInt32).toInt32) &&& (3 : Int32))), .unset, .unset] [(.int (((k4.toUInt32 >>> ((2 : Int32) &&& 31).toUInt32).toInt32) &&& (3 : Int32)))])) _
          refine XS.iconst X73.here hx rfl (hb hby at_93) ?_
          show Steps p.tables e below (T73.setTop (mkF m 94 #[.val (.int k0), .val (.int k1), .val (.int k2), .val (.int k3), .val (.int k4), .val (.ref b57), .val (.int k2), .val (.int k3), .val (.ref b68), .val (.int (((k4.toUInt32 >>> ((2 : Int32) &&& 31).toUInt32).toInt32) &&& (3 : Int32))), .unset, .unset] [(.int (1 : Int32)), (.int (((k4.toUInt32 >>> ((2 : Int32) &&& 31).toUInt32).toInt32) &&& (3 : Int32)))])) _
          exact k_)
        by_cases hc94_92 : (((k4.toUInt32 >>> ((2 : Int32) &&& 31).toUInt32).toInt32) &&& (3 : Int32)) = (1 : Int32)
        · obtain ⟨cq93, kq93, q93a, q93b, q93c⟩ := isOf hZ rfl c75
          obtain ⟨v93, _, ⟨T93, L93, k93, n93⟩, -, X93, ⟨Lc93, hQ93, l93, y93, z93⟩, st93⟩ := X73.virtualBack hx (y := (⟨"com/example/fissure/fissure/games/breakable/Hex", "equals", "(Ljava/lang/Object;)Z"⟩ : MethodName)) (z := (⟨"com/example/fissure/fissure/games/breakable/Hex", "equals", "(Ljava/lang/Object;)Z"⟩ : MethodName)) hown (mvT hZ (hw _ (List.mem_of_getElem? (i := 13) rfl))) (mvT hZ (hw _ (List.mem_of_getElem? (i := 14) rfl))) (notFace_of_selects (args := #[]) (mvT hZ (hw _ (List.mem_of_getElem? (i := 16) rfl)))) (mvT hZ (hw _ (List.mem_of_getElem? (i := 16) rfl))) (mvT hZ (hw _ (List.mem_of_getElem? (i := 15) rfl))) (by decide) (backOf (W := 0) (rm_eqN l Z a0 hw [] b57 T73.heap n0 Zs74 ) hZ (hw _ (List.mem_of_getElem? (i := 17) rfl)) (hw _ (List.mem_of_getElem? (i := 2) rfl)) (by decide) (by decide)) q93a q93c (g := (mkF m 135 #[.val (.int k0), .val (.int k1), .val (.int k2), .val (.int k3), .val (.int k4), .val (.ref b57), .val (.int k2), .val (.int k3), .val (.ref b68), .val (.int (((k4.toUInt32 >>> ((2 : Int32) &&& 31).toUInt32).toInt32) &&& (3 : Int32))), .val .null, .val (.int (0 : Int32))] [.null, (.ref b57)])) rfl (by rw [hml]; rfl) (Steps.refl _) (argsL := [.null]) (rest := []) (lenOf pd_3 rfl) rfl (by show 2 * 0 + _ ≤ _; exact Nat.le_of_eq rfl) (hb hby at_135) (fun _ _ => ⟨rfl, rfl, (by decide : 2 + 0 ≤ _), (by decide : 4 + 0 ≤ _)⟩)
          dsimp only [Pt.U, Pt.locs, Pt.cells, Pt.slots] at X93 l93 y93 z93 st93 hQ93
          subst l93 y93 z93
          obtain ⟨hv93, N93q, e93⟩ := hQ93
          have N93 := Fr.app N73 N93q
          subst hv93
          have pre94 : ∀ t_, Steps p.tables e below (T93.setTop (mkF m 148 #[.val (.int k0), .val (.int k1), .val (.int k2), .val (.int k3), .val (.int k4), .val (.ref b57), .val (.int k2), .val (.int k3), .val (.ref b68), .val (.int (((k4.toUInt32 >>> ((2 : Int32) &&& 31).toUInt32).toInt32) &&& (3 : Int32))), .val .null, .val (.int (0 : Int32))] [(.int (1 : Int32))])) t_ → Steps p.tables e below (s₁.setTop (entryFrame m #[(.int k0), (.int k1), (.int k2), (.int k3), (.int k4)] maxLocals)) t_ := fun t_ k_ => pre91 t_ (by
            show Steps p.tables e below (T73.setTop (mkF m 94 #[.val (.int k0), .val (.int k1), .val (.int k2), .val (.int k3), .val (.int k4), .val (.ref b57), .val (.int k2), .val (.int k3), .val (.ref b68), .val (.int (((k4.toUInt32 >>> ((2 : Int32) &&& 31).toUInt32).toInt32) &&& (3 : Int32))), .unset, .unset] [(.int (1 : Int32)), (.int (((k4.toUInt32 >>> ((2 : Int32) &&& 31).toUInt32).toInt32) &&& (3 : Int32)))])) _
            refine XS.icmpNo X73.here hx rfl (hb hby at_94) rfl (teq hc94_92).2 ?_
            show Steps p.tables e below (T73.setTop (mkF m 97 #[.val (.int k0), .val (.int k1), .val (.int k2), .val (.int k3), .val (.int k4), .val (.ref b57), .val (.int k2), .val (.int k3), .val (.ref b68), .val (.int (((k4.toUInt32 >>> ((2 : Int32) &&& 31).toUInt32).toInt32) &&& (3 : Int32))), .unset, .unset] [])) _
            refine XS.aconstNull X73.here hx rfl (hb hby at_97) ?_
            show Steps p.tables e below (T73.setTop (mkF m 98 #[.val (.int k0), .val (.int k1), .val (.int k2), .val (.int k3), .val (.int k4), .val (.ref b57), .val (.int k2), .val (.int k3), .val (.ref b68), .val (.int (((k4.toUInt32 >>> ((2 : Int32) &&& 31).toUInt32).toInt32) &&& (3 : Int32))), .unset, .unset] [.null])) _
            refine XS.astore X73.here hx rfl (hb hby at_98) rfl rfl (l' := #[.val (.int k0), .val (.int k1), .val (.int k2), .val (.int k3), .val (.int k4), .val (.ref b57), .val (.int k2), .val (.int k3), .val (.ref b68), .val (.int (((k4.toUInt32 >>> ((2 : Int32) &&& 31).toUInt32).toInt32) &&& (3 : Int32))), .val .null, .unset]) rfl ?_
            show Steps p.tables e below (T73.setTop (mkF m 100 #[.val (.int k0), .val (.int k1), .val (.int k2), .val (.int k3), .val (.int k4), .val (.ref b57), .val (.int k2), .val (.int k3), .val (.ref b68), .val (.int (((k4.toUInt32 >>> ((2 : Int32) &&& 31).toUInt32).toInt32) &&& (3 : Int32))), .val .null, .unset] [])) _
            refine XS.iconst X73.here hx rfl (hb hby at_100) ?_
            show Steps p.tables e below (T73.setTop (mkF m 101 #[.val (.int k0), .val (.int k1), .val (.int k2), .val (.int k3), .val (.int k4), .val (.ref b57), .val (.int k2), .val (.int k3), .val (.ref b68), .val (.int (((k4.toUInt32 >>> ((2 : Int32) &&& 31).toUInt32).toInt32) &&& (3 : Int32))), .val .null, .unset] [(.int (0 : Int32))])) _
            refine XS.istore X73.here hx rfl (hb hby at_101) rfl (l' := #[.val (.int k0), .val (.int k1), .val (.int k2), .val (.int k3), .val (.int k4), .val (.ref b57), .val (.int k2), .val (.int k3), .val (.ref b68), .val (.int (((k4.toUInt32 >>> ((2 : Int32) &&& 31).toUInt32).toInt32) &&& (3 : Int32))), .val .null, .val (.int (0 : Int32))]) rfl ?_
            show Steps p.tables e below (T73.setTop (mkF m 103 #[.val (.int k0), .val (.int k1), .val (.int k2), .val (.int k3), .val (.int k4), .val (.ref b57), .val (.int k2), .val (.int k3), .val (.ref b68), .val (.int (((k4.toUInt32 >>> ((2 : Int32) &&& 31).toUInt32).toInt32) &&& (3 : Int32))), .val .null, .val (.int (0 : Int32))] [])) _
            refine XS.goto X73.here hx rfl (pc0 := 103) (pc' := 131) rfl (hb hby at_103) (by decide) (by decide) ?_
            show Steps p.tables e below (T73.setTop (mkF m 131 #[.val (.int k0), .val (.int k1), .val (.int k2), .val (.int k3), .val (.int k4), .val (.ref b57), .val (.int k2), .val (.int k3), .val (.ref b68), .val (.int (((k4.toUInt32 >>> ((2 : Int32) &&& 31).toUInt32).toInt32) &&& (3 : Int32))), .val .null, .val (.int (0 : Int32))] [])) _
            refine XS.aload X73.here hx rfl (hb hby at_131) rfl rfl ?_
            show Steps p.tables e below (T73.setTop (mkF m 133 #[.val (.int k0), .val (.int k1), .val (.int k2), .val (.int k3), .val (.int k4), .val (.ref b57), .val (.int k2), .val (.int k3), .val (.ref b68), .val (.int (((k4.toUInt32 >>> ((2 : Int32) &&& 31).toUInt32).toInt32) &&& (3 : Int32))), .val .null, .val (.int (0 : Int32))] [(.ref b57)])) _
            refine XS.aload X73.here hx rfl (hb hby at_133) rfl rfl ?_
            show Steps p.tables e below (T73.setTop (mkF m 135 #[.val (.int k0), .val (.int k1), .val (.int k2), .val (.int k3), .val (.int k4), .val (.ref b57), .val (.int k2), .val (.int k3), .val (.ref b68), .val (.int (((k4.toUInt32 >>> ((2 : Int32) &&& 31).toUInt32).toInt32) &&& (3 : Int32))), .val .null, .val (.int (0 : Int32))] [.null, (.ref b57)])) _
            refine st93.trans ?_
            show Steps p.tables e below (T93.setTop (mkF m 138 #[.val (.int k0), .val (.int k1), .val (.int k2), .val (.int k3), .val (.int k4), .val (.ref b57), .val (.int k2), .val (.int k3), .val (.ref b68), .val (.int (((k4.toUInt32 >>> ((2 : Int32) &&& 31).toUInt32).toInt32) &&& (3 : Int32))), .val .null, .val (.int (0 : Int32))] [(.int (0 : Int32))])) _
            refine XS.iload X93.here hx rfl (hb hby at_138) rfl ?_
            show Steps p.tables e below (T93.setTop (mkF m 140 #[.val (.int k0), .val (.int k1), .val (.int k2), .val (.int k3), .val (.int k4), .val (.ref b57), .val (.int k2), .val (.int k3), .val (.ref b68), .val (.int (((k4.toUInt32 >>> ((2 : Int32) &&& 31).toUInt32).toInt32) &&& (3 : Int32))), .val .null, .val (.int (0 : Int32))] [(.int (0 : Int32)), (.int (0 : Int32))])) _
            refine XS.icmpNo X93.here hx rfl (hb hby at_140) rfl (teq (rfl : (0 : Int32) = (0 : Int32))).2 ?_
            show Steps p.tables e below (T93.setTop (mkF m 143 #[.val (.int k0), .val (.int k1), .val (.int k2), .val (.int k3), .val (.int k4), .val (.ref b57), .val (.int k2), .val (.int k3), .val (.ref b68), .val (.int (((k4.toUInt32 >>> ((2 : Int32) &&& 31).toUInt32).toInt32) &&& (3 : Int32))), .val .null, .val (.int (0 : Int32))] [])) _
            refine XS.iconst X93.here hx rfl (hb hby at_143) ?_
            show Steps p.tables e below (T93.setTop (mkF m 144 #[.val (.int k0), .val (.int k1), .val (.int k2), .val (.int k3), .val (.int k4), .val (.ref b57), .val (.int k2), .val (.int k3), .val (.ref b68), .val (.int (((k4.toUInt32 >>> ((2 : Int32) &&& 31).toUInt32).toInt32) &&& (3 : Int32))), .val .null, .val (.int (0 : Int32))] [(.int (1 : Int32))])) _
            refine XS.goto X93.here hx rfl (pc0 := 144) (pc' := 148) rfl (hb hby at_144) (by decide) (by decide) ?_
            show Steps p.tables e below (T93.setTop (mkF m 148 #[.val (.int k0), .val (.int k1), .val (.int k2), .val (.int k3), .val (.int k4), .val (.ref b57), .val (.int k2), .val (.int k3), .val (.ref b68), .val (.int (((k4.toUInt32 >>> ((2 : Int32) &&& 31).toUInt32).toInt32) &&& (3 : Int32))), .val .null, .val (.int (0 : Int32))] [(.int (1 : Int32))])) _
            exact k_)
          obtain ⟨fs, hr, hrun, hended, hW, hsame⟩ := X93.leave (v := some (.int (1 : Int32))) (fun h => by rw [Bd.returns] at h; cases h)
          refine ⟨_, _, pre94 _ ?_, hrun, hended, _, _, rfl, ?_, ⟨_, rfl⟩, hW, hsame.mono (by decide) (by decide)⟩
          · show Steps p.tables e below (T93.setTop (mkF m 148 #[.val (.int k0), .val (.int k1), .val (.int k2), .val (.int k3), .val (.int k4), .val (.ref b57), .val (.int k2), .val (.int k3), .val (.ref b68), .val (.int (((k4.toUInt32 >>> ((2 : Int32) &&& 31).toUInt32).toInt32) &&& (3 : Int32))), .val .null, .val (.int (0 : Int32))] [(.int (1 : Int32))])) _
            exact retN X93 hx (t := .boolean) Bd.returns (by simp) (hb hby at_148) hr
          · show Q_0 Z k0 k1 k2 k3 k4 w_cache cl_cache bx h0 n0 _ T93.heap _
            rw [e93]
            exact ⟨rfl, N93⟩
        · have pre95 : ∀ t_, Steps p.tables e below (T73.setTop (mkF m 109 #[.val (.int k0), .val (.int k1), .val (.int k2), .val (.int k3), .val (.int k4), .val (.ref b57), .val (.int k2), .val (.int k3), .val (.ref b68), .val (.int (((k4.toUInt32 >>> ((2 : Int32) &&& 31).toUInt32).toInt32) &&& (3 : Int32))), .unset, .unset] [(.int (2 : Int32)), (.int (((k4.toUInt32 >>> ((2 : Int32) &&& 31).toUInt32).toInt32) &&& (3 : Int32)))])) t_ → Steps p.tables e below (s₁.setTop (entryFrame m #[(.int k0), (.int k1), (.int k2), (.int k3), (.int k4)] maxLocals)) t_ := fun t_ k_ => pre91 t_ (by
            show Steps p.tables e below (T73.setTop (mkF m 94 #[.val (.int k0), .val (.int k1), .val (.int k2), .val (.int k3), .val (.int k4), .val (.ref b57), .val (.int k2), .val (.int k3), .val (.ref b68), .val (.int (((k4.toUInt32 >>> ((2 : Int32) &&& 31).toUInt32).toInt32) &&& (3 : Int32))), .unset, .unset] [(.int (1 : Int32)), (.int (((k4.toUInt32 >>> ((2 : Int32) &&& 31).toUInt32).toInt32) &&& (3 : Int32)))])) _
            refine XS.icmpYes X73.here hx rfl (pc0 := 94) (pc' := 106) rfl (hb hby at_94) rfl (feq hc94_92).2 (by decide) (by decide) ?_
            show Steps p.tables e below (T73.setTop (mkF m 106 #[.val (.int k0), .val (.int k1), .val (.int k2), .val (.int k3), .val (.int k4), .val (.ref b57), .val (.int k2), .val (.int k3), .val (.ref b68), .val (.int (((k4.toUInt32 >>> ((2 : Int32) &&& 31).toUInt32).toInt32) &&& (3 : Int32))), .unset, .unset] [])) _
            refine XS.iload X73.here hx rfl (hb hby at_106) rfl ?_
            show Steps p.tables e below (T73.setTop (mkF m 108 #[.val (.int k0), .val (.int k1), .val (.int k2), .val (.int k3), .val (.int k4), .val (.ref b57), .val (.int k2), .val (.int k3), .val (.ref b68), .val (.int (((k4.toUInt32 >>> ((2 : Int32) &&& 31).toUInt32).toInt32) &&& (3 : Int32))), .unset, .unset] [(.int (((k4.toUInt32 >>> ((2 : Int32) &&& 31).toUInt32).toInt32) &&& (3 : Int32)))])) _
            refine XS.iconst X73.here hx rfl (hb hby at_108) ?_
            show Steps p.tables e below (T73.setTop (mkF m 109 #[.val (.int k0), .val (.int k1), .val (.int k2), .val (.int k3), .val (.int k4), .val (.ref b57), .val (.int k2), .val (.int k3), .val (.ref b68), .val (.int (((k4.toUInt32 >>> ((2 : Int32) &&& 31).toUInt32).toInt32) &&& (3 : Int32))), .unset, .unset] [(.int (2 : Int32)), (.int (((k4.toUInt32 >>> ((2 : Int32) &&& 31).toUInt32).toInt32) &&& (3 : Int32)))])) _
            exact k_)
          by_cases hc109_96 : (((k4.toUInt32 >>> ((2 : Int32) &&& 31).toUInt32).toInt32) &&& (3 : Int32)) = (2 : Int32)
          · obtain ⟨v97, _, ⟨T97, L97, k97, n97⟩, -, X97, ⟨Lc97, hQ97, l97, y97, z97⟩, st97⟩ := Jvm.LawKit.callS X73 hx (y := (⟨"java/lang/Integer", "valueOf", "(I)Ljava/lang/Integer;"⟩ : MethodName)) hown (mvT hZ (hw _ (List.mem_of_getElem? (i := 20) rfl))) (mvT hZ (hw _ (List.mem_of_getElem? (i := 21) rfl))) (mvT hZ (hw _ (List.mem_of_getElem? (i := 22) rfl))) (mvT hZ (hw _ (List.mem_of_getElem? (i := 23) rfl))) (by decide) (backOf (W := 0) (rm_valueOf l Z a0 hw [] k0 w_cache cl_cache bx T73.heap n0 Zs74 (S_high.ext O74) (S_cache.ext O74) Bx (own_ext_trans Oz O74)) hZ (hw _ (List.mem_of_getElem? (i := 23) rfl)) (hw _ (List.mem_of_getElem? (i := 22) rfl)) (by decide) (by decide)) (g := (mkF m 113 #[.val (.int k0), .val (.int k1), .val (.int k2), .val (.int k3), .val (.int k4), .val (.ref b57), .val (.int k2), .val (.int k3), .val (.ref b68), .val (.int (((k4.toUInt32 >>> ((2 : Int32) &&& 31).toUInt32).toInt32) &&& (3 : Int32))), .unset, .unset] [(.int k0)])) rfl (by rw [hml]; rfl) (argsL := [(.int k0)]) (rest := []) (lenOf pd_4 rfl) rfl (by show 2 * 0 + _ ≤ _; exact Nat.le_of_eq rfl) (hb hby at_113) (fun _ _ => ⟨rfl, rfl, (by decide : 2 + 1 ≤ _), (by decide : 4 + 1 ≤ _)⟩)
            dsimp only [Pt.U, Pt.locs, Pt.cells, Pt.slots] at X97 l97 y97 z97 st97 hQ97
            subst l97 y97 z97
            obtain ⟨⟨r97, hv97, Er97⟩, N97q, M97⟩ := hQ97
            have N97 := Fr.app N73 N97q
            subst hv97
            have O98 := own_ext_trans O74 M97
            have Zs98 := Nat.le_trans Zs74 (M97).1
            have c99 : Exa Z T97.heap b57 "com/example/fissure/fissure/games/breakable/Hex" := c75.ext M97
            have c100 : Fld Z T97.heap b57 "com/example/fissure/fissure/games/breakable/Hex" "column" "I" (.int k0) := c76.ext M97
            have c101 : Fld Z T97.heap b57 "com/example/fissure/fissure/games/breakable/Hex" "row" "I" (.int k1) := c77.ext M97
            have c102 : Exa Z T97.heap b68 "com/example/fissure/fissure/games/breakable/Hex" := E73x.ext M97
            have c103 : Fld Z T97.heap b68 "com/example/fissure/fissure/games/breakable/Hex" "column" "I" (.int k2) := F73_column.ext M97
            have c104 : Fld Z T97.heap b68 "com/example/fissure/fissure/games/breakable/Hex" "row" "I" (.int k3) := F73_row.ext M97
            obtain ⟨cq105, kq105, q105a, q105b, q105c⟩ := isOf hZ rfl c99
            obtain ⟨v105, _, ⟨T105, L105, k105, n105⟩, -, X105, ⟨Lc105, hQ105, l105, y105, z105⟩, st105⟩ := X97.virtualBack hx (y := (⟨"com/example/fissure/fissure/games/breakable/Hex", "equals", "(Ljava/lang/Object;)Z"⟩ : MethodName)) (z := (⟨"com/example/fissure/fissure/games/breakable/Hex", "equals", "(Ljava/lang/Object;)Z"⟩ : MethodName)) hown (mvT hZ (hw _ (List.mem_of_getElem? (i := 13) rfl))) (mvT hZ (hw _ (List.mem_of_getElem? (i := 14) rfl))) (notFace_of_selects (args := #[]) (mvT hZ (hw _ (List.mem_of_getElem? (i := 16) rfl)))) (mvT hZ (hw _ (List.mem_of_getElem? (i := 16) rfl))) (mvT hZ (hw _ (List.mem_of_getElem? (i := 15) rfl))) (by decide) (backOf (W := 0) (rm_eqI l Z a0 hw [] b57 r97 T97.heap n0 Zs98 Er97) hZ (hw _ (List.mem_of_getElem? (i := 17) rfl)) (hw _ (List.mem_of_getElem? (i := 2) rfl)) (by decide) (by decide)) q105a q105c (g := (mkF m 135 #[.val (.int k0), .val (.int k1), .val (.int k2), .val (.int k3), .val (.int k4), .val (.ref b57), .val (.int k2), .val (.int k3), .val (.ref b68), .val (.int (((k4.toUInt32 >>> ((2 : Int32) &&& 31).toUInt32).toInt32) &&& (3 : Int32))), .val (.ref r97), .val (.int (0 : Int32))] [(.ref r97), (.ref b57)])) rfl (by rw [hml]; rfl) (Steps.refl _) (argsL := [(.ref r97)]) (rest := []) (lenOf pd_3 rfl) rfl (by show 2 * 0 + _ ≤ _; exact Nat.le_of_eq rfl) (hb hby at_135) (fun _ _ => ⟨rfl, rfl, (by decide : 3 + 0 ≤ _), (by decide : 5 + 0 ≤ _)⟩)
            dsimp only [Pt.U, Pt.locs, Pt.cells, Pt.slots] at X105 l105 y105 z105 st105 hQ105
            subst l105 y105 z105
            obtain ⟨hv105, N105q, e105⟩ := hQ105
            have N105 := Fr.app N97 N105q
            subst hv105
            have pre106 : ∀ t_, Steps p.tables e below (T105.setTop (mkF m 148 #[.val (.int k0), .val (.int k1), .val (.int k2), .val (.int k3), .val (.int k4), .val (.ref b57), .val (.int k2), .val (.int k3), .val (.ref b68), .val (.int (((k4.toUInt32 >>> ((2 : Int32) &&& 31).toUInt32).toInt32) &&& (3 : Int32))), .val (.ref r97), .val (.int (0 : Int32))] [(.int (1 : Int32))])) t_ → Steps p.tables e below (s₁.setTop (entryFrame m #[(.int k0), (.int k1), (.int k2), (.int k3), (.int k4)] maxLocals)) t_ := fun t_ k_ => pre95 t_ (by
              show Steps p.tables e below (T73.setTop (mkF m 109 #[.val (.int k0), .val (.int k1), .val (.int k2), .val (.int k3), .val (.int k4), .val (.ref b57), .val (.int k2), .val (.int k3), .val (.ref b68), .val (.int (((k4.toUInt32 >>> ((2 : Int32) &&& 31).toUInt32).toInt32) &&& (3 : Int32))), .unset, .unset] [(.int (2 : Int32)), (.int (((k4.toUInt32 >>> ((2 : Int32) &&& 31).toUInt32).toInt32) &&& (3 : Int32)))])) _
              refine XS.icmpNo X73.here hx rfl (hb hby at_109) rfl (teq hc109_96).2 ?_
              show Steps p.tables e below (T73.setTop (mkF m 112 #[.val (.int k0), .val (.int k1), .val (.int k2), .val (.int k3), .val (.int k4), .val (.ref b57), .val (.int k2), .val (.int k3), .val (.ref b68), .val (.int (((k4.toUInt32 >>> ((2 : Int32) &&& 31).toUInt32).toInt32) &&& (3 : Int32))), .unset, .unset] [])) _
              refine XS.iloadN X73.here hx rfl (hb hby at_112) rfl ?_
              show Steps p.tables e below (T73.setTop (mkF m 113 #[.val (.int k0), .val (.int k1), .val (.int k2), .val (.int k3), .val (.int k4), .val (.ref b57), .val (.int k2), .val (.int k3), .val (.ref b68), .val (.int (((k4.toUInt32 >>> ((2 : Int32) &&& 31).toUInt32).toInt32) &&& (3 : Int32))), .unset, .unset] [(.int k0)])) _
              refine st97 _ ?_
              show Steps p.tables e below (T97.setTop (mkF m 116 #[.val (.int k0), .val (.int k1), .val (.int k2), .val (.int k3), .val (.int k4), .val (.ref b57), .val (.int k2), .val (.int k3), .val (.ref b68), .val (.int (((k4.toUInt32 >>> ((2 : Int32) &&& 31).toUInt32).toInt32) &&& (3 : Int32))), .unset, .unset] [(.ref r97)])) _
              refine XS.astore X97.here hx rfl (hb hby at_116) rfl rfl (l' := #[.val (.int k0), .val (.int k1), .val (.int k2), .val (.int k3), .val (.int k4), .val (.ref b57), .val (.int k2), .val (.int k3), .val (.ref b68), .val (.int (((k4.toUInt32 >>> ((2 : Int32) &&& 31).toUInt32).toInt32) &&& (3 : Int32))), .val (.ref r97), .unset]) rfl ?_
              show Steps p.tables e below (T97.setTop (mkF m 118 #[.val (.int k0), .val (.int k1), .val (.int k2), .val (.int k3), .val (.int k4), .val (.ref b57), .val (.int k2), .val (.int k3), .val (.ref b68), .val (.int (((k4.toUInt32 >>> ((2 : Int32) &&& 31).toUInt32).toInt32) &&& (3 : Int32))), .val (.ref r97), .unset] [])) _
              refine XS.iconst X97.here hx rfl (hb hby at_118) ?_
              show Steps p.tables e below (T97.setTop (mkF m 119 #[.val (.int k0), .val (.int k1), .val (.int k2), .val (.int k3), .val (.int k4), .val (.ref b57), .val (.int k2), .val (.int k3), .val (.ref b68), .val (.int (((k4.toUInt32 >>> ((2 : Int32) &&& 31).toUInt32).toInt32) &&& (3 : Int32))), .val (.ref r97), .unset] [(.int (0 : Int32))])) _
              refine XS.istore X97.here hx rfl (hb hby at_119) rfl (l' := #[.val (.int k0), .val (.int k1), .val (.int k2), .val (.int k3), .val (.int k4), .val (.ref b57), .val (.int k2), .val (.int k3), .val (.ref b68), .val (.int (((k4.toUInt32 >>> ((2 : Int32) &&& 31).toUInt32).toInt32) &&& (3 : Int32))), .val (.ref r97), .val (.int (0 : Int32))]) rfl ?_
              show Steps p.tables e below (T97.setTop (mkF m 121 #[.val (.int k0), .val (.int k1), .val (.int k2), .val (.int k3), .val (.int k4), .val (.ref b57), .val (.int k2), .val (.int k3), .val (.ref b68), .val (.int (((k4.toUInt32 >>> ((2 : Int32) &&& 31).toUInt32).toInt32) &&& (3 : Int32))), .val (.ref r97), .val (.int (0 : Int32))] [])) _
              refine XS.goto X97.here hx rfl (pc0 := 121) (pc' := 131) rfl (hb hby at_121) (by decide) (by decide) ?_
              show Steps p.tables e below (T97.setTop (mkF m 131 #[.val (.int k0), .val (.int k1), .val (.int k2), .val (.int k3), .val (.int k4), .val (.ref b57), .val (.int k2), .val (.int k3), .val (.ref b68), .val (.int (((k4.toUInt32 >>> ((2 : Int32) &&& 31).toUInt32).toInt32) &&& (3 : Int32))), .val (.ref r97), .val (.int (0 : Int32))] [])) _
              refine XS.aload X97.here hx rfl (hb hby at_131) rfl rfl ?_
              show Steps p.tables e below (T97.setTop (mkF m 133 #[.val (.int k0), .val (.int k1), .val (.int k2), .val (.int k3), .val (.int k4), .val (.ref b57), .val (.int k2), .val (.int k3), .val (.ref b68), .val (.int (((k4.toUInt32 >>> ((2 : Int32) &&& 31).toUInt32).toInt32) &&& (3 : Int32))), .val (.ref r97), .val (.int (0 : Int32))] [(.ref b57)])) _
              refine XS.aload X97.here hx rfl (hb hby at_133) rfl rfl ?_
              show Steps p.tables e below (T97.setTop (mkF m 135 #[.val (.int k0), .val (.int k1), .val (.int k2), .val (.int k3), .val (.int k4), .val (.ref b57), .val (.int k2), .val (.int k3), .val (.ref b68), .val (.int (((k4.toUInt32 >>> ((2 : Int32) &&& 31).toUInt32).toInt32) &&& (3 : Int32))), .val (.ref r97), .val (.int (0 : Int32))] [(.ref r97), (.ref b57)])) _
              refine st105.trans ?_
              show Steps p.tables e below (T105.setTop (mkF m 138 #[.val (.int k0), .val (.int k1), .val (.int k2), .val (.int k3), .val (.int k4), .val (.ref b57), .val (.int k2), .val (.int k3), .val (.ref b68), .val (.int (((k4.toUInt32 >>> ((2 : Int32) &&& 31).toUInt32).toInt32) &&& (3 : Int32))), .val (.ref r97), .val (.int (0 : Int32))] [(.int (0 : Int32))])) _
              refine XS.iload X105.here hx rfl (hb hby at_138) rfl ?_
              show Steps p.tables e below (T105.setTop (mkF m 140 #[.val (.int k0), .val (.int k1), .val (.int k2), .val (.int k3), .val (.int k4), .val (.ref b57), .val (.int k2), .val (.int k3), .val (.ref b68), .val (.int (((k4.toUInt32 >>> ((2 : Int32) &&& 31).toUInt32).toInt32) &&& (3 : Int32))), .val (.ref r97), .val (.int (0 : Int32))] [(.int (0 : Int32)), (.int (0 : Int32))])) _
              refine XS.icmpNo X105.here hx rfl (hb hby at_140) rfl (teq (rfl : (0 : Int32) = (0 : Int32))).2 ?_
              show Steps p.tables e below (T105.setTop (mkF m 143 #[.val (.int k0), .val (.int k1), .val (.int k2), .val (.int k3), .val (.int k4), .val (.ref b57), .val (.int k2), .val (.int k3), .val (.ref b68), .val (.int (((k4.toUInt32 >>> ((2 : Int32) &&& 31).toUInt32).toInt32) &&& (3 : Int32))), .val (.ref r97), .val (.int (0 : Int32))] [])) _
              refine XS.iconst X105.here hx rfl (hb hby at_143) ?_
              show Steps p.tables e below (T105.setTop (mkF m 144 #[.val (.int k0), .val (.int k1), .val (.int k2), .val (.int k3), .val (.int k4), .val (.ref b57), .val (.int k2), .val (.int k3), .val (.ref b68), .val (.int (((k4.toUInt32 >>> ((2 : Int32) &&& 31).toUInt32).toInt32) &&& (3 : Int32))), .val (.ref r97), .val (.int (0 : Int32))] [(.int (1 : Int32))])) _
              refine XS.goto X105.here hx rfl (pc0 := 144) (pc' := 148) rfl (hb hby at_144) (by decide) (by decide) ?_
              show Steps p.tables e below (T105.setTop (mkF m 148 #[.val (.int k0), .val (.int k1), .val (.int k2), .val (.int k3), .val (.int k4), .val (.ref b57), .val (.int k2), .val (.int k3), .val (.ref b68), .val (.int (((k4.toUInt32 >>> ((2 : Int32) &&& 31).toUInt32).toInt32) &&& (3 : Int32))), .val (.ref r97), .val (.int (0 : Int32))] [(.int (1 : Int32))])) _
              exact k_)
            obtain ⟨fs, hr, hrun, hended, hW, hsame⟩ := X105.leave (v := some (.int (1 : Int32))) (fun h => by rw [Bd.returns] at h; cases h)
            refine ⟨_, _, pre106 _ ?_, hrun, hended, _, _, rfl, ?_, ⟨_, rfl⟩, hW, hsame.mono (by decide) (by decide)⟩
            · show Steps p.tables e below (T105.setTop (mkF m 148 #[.val (.int k0), .val (.int k1), .val (.int k2), .val (.int k3), .val (.int k4), .val (.ref b57), .val (.int k2), .val (.int k3), .val (.ref b68), .val (.int (((k4.toUInt32 >>> ((2 : Int32) &&& 31).toUInt32).toInt32) &&& (3 : Int32))), .val (.ref r97), .val (.int (0 : Int32))] [(.int (1 : Int32))])) _
              exact retN X105 hx (t := .boolean) Bd.returns (by simp) (hb hby at_148) hr
            · show Q_0 Z k0 k1 k2 k3 k4 w_cache cl_cache bx h0 n0 _ T105.heap _
              rw [e105]
              exact ⟨rfl, N105⟩
          · obtain ⟨cq107, kq107, q107a, q107b, q107c⟩ := isOf hZ rfl c75
            obtain ⟨v107, _, ⟨T107, L107, k107, n107⟩, -, X107, ⟨Lc107, hQ107, l107, y107, z107⟩, st107⟩ := X73.virtualBack hx (y := (⟨"com/example/fissure/fissure/games/breakable/Hex", "equals", "(Ljava/lang/Object;)Z"⟩ : MethodName)) (z := (⟨"com/example/fissure/fissure/games/breakable/Hex", "equals", "(Ljava/lang/Object;)Z"⟩ : MethodName)) hown (mvT hZ (hw _ (List.mem_of_getElem? (i := 13) rfl))) (mvT hZ (hw _ (List.mem_of_getElem? (i := 14) rfl))) (notFace_of_selects (args := #[]) (mvT hZ (hw _ (List.mem_of_getElem? (i := 16) rfl)))) (mvT hZ (hw _ (List.mem_of_getElem? (i := 16) rfl))) (mvT hZ (hw _ (List.mem_of_getElem? (i := 15) rfl))) (by decide) (backOf (W := 0) (rm_eqC l Z a0 hw [] b57 b57 k0 k1 k0 k1 T73.heap n0 Zs74 c75 c76 c77 c76 c77) hZ (hw _ (List.mem_of_getElem? (i := 17) rfl)) (hw _ (List.mem_of_getElem? (i := 2) rfl)) (by decide) (by decide)) q107a q107c (g := (mkF m 135 #[.val (.int k0), .val (.int k1), .val (.int k2), .val (.int k3), .val (.int k4), .val (.ref b57), .val (.int k2), .val (.int k3), .val (.ref b68), .val (.int (((k4.toUInt32 >>> ((2 : Int32) &&& 31).toUInt32).toInt32) &&& (3 : Int32))), .val (.ref b57), .val (.int (1 : Int32))] [(.ref b57), (.ref b57)])) rfl (by rw [hml]; rfl) (Steps.refl _) (argsL := [(.ref b57)]) (rest := []) (lenOf pd_3 rfl) rfl (by show 2 * 0 + _ ≤ _; exact Nat.le_of_eq rfl) (hb hby at_135) (fun _ _ => ⟨rfl, rfl, (by decide : 2 + 0 ≤ _), (by decide : 4 + 0 ≤ _)⟩)
            dsimp only [Pt.U, Pt.locs, Pt.cells, Pt.slots] at X107 l107 y107 z107 st107 hQ107
            subst l107 y107 z107
            obtain ⟨hv107, N107q, e107⟩ := hQ107
            have N107 := Fr.app N73 N107q
            have hw107 : v107 = some (.int (1 : Int32)) := hv107.trans (congrArg (fun z => some (Value.int z)) (own_self _ _))
            subst hw107
            have pre108 : ∀ t_, Steps p.tables e below (T107.setTop (mkF m 148 #[.val (.int k0), .val (.int k1), .val (.int k2), .val (.int k3), .val (.int k4), .val (.ref b57), .val (.int k2), .val (.int k3), .val (.ref b68), .val (.int (((k4.toUInt32 >>> ((2 : Int32) &&& 31).toUInt32).toInt32) &&& (3 : Int32))), .val (.ref b57), .val (.int (1 : Int32))] [(.int (1 : Int32))])) t_ → Steps p.tables e below (s₁.setTop (entryFrame m #[(.int k0), (.int k1), (.int k2), (.int k3), (.int k4)] maxLocals)) t_ := fun t_ k_ => pre95 t_ (by
              show Steps p.tables e below (T73.setTop (mkF m 109 #[.val (.int k0), .val (.int k1), .val (.int k2), .val (.int k3), .val (.int k4), .val (.ref b57), .val (.int k2), .val (.int k3), .val (.ref b68), .val (.int (((k4.toUInt32 >>> ((2 : Int32) &&& 31).toUInt32).toInt32) &&& (3 : Int32))), .unset, .unset] [(.int (2 : Int32)), (.int (((k4.toUInt32 >>> ((2 : Int32) &&& 31).toUInt32).toInt32) &&& (3 : Int32)))])) _
              refine XS.icmpYes X73.here hx rfl (pc0 := 109) (pc' := 124) rfl (hb hby at_109) rfl (feq hc109_96).2 (by decide) (by decide) ?_
              show Steps p.tables e below (T73.setTop (mkF m 124 #[.val (.int k0), .val (.int k1), .val (.int k2), .val (.int k3), .val (.int k4), .val (.ref b57), .val (.int k2), .val (.int k3), .val (.ref b68), .val (.int (((k4.toUInt32 >>> ((2 : Int32) &&& 31).toUInt32).toInt32) &&& (3 : Int32))), .unset, .unset] [])) _
              refine XS.aload X73.here hx rfl (hb hby at_124) rfl rfl ?_
              show Steps p.tables e below (T73.setTop (mkF m 126 #[.val (.int k0), .val (.int k1), .val (.int k2), .val (.int k3), .val (.int k4), .val (.ref b57), .val (.int k2), .val (.int k3), .val (.ref b68), .val (.int (((k4.toUInt32 >>> ((2 : Int32) &&& 31).toUInt32).toInt32) &&& (3 : Int32))), .unset, .unset] [(.ref b57)])) _
              refine XS.astore X73.here hx rfl (hb hby at_126) rfl rfl (l' := #[.val (.int k0), .val (.int k1), .val (.int k2), .val (.int k3), .val (.int k4), .val (.ref b57), .val (.int k2), .val (.int k3), .val (.ref b68), .val (.int (((k4.toUInt32 >>> ((2 : Int32) &&& 31).toUInt32).toInt32) &&& (3 : Int32))), .val (.ref b57), .unset]) rfl ?_
              show Steps p.tables e below (T73.setTop (mkF m 128 #[.val (.int k0), .val (.int k1), .val (.int k2), .val (.int k3), .val (.int k4), .val (.ref b57), .val (.int k2), .val (.int k3), .val (.ref b68), .val (.int (((k4.toUInt32 >>> ((2 : Int32) &&& 31).toUInt32).toInt32) &&& (3 : Int32))), .val (.ref b57), .unset] [])) _
              refine XS.iconst X73.here hx rfl (hb hby at_128) ?_
              show Steps p.tables e below (T73.setTop (mkF m 129 #[.val (.int k0), .val (.int k1), .val (.int k2), .val (.int k3), .val (.int k4), .val (.ref b57), .val (.int k2), .val (.int k3), .val (.ref b68), .val (.int (((k4.toUInt32 >>> ((2 : Int32) &&& 31).toUInt32).toInt32) &&& (3 : Int32))), .val (.ref b57), .unset] [(.int (1 : Int32))])) _
              refine XS.istore X73.here hx rfl (hb hby at_129) rfl (l' := #[.val (.int k0), .val (.int k1), .val (.int k2), .val (.int k3), .val (.int k4), .val (.ref b57), .val (.int k2), .val (.int k3), .val (.ref b68), .val (.int (((k4.toUInt32 >>> ((2 : Int32) &&& 31).toUInt32).toInt32) &&& (3 : Int32))), .val (.ref b57), .val (.int (1 : Int32))]) rfl ?_
              show Steps p.tables e below (T73.setTop (mkF m 131 #[.val (.int k0), .val (.int k1), .val (.int k2), .val (.int k3), .val (.int k4), .val (.ref b57), .val (.int k2), .val (.int k3), .val (.ref b68), .val (.int (((k4.toUInt32 >>> ((2 : Int32) &&& 31).toUInt32).toInt32) &&& (3 : Int32))), .val (.ref b57), .val (.int (1 : Int32))] [])) _
              refine XS.aload X73.here hx rfl (hb hby at_131) rfl rfl ?_
              show Steps p.tables e below (T73.setTop (mkF m 133 #[.val (.int k0), .val (.int k1), .val (.int k2), .val (.int k3), .val (.int k4), .val (.ref b57), .val (.int k2), .val (.int k3), .val (.ref b68), .val (.int (((k4.toUInt32 >>> ((2 : Int32) &&& 31).toUInt32).toInt32) &&& (3 : Int32))), .val (.ref b57), .val (.int (1 : Int32))] [(.ref b57)])) _
              refine XS.aload X73.here hx rfl (hb hby at_133) rfl rfl ?_
              show Steps p.tables e below (T73.setTop (mkF m 135 #[.val (.int k0), .val (.int k1), .val (.int k2), .val (.int k3), .val (.int k4), .val (.ref b57), .val (.int k2), .val (.int k3), .val (.ref b68), .val (.int (((k4.toUInt32 >>> ((2 : Int32) &&& 31).toUInt32).toInt32) &&& (3 : Int32))), .val (.ref b57), .val (.int (1 : Int32))] [(.ref b57), (.ref b57)])) _
              refine st107.trans ?_
              show Steps p.tables e below (T107.setTop (mkF m 138 #[.val (.int k0), .val (.int k1), .val (.int k2), .val (.int k3), .val (.int k4), .val (.ref b57), .val (.int k2), .val (.int k3), .val (.ref b68), .val (.int (((k4.toUInt32 >>> ((2 : Int32) &&& 31).toUInt32).toInt32) &&& (3 : Int32))), .val (.ref b57), .val (.int (1 : Int32))] [(.int (1 : Int32))])) _
              refine XS.iload X107.here hx rfl (hb hby at_138) rfl ?_
              show Steps p.tables e below (T107.setTop (mkF m 140 #[.val (.int k0), .val (.int k1), .val (.int k2), .val (.int k3), .val (.int k4), .val (.ref b57), .val (.int k2), .val (.int k3), .val (.ref b68), .val (.int (((k4.toUInt32 >>> ((2 : Int32) &&& 31).toUInt32).toInt32) &&& (3 : Int32))), .val (.ref b57), .val (.int (1 : Int32))] [(.int (1 : Int32)), (.int (1 : Int32))])) _
              refine XS.icmpNo X107.here hx rfl (hb hby at_140) rfl (teq (rfl : (1 : Int32) = (1 : Int32))).2 ?_
              show Steps p.tables e below (T107.setTop (mkF m 143 #[.val (.int k0), .val (.int k1), .val (.int k2), .val (.int k3), .val (.int k4), .val (.ref b57), .val (.int k2), .val (.int k3), .val (.ref b68), .val (.int (((k4.toUInt32 >>> ((2 : Int32) &&& 31).toUInt32).toInt32) &&& (3 : Int32))), .val (.ref b57), .val (.int (1 : Int32))] [])) _
              refine XS.iconst X107.here hx rfl (hb hby at_143) ?_
              show Steps p.tables e below (T107.setTop (mkF m 144 #[.val (.int k0), .val (.int k1), .val (.int k2), .val (.int k3), .val (.int k4), .val (.ref b57), .val (.int k2), .val (.int k3), .val (.ref b68), .val (.int (((k4.toUInt32 >>> ((2 : Int32) &&& 31).toUInt32).toInt32) &&& (3 : Int32))), .val (.ref b57), .val (.int (1 : Int32))] [(.int (1 : Int32))])) _
              refine XS.goto X107.here hx rfl (pc0 := 144) (pc' := 148) rfl (hb hby at_144) (by decide) (by decide) ?_
              show Steps p.tables e below (T107.setTop (mkF m 148 #[.val (.int k0), .val (.int k1), .val (.int k2), .val (.int k3), .val (.int k4), .val (.ref b57), .val (.int k2), .val (.int k3), .val (.ref b68), .val (.int (((k4.toUInt32 >>> ((2 : Int32) &&& 31).toUInt32).toInt32) &&& (3 : Int32))), .val (.ref b57), .val (.int (1 : Int32))] [(.int (1 : Int32))])) _
              exact k_)
            obtain ⟨fs, hr, hrun, hended, hW, hsame⟩ := X107.leave (v := some (.int (1 : Int32))) (fun h => by rw [Bd.returns] at h; cases h)
            refine ⟨_, _, pre108 _ ?_, hrun, hended, _, _, rfl, ?_, ⟨_, rfl⟩, hW, hsame.mono (by decide) (by decide)⟩
            · show Steps p.tables e below (T107.setTop (mkF m 148 #[.val (.int k0), .val (.int k1), .val (.int k2), .val (.int k3), .val (.int k4), .val (.ref b57), .val (.int k2), .val (.int k3), .val (.ref b68), .val (.int (((k4.toUInt32 >>> ((2 : Int32) &&& 31).toUInt32).toInt32) &&& (3 : Int32))), .val (.ref b57), .val (.int (1 : Int32))] [(.int (1 : Int32))])) _
              exact retN X107 hx (t := .boolean) Bd.returns (by simp) (hb hby at_148) hr
            · show Q_0 Z k0 k1 k2 k3 k4 w_cache cl_cache bx h0 n0 _ T107.heap _
              rw [e107]
              exact ⟨rfl, N107⟩
    · obtain ⟨T109, h109, X109, e109, E109, A109, D109, -, st109⟩ := newO X61 hx hZ hown (hw _ (List.mem_of_getElem? (i := 0) rfl)) (hw _ (List.mem_of_getElem? (i := 1) rfl)) (hw _ (List.mem_of_getElem? (i := 2) rfl)) rfl (g := (mkF m 39 #[.val (.int k0), .val (.int k1), .val (.int k2), .val (.int k3), .val (.int k4), .val (.ref b57), .val (.int k2), .val (.int k1), .unset, .unset, .unset, .unset] [])) rfl (hb hby at_39) (by decide) (by decide)
      obtain ⟨b109, g109⟩ : ∃ z, z = T61.heap.size := ⟨_, rfl⟩
      rw [← g109] at A109 D109 st109
      have ne_b57_b109 : b57 ≠ b109 := Nat.ne_of_lt (Nat.lt_of_lt_of_le E61x.lt (Nat.le_of_eq g109.symm))
      have gg_b109 : n0 ≤ b109 := Nat.le_trans Zs62 (Nat.le_of_eq g109.symm)
      have sz_b109 : h0.size ≤ b109 := Nat.le_trans O62.1 (Nat.le_of_eq g109.symm)
      have O110 := own_ext_trans O62 E109
      have Zs110 := Nat.le_trans Zs62 (E109).1
      have c111 : Exa Z h109 b57 "com/example/fissure/fissure/games/breakable/Hex" := E61x.ext E109
      have c112 : Fld Z h109 b57 "com/example/fissure/fissure/games/breakable/Hex" "column" "I" (.int k0) := F61_column.ext E109
      have c113 : Fld Z h109 b57 "com/example/fissure/fissure/games/breakable/Hex" "row" "I" (.int k1) := F61_row.ext E109
      have F109_column : Fld Z h109 b109 "com/example/fissure/fissure/games/breakable/Hex" "column" "I" (.int (0 : Int32)) := D109 (Or.inr (hw _ (List.mem_of_getElem? (i := 10) rfl))) (ty := .int) (by decide)
      have F109_row : Fld Z h109 b109 "com/example/fissure/fissure/games/breakable/Hex" "row" "I" (.int (0 : Int32)) := D109 (Or.inr (hw _ (List.mem_of_getElem? (i := 12) rfl))) (ty := .int) (by decide)
      obtain ⟨v114, _, ⟨T114, L114, k114, n114⟩, -, X114, ⟨Lc114, hQ114, l114, y114, z114⟩, st114⟩ := X109.specialBack hx (y := (⟨"com/example/fissure/fissure/games/breakable/Hex", "<init>", "(II)V"⟩ : MethodName)) rfl hown (mvT hZ (hw _ (List.mem_of_getElem? (i := 3) rfl))) (mvT hZ (hw _ (List.mem_of_getElem? (i := 4) rfl))) (mvT hZ (hw _ (List.mem_of_getElem? (i := 5) rfl))) (by decide) (backOf (W := 1) (rm_init l Z a0 hw [] b109 k2 k1 (.int (0 : Int32)) (.int (0 : Int32)) h109 n0 Zs110 A109 gg_b109 F109_column F109_row) hZ (hw _ (List.mem_of_getElem? (i := 5) rfl)) (hw _ (List.mem_of_getElem? (i := 2) rfl)) (by decide) (by decide)) (g := (mkF m 47 #[.val (.int k0), .val (.int k1), .val (.int k2), .val (.int k3), .val (.int k4), .val (.ref b57), .val (.int k2), .val (.int k1), .unset, .unset, .unset, .unset] [(.int k1), (.int k2), (.ref b109), (.ref b109)])) rfl (by rw [hml]; rfl) (Steps.refl _) (a := b109) (argsL := [(.int k2), (.int k1)]) (rest := [(.ref b109)]) (lenOf pd_2 rfl) rfl (by show 2 * 0 + _ ≤ _; exact Nat.le_of_eq rfl) (hb hby at_47) (fun _ _ => ⟨rfl, e109, (by decide : 2 + 0 ≤ _), (by decide : 4 + 0 ≤ _)⟩)
      dsimp only [Pt.U, Pt.locs, Pt.cells, Pt.slots] at X114 l114 y114 z114 st114 hQ114
      subst l114 y114 z114
      obtain ⟨hv114, N114q, M114⟩ := hQ114
      have N114 := Fr.app N61 N114q
      subst hv114
      obtain ⟨K114k, E114x, F114_column, F114_row⟩ := M114
      have O115 := own_ext_keep O110 K114k (allS sz_b109 all0)
      have Zs115 := Nat.le_trans Zs110 K114k.1
      have c116 : Exa Z T114.heap b57 "com/example/fissure/fissure/games/breakable/Hex" := c111.keep K114k
      have c117 : Fld Z T114.heap b57 "com/example/fissure/fissure/games/breakable/Hex" "column" "I" (.int k0) := c112.keep K114k (ninS ne_b57_b109 nin0)
      have c118 : Fld Z T114.heap b57 "com/example/fissure/fissure/games/breakable/Hex" "row" "I" (.int k1) := c113.keep K114k (ninS ne_b57_b109 nin0)
      have c119 : Exa Z T114.heap b109 "com/example/fissure/fissure/games/breakable/Hex" := A109.keep K114k
      have pre120 : ∀ t_, Steps p.tables e below (T114.setTop (mkF m 62 #[.val (.int k0), .val (.int k1), .val (.int k2), .val (.int k3), .val (.int k4), .val (.ref b57), .val (.int k2), .val (.int k1), .val (.ref b109), .val (.int (((k4.toUInt32 >>> ((2 : Int32) &&& 31).toUInt32).toInt32) &&& (3 : Int32))), .unset, .unset] [(.int (((k4.toUInt32 >>> ((2 : Int32) &&& 31).toUInt32).toInt32) &&& (3 : Int32)))])) t_ → Steps p.tables e below (s₁.setTop (entryFrame m #[(.int k0), (.int k1), (.int k2), (.int k3), (.int k4)] maxLocals)) t_ := fun t_ k_ => pre66 t_ (by
        show Steps p.tables e below (T61.setTop (mkF m 29 #[.val (.int k0), .val (.int k1), .val (.int k2), .val (.int k3), .val (.int k4), .val (.ref b57), .val (.int k2), .unset, .unset, .unset, .unset, .unset] [(.int (k4 &&& (2 : Int32)))])) _
        refine XS.ifNo X61.here hx rfl (hb hby at_29) rfl ((if0 _ _).trans (feq hc29_67).1) ?_
        show Steps p.tables e below (T61.setTop (mkF m 32 #[.val (.int k0), .val (.int k1), .val (.int k2), .val (.int k3), .val (.int k4), .val (.ref b57), .val (.int k2), .unset, .unset, .unset, .unset, .unset] [])) _
        refine XS.iloadN X61.here hx rfl (hb hby at_32) rfl ?_
        show Steps p.tables e below (T61.setTop (mkF m 33 #[.val (.int k0), .val (.int k1), .val (.int k2), .val (.int k3), .val (.int k4), .val (.ref b57), .val (.int k2), .unset, .unset, .unset, .unset, .unset] [(.int k1)])) _
        refine XS.goto X61.here hx rfl (pc0 := 33) (pc' := 37) rfl (hb hby at_33) (by decide) (by decide) ?_
        show Steps p.tables e below (T61.setTop (mkF m 37 #[.val (.int k0), .val (.int k1), .val (.int k2), .val (.int k3), .val (.int k4), .val (.ref b57), .val (.int k2), .unset, .unset, .unset, .unset, .unset] [(.int k1)])) _
        refine XS.istore X61.here hx rfl (hb hby at_37) rfl (l' := #[.val (.int k0), .val (.int k1), .val (.int k2), .val (.int k3), .val (.int k4), .val (.ref b57), .val (.int k2), .val (.int k1), .unset, .unset, .unset, .unset]) rfl ?_
        show Steps p.tables e below (T61.setTop (mkF m 39 #[.val (.int k0), .val (.int k1), .val (.int k2), .val (.int k3), .val (.int k4), .val (.ref b57), .val (.int k2), .val (.int k1), .unset, .unset, .unset, .unset] [])) _
        refine st109 _ ?_
        show Steps p.tables e below (T109.setTop (mkF m 42 #[.val (.int k0), .val (.int k1), .val (.int k2), .val (.int k3), .val (.int k4), .val (.ref b57), .val (.int k2), .val (.int k1), .unset, .unset, .unset, .unset] [(.ref b109)])) _
        refine XS.dup X109.here hx rfl (hb hby at_42) rfl rfl ?_
        show Steps p.tables e below (T109.setTop (mkF m 43 #[.val (.int k0), .val (.int k1), .val (.int k2), .val (.int k3), .val (.int k4), .val (.ref b57), .val (.int k2), .val (.int k1), .unset, .unset, .unset, .unset] [(.ref b109), (.ref b109)])) _
        refine XS.iload X109.here hx rfl (hb hby at_43) rfl ?_
        show Steps p.tables e below (T109.setTop (mkF m 45 #[.val (.int k0), .val (.int k1), .val (.int k2), .val (.int k3), .val (.int k4), .val (.ref b57), .val (.int k2), .val (.int k1), .unset, .unset, .unset, .unset] [(.int k2), (.ref b109), (.ref b109)])) _
        refine XS.iload X109.here hx rfl (hb hby at_45) rfl ?_
        show Steps p.tables e below (T109.setTop (mkF m 47 #[.val (.int k0), .val (.int k1), .val (.int k2), .val (.int k3), .val (.int k4), .val (.ref b57), .val (.int k2), .val (.int k1), .unset, .unset, .unset, .unset] [(.int k1), (.int k2), (.ref b109), (.ref b109)])) _
        refine st114.trans ?_
        show Steps p.tables e below (T114.setTop (mkF m 50 #[.val (.int k0), .val (.int k1), .val (.int k2), .val (.int k3), .val (.int k4), .val (.ref b57), .val (.int k2), .val (.int k1), .unset, .unset, .unset, .unset] [(.ref b109)])) _
        refine XS.astore X114.here hx rfl (hb hby at_50) rfl rfl (l' := #[.val (.int k0), .val (.int k1), .val (.int k2), .val (.int k3), .val (.int k4), .val (.ref b57), .val (.int k2), .val (.int k1), .val (.ref b109), .unset, .unset, .unset]) rfl ?_
        show Steps p.tables e below (T114.setTop (mkF m 52 #[.val (.int k0), .val (.int k1), .val (.int k2), .val (.int k3), .val (.int k4), .val (.ref b57), .val (.int k2), .val (.int k1), .val (.ref b109), .unset, .unset, .unset] [])) _
        refine XS.iload X114.here hx rfl (hb hby at_52) rfl ?_
        show Steps p.tables e below (T114.setTop (mkF m 54 #[.val (.int k0), .val (.int k1), .val (.int k2), .val (.int k3), .val (.int k4), .val (.ref b57), .val (.int k2), .val (.int k1), .val (.ref b109), .unset, .unset, .unset] [(.int k4)])) _
        refine XS.iconst X114.here hx rfl (hb hby at_54) ?_
        show Steps p.tables e below (T114.setTop (mkF m 55 #[.val (.int k0), .val (.int k1), .val (.int k2), .val (.int k3), .val (.int k4), .val (.ref b57), .val (.int k2), .val (.int k1), .val (.ref b109), .unset, .unset, .unset] [(.int (2 : Int32)), (.int k4)])) _
        refine XS.iushr X114.here hx rfl (hb hby at_55) rfl ?_
        show Steps p.tables e below (T114.setTop (mkF m 56 #[.val (.int k0), .val (.int k1), .val (.int k2), .val (.int k3), .val (.int k4), .val (.ref b57), .val (.int k2), .val (.int k1), .val (.ref b109), .unset, .unset, .unset] [(.int ((k4.toUInt32 >>> ((2 : Int32) &&& 31).toUInt32).toInt32))])) _
        refine XS.iconst X114.here hx rfl (hb hby at_56) ?_
        show Steps p.tables e below (T114.setTop (mkF m 57 #[.val (.int k0), .val (.int k1), .val (.int k2), .val (.int k3), .val (.int k4), .val (.ref b57), .val (.int k2), .val (.int k1), .val (.ref b109), .unset, .unset, .unset] [(.int (3 : Int32)), (.int ((k4.toUInt32 >>> ((2 : Int32) &&& 31).toUInt32).toInt32))])) _
        refine XS.iand X114.here hx rfl (hb hby at_57) rfl ?_
        show Steps p.tables e below (T114.setTop (mkF m 58 #[.val (.int k0), .val (.int k1), .val (.int k2), .val (.int k3), .val (.int k4), .val (.ref b57), .val (.int k2), .val (.int k1), .val (.ref b109), .unset, .unset, .unset] [(.int (((k4.toUInt32 >>> ((2 : Int32) &&& 31).toUInt32).toInt32) &&& (3 : Int32)))])) _
        refine XS.istore X114.here hx rfl (hb hby at_58) rfl (l' := #[.val (.int k0), .val (.int k1), .val (.int k2), .val (.int k3), .val (.int k4), .val (.ref b57), .val (.int k2), .val (.int k1), .val (.ref b109), .val (.int (((k4.toUInt32 >>> ((2 : Int32) &&& 31).toUInt32).toInt32) &&& (3 : Int32))), .unset, .unset]) rfl ?_
        show Steps p.tables e below (T114.setTop (mkF m 60 #[.val (.int k0), .val (.int k1), .val (.int k2), .val (.int k3), .val (.int k4), .val (.ref b57), .val (.int k2), .val (.int k1), .val (.ref b109), .val (.int (((k4.toUInt32 >>> ((2 : Int32) &&& 31).toUInt32).toInt32) &&& (3 : Int32))), .unset, .unset] [])) _
        refine XS.iload X114.here hx rfl (hb hby at_60) rfl ?_
        show Steps p.tables e below (T114.setTop (mkF m 62 #[.val (.int k0), .val (.int k1), .val (.int k2), .val (.int k3), .val (.int k4), .val (.ref b57), .val (.int k2), .val (.int k1), .val (.ref b109), .val (.int (((k4.toUInt32 >>> ((2 : Int32) &&& 31).toUInt32).toInt32) &&& (3 : Int32))), .unset, .unset] [(.int (((k4.toUInt32 >>> ((2 : Int32) &&& 31).toUInt32).toInt32) &&& (3 : Int32)))])) _
        exact k_)
      by_cases hc62_121 : (((k4.toUInt32 >>> ((2 : Int32) &&& 31).toUInt32).toInt32) &&& (3 : Int32)) = (0 : Int32)
      · have pre122 : ∀ t_, Steps p.tables e below (T114.setTop (mkF m 72 #[.val (.int k0), .val (.int k1), .val (.int k2), .val (.int k3), .val (.int k4), .val (.ref b57), .val (.int k2), .val (.int k1), .val (.ref b109), .val (.int (((k4.toUInt32 >>> ((2 : Int32) &&& 31).toUInt32).toInt32) &&& (3 : Int32))), .val (.ref b109), .unset] [(.int k2), (.int k0)])) t_ → Steps p.tables e below (s₁.setTop (entryFrame m #[(.int k0), (.int k1), (.int k2), (.int k3), (.int k4)] maxLocals)) t_ := fun t_ k_ => pre120 t_ (by
          show Steps p.tables e below (T114.setTop (mkF m 62 #[.val (.int k0), .val (.int k1), .val (.int k2), .val (.int k3), .val (.int k4), .val (.ref b57), .val (.int k2), .val (.int k1), .val (.ref b109), .val (.int (((k4.toUInt32 >>> ((2 : Int32) &&& 31).toUInt32).toInt32) &&& (3 : Int32))), .unset, .unset] [(.int (((k4.toUInt32 >>> ((2 : Int32) &&& 31).toUInt32).toInt32) &&& (3 : Int32)))])) _
          refine XS.ifNo X114.here hx rfl (hb hby at_62) rfl ((if0 _ _).trans (teq hc62_121).2) ?_
          show Steps p.tables e below (T114.setTop (mkF m 65 #[.val (.int k0), .val (.int k1), .val (.int k2), .val (.int k3), .val (.int k4), .val (.ref b57), .val (.int k2), .val (.int k1), .val (.ref b109), .val (.int (((k4.toUInt32 >>> ((2 : Int32) &&& 31).toUInt32).toInt32) &&& (3 : Int32))), .unset, .unset] [])) _
          refine XS.aload X114.here hx rfl (hb hby at_65) rfl rfl ?_
          show Steps p.tables e below (T114.setTop (mkF m 67 #[.val (.int k0), .val (.int k1), .val (.int k2), .val (.int k3), .val (.int k4), .val (.ref b57), .val (.int k2), .val (.int k1), .val (.ref b109), .val (.int (((k4.toUInt32 >>> ((2 : Int32) &&& 31).toUInt32).toInt32) &&& (3 : Int32))), .unset, .unset] [(.ref b109)])) _
          refine XS.astore X114.here hx rfl (hb hby at_67) rfl rfl (l' := #[.val (.int k0), .val (.int k1), .val (.int k2), .val (.int k3), .val (.int k4), .val (.ref b57), .val (.int k2), .val (.int k1), .val (.ref b109), .val (.int (((k4.toUInt32 >>> ((2 : Int32) &&& 31).toUInt32).toInt32) &&& (3 : Int32))), .val (.ref b109), .unset]) rfl ?_
          show Steps p.tables e below (T114.setTop (mkF m 69 #[.val (.int k0), .val (.int k1), .val (.int k2), .val (.int k3), .val (.int k4), .val (.ref b57), .val (.int k2), .val (.int k1), .val (.ref b109), .val (.int (((k4.toUInt32 >>> ((2 : Int32) &&& 31).toUInt32).toInt32) &&& (3 : Int32))), .val (.ref b109), .unset] [])) _
          refine XS.iloadN X114.here hx rfl (hb hby at_69) rfl ?_
          show Steps p.tables e below (T114.setTop (mkF m 70 #[.val (.int k0), .val (.int k1), .val (.int k2), .val (.int k3), .val (.int k4), .val (.ref b57), .val (.int k2), .val (.int k1), .val (.ref b109), .val (.int (((k4.toUInt32 >>> ((2 : Int32) &&& 31).toUInt32).toInt32) &&& (3 : Int32))), .val (.ref b109), .unset] [(.int k0)])) _
          refine XS.iload X114.here hx rfl (hb hby at_70) rfl ?_
          show Steps p.tables e below (T114.setTop (mkF m 72 #[.val (.int k0), .val (.int k1), .val (.int k2), .val (.int k3), .val (.int k4), .val (.ref b57), .val (.int k2), .val (.int k1), .val (.ref b109), .val (.int (((k4.toUInt32 >>> ((2 : Int32) &&& 31).toUInt32).toInt32) &&& (3 : Int32))), .val (.ref b109), .unset] [(.int k2), (.int k0)])) _
          exact k_)
        by_cases hc72_123 : k0 = k2
        · obtain ⟨cq124, kq124, q124a, q124b, q124c⟩ := isOf hZ rfl c116
          obtain ⟨v124, _, ⟨T124, L124, k124, n124⟩, -, X124, ⟨Lc124, hQ124, l124, y124, z124⟩, st124⟩ := X114.virtualBack hx (y := (⟨"com/example/fissure/fissure/games/breakable/Hex", "equals", "(Ljava/lang/Object;)Z"⟩ : MethodName)) (z := (⟨"com/example/fissure/fissure/games/breakable/Hex", "equals", "(Ljava/lang/Object;)Z"⟩ : MethodName)) hown (mvT hZ (hw _ (List.mem_of_getElem? (i := 13) rfl))) (mvT hZ (hw _ (List.mem_of_getElem? (i := 14) rfl))) (notFace_of_selects (args := #[]) (mvT hZ (hw _ (List.mem_of_getElem? (i := 16) rfl)))) (mvT hZ (hw _ (List.mem_of_getElem? (i := 16) rfl))) (mvT hZ (hw _ (List.mem_of_getElem? (i := 15) rfl))) (by decide) (backOf (W := 0) (rm_eqC l Z a0 hw [] b57 b109 k0 k1 k2 k1 T114.heap n0 Zs115 E114x c117 c118 F114_column F114_row) hZ (hw _ (List.mem_of_getElem? (i := 17) rfl)) (hw _ (List.mem_of_getElem? (i := 2) rfl)) (by decide) (by decide)) q124a q124c (g := (mkF m 135 #[.val (.int k0), .val (.int k1), .val (.int k2), .val (.int k3), .val (.int k4), .val (.ref b57), .val (.int k2), .val (.int k1), .val (.ref b109), .val (.int (((k4.toUInt32 >>> ((2 : Int32) &&& 31).toUInt32).toInt32) &&& (3 : Int32))), .val (.ref b109), .val (.int (1 : Int32))] [(.ref b109), (.ref b57)])) rfl (by rw [hml]; rfl) (Steps.refl _) (argsL := [(.ref b109)]) (rest := []) (lenOf pd_3 rfl) rfl (by show 2 * 0 + _ ≤ _; exact Nat.le_of_eq rfl) (hb hby at_135) (fun _ _ => ⟨rfl, rfl, (by decide : 2 + 0 ≤ _), (by decide : 4 + 0 ≤ _)⟩)
          dsimp only [Pt.U, Pt.locs, Pt.cells, Pt.slots] at X124 l124 y124 z124 st124 hQ124
          subst l124 y124 z124
          obtain ⟨hv124, N124q, e124⟩ := hQ124
          have N124 := Fr.app N114 N124q
          have hw124 : v124 = some (.int (1 : Int32)) := hv124.trans (congrArg (fun z => some (Value.int z)) (own_yes hc72_123 rfl))
          subst hw124
          have pre125 : ∀ t_, Steps p.tables e below (T124.setTop (mkF m 148 #[.val (.int k0), .val (.int k1), .val (.int k2), .val (.int k3), .val (.int k4), .val (.ref b57), .val (.int k2), .val (.int k1), .val (.ref b109), .val (.int (((k4.toUInt32 >>> ((2 : Int32) &&& 31).toUInt32).toInt32) &&& (3 : Int32))), .val (.ref b109), .val (.int (1 : Int32))] [(.int (1 : Int32))])) t_ → Steps p.tables e below (s₁.setTop (entryFrame m #[(.int k0), (.int k1), (.int k2), (.int k3), (.int k4)] maxLocals)) t_ := fun t_ k_ => pre122 t_ (by
            show Steps p.tables e below (T114.setTop (mkF m 72 #[.val (.int k0), .val (.int k1), .val (.int k2), .val (.int k3), .val (.int k4), .val (.ref b57), .val (.int k2), .val (.int k1), .val (.ref b109), .val (.int (((k4.toUInt32 >>> ((2 : Int32) &&& 31).toUInt32).toInt32) &&& (3 : Int32))), .val (.ref b109), .unset] [(.int k2), (.int k0)])) _
            refine XS.icmpNo X114.here hx rfl (hb hby at_72) rfl (teq hc72_123).2 ?_
            show Steps p.tables e below (T114.setTop (mkF m 75 #[.val (.int k0), .val (.int k1), .val (.int k2), .val (.int k3), .val (.int k4), .val (.ref b57), .val (.int k2), .val (.int k1), .val (.ref b109), .val (.int (((k4.toUInt32 >>> ((2 : Int32) &&& 31).toUInt32).toInt32) &&& (3 : Int32))), .val (.ref b109), .unset] [])) _
            refine XS.iloadN X114.here hx rfl (hb hby at_75) rfl ?_
            show Steps p.tables e below (T114.setTop (mkF m 76 #[.val (.int k0), .val (.int k1), .val (.int k2), .val (.int k3), .val (.int k4), .val (.ref b57), .val (.int k2), .val (.int k1), .val (.ref b109), .val (.int (((k4.toUInt32 >>> ((2 : Int32) &&& 31).toUInt32).toInt32) &&& (3 : Int32))), .val (.ref b109), .unset] [(.int k1)])) _
            refine XS.iload X114.here hx rfl (hb hby at_76) rfl ?_
            show Steps p.tables e below (T114.setTop (mkF m 78 #[.val (.int k0), .val (.int k1), .val (.int k2), .val (.int k3), .val (.int k4), .val (.ref b57), .val (.int k2), .val (.int k1), .val (.ref b109), .val (.int (((k4.toUInt32 >>> ((2 : Int32) &&& 31).toUInt32).toInt32) &&& (3 : Int32))), .val (.ref b109), .unset] [(.int k1), (.int k1)])) _
            refine XS.icmpNo X114.here hx rfl (hb hby at_78) rfl (teq (rfl : k1 = k1)).2 ?_
            show Steps p.tables e below (T114.setTop (mkF m 81 #[.val (.int k0), .val (.int k1), .val (.int k2), .val (.int k3), .val (.int k4), .val (.ref b57), .val (.int k2), .val (.int k1), .val (.ref b109), .val (.int (((k4.toUInt32 >>> ((2 : Int32) &&& 31).toUInt32).toInt32) &&& (3 : Int32))), .val (.ref b109), .unset] [])) _
            refine XS.iconst X114.here hx rfl (hb hby at_81) ?_
            show Steps p.tables e below (T114.setTop (mkF m 82 #[.val (.int k0), .val (.int k1), .val (.int k2), .val (.int k3), .val (.int k4), .val (.ref b57), .val (.int k2), .val (.int k1), .val (.ref b109), .val (.int (((k4.toUInt32 >>> ((2 : Int32) &&& 31).toUInt32).toInt32) &&& (3 : Int32))), .val (.ref b109), .unset] [(.int (1 : Int32))])) _
            refine XS.goto X114.here hx rfl (pc0 := 82) (pc' := 86) rfl (hb hby at_82) (by decide) (by decide) ?_
            show Steps p.tables e below (T114.setTop (mkF m 86 #[.val (.int k0), .val (.int k1), .val (.int k2), .val (.int k3), .val (.int k4), .val (.ref b57), .val (.int k2), .val (.int k1), .val (.ref b109), .val (.int (((k4.toUInt32 >>> ((2 : Int32) &&& 31).toUInt32).toInt32) &&& (3 : Int32))), .val (.ref b109), .unset] [(.int (1 : Int32))])) _
            refine XS.istore X114.here hx rfl (hb hby at_86) rfl (l' := #[.val (.int k0), .val (.int k1), .val (.int k2), .val (.int k3), .val (.int k4), .val (.ref b57), .val (.int k2), .val (.int k1), .val (.ref b109), .val (.int (((k4.toUInt32 >>> ((2 : Int32) &&& 31).toUInt32).toInt32) &&& (3 : Int32))), .val (.ref b109), .val (.int (1 : Int32))]) rfl ?_
            show Steps p.tables e below (T114.setTop (mkF m 88 #[.val (.int k0), .val (.int k1), .val (.int k2), .val (.int k3), .val (.int k4), .val (.ref b57), .val (.int k2), .val (.int k1), .val (.ref b109), .val (.int (((k4.toUInt32 >>> ((2 : Int32) &&& 31).toUInt32).toInt32) &&& (3 : Int32))), .val (.ref b109), .val (.int (1 : Int32))] [])) _
            refine XS.goto X114.here hx rfl (pc0 := 88) (pc' := 131) rfl (hb hby at_88) (by decide) (by decide) ?_
            show Steps p.tables e below (T114.setTop (mkF m 131 #[.val (.int k0), .val (.int k1), .val (.int k2), .val (.int k3), .val (.int k4), .val (.ref b57), .val (.int k2), .val (.int k1), .val (.ref b109), .val (.int (((k4.toUInt32 >>> ((2 : Int32) &&& 31).toUInt32).toInt32) &&& (3 : Int32))), .val (.ref b109), .val (.int (1 : Int32))] [])) _
            refine XS.aload X114.here hx rfl (hb hby at_131) rfl rfl ?_
            show Steps p.tables e below (T114.setTop (mkF m 133 #[.val (.int k0), .val (.int k1), .val (.int k2), .val (.int k3), .val (.int k4), .val (.ref b57), .val (.int k2), .val (.int k1), .val (.ref b109), .val (.int (((k4.toUInt32 >>> ((2 : Int32) &&& 31).toUInt32).toInt32) &&& (3 : Int32))), .val (.ref b109), .val (.int (1 : Int32))] [(.ref b57)])) _
            refine XS.aload X114.here hx rfl (hb hby at_133) rfl rfl ?_
            show Steps p.tables e below (T114.setTop (mkF m 135 #[.val (.int k0), .val (.int k1), .val (.int k2), .val (.int k3), .val (.int k4), .val (.ref b57), .val (.int k2), .val (.int k1), .val (.ref b109), .val (.int (((k4.toUInt32 >>> ((2 : Int32) &&& 31).toUInt32).toInt32) &&& (3 : Int32))), .val (.ref b109), .val (.int (1 : Int32))] [(.ref b109), (.ref b57)])) _
            refine st124.trans ?_
            show Steps p.tables e below (T124.setTop (mkF m 138 #[.val (.int k0), .val (.int k1), .val (.int k2), .val (.int k3), .val (.int k4), .val (.ref b57), .val (.int k2), .val (.int k1), .val (.ref b109), .val (.int (((k4.toUInt32 >>> ((2 : Int32) &&& 31).toUInt32).toInt32) &&& (3 : Int32))), .val (.ref b109), .val (.int (1 : Int32))] [(.int (1 : Int32))])) _
            refine XS.iload X124.here hx rfl (hb hby at_138) rfl ?_
            show Steps p.tables e below (T124.setTop (mkF m 140 #[.val (.int k0), .val (.int k1), .val (.int k2), .val (.int k3), .val (.int k4), .val (.ref b57), .val (.int k2), .val (.int k1), .val (.ref b109), .val (.int (((k4.toUInt32 >>> ((2 : Int32) &&& 31).toUInt32).toInt32) &&& (3 : Int32))), .val (.ref b109), .val (.int (1 : Int32))] [(.int (1 : Int32)), (.int (1 : Int32))])) _
            refine XS.icmpNo X124.here hx rfl (hb hby at_140) rfl (teq (rfl : (1 : Int32) = (1 : Int32))).2 ?_
            show Steps p.tables e below (T124.setTop (mkF m 143 #[.val (.int k0), .val (.int k1), .val (.int k2), .val (.int k3), .val (.int k4), .val (.ref b57), .val (.int k2), .val (.int k1), .val (.ref b109), .val (.int (((k4.toUInt32 >>> ((2 : Int32) &&& 31).toUInt32).toInt32) &&& (3 : Int32))), .val (.ref b109), .val (.int (1 : Int32))] [])) _
            refine XS.iconst X124.here hx rfl (hb hby at_143) ?_
            show Steps p.tables e below (T124.setTop (mkF m 144 #[.val (.int k0), .val (.int k1), .val (.int k2), .val (.int k3), .val (.int k4), .val (.ref b57), .val (.int k2), .val (.int k1), .val (.ref b109), .val (.int (((k4.toUInt32 >>> ((2 : Int32) &&& 31).toUInt32).toInt32) &&& (3 : Int32))), .val (.ref b109), .val (.int (1 : Int32))] [(.int (1 : Int32))])) _
            refine XS.goto X124.here hx rfl (pc0 := 144) (pc' := 148) rfl (hb hby at_144) (by decide) (by decide) ?_
            show Steps p.tables e below (T124.setTop (mkF m 148 #[.val (.int k0), .val (.int k1), .val (.int k2), .val (.int k3), .val (.int k4), .val (.ref b57), .val (.int k2), .val (.int k1), .val (.ref b109), .val (.int (((k4.toUInt32 >>> ((2 : Int32) &&& 31).toUInt32).toInt32) &&& (3 : Int32))), .val (.ref b109), .val (.int (1 : Int32))] [(.int (1 : Int32))])) _
            exact k_)
          obtain ⟨fs, hr, hrun, hended, hW, hsame⟩ := X124.leave (v := some (.int (1 : Int32))) (fun h => by rw [Bd.returns] at h; cases h)
          refine ⟨_, _, pre125 _ ?_, hrun, hended, _, _, rfl, ?_, ⟨_, rfl⟩, hW, hsame.mono (by decide) (by decide)⟩
          · show Steps p.tables e below (T124.setTop (mkF m 148 #[.val (.int k0), .val (.int k1), .val (.int k2), .val (.int k3), .val (.int k4), .val (.ref b57), .val (.int k2), .val (.int k1), .val (.ref b109), .val (.int (((k4.toUInt32 >>> ((2 : Int32) &&& 31).toUInt32).toInt32) &&& (3 : Int32))), .val (.ref b109), .val (.int (1 : Int32))] [(.int (1 : Int32))])) _
            exact retN X124 hx (t := .boolean) Bd.returns (by simp) (hb hby at_148) hr
          · show Q_0 Z k0 k1 k2 k3 k4 w_cache cl_cache bx h0 n0 _ T124.heap _
            rw [e124]
            exact ⟨rfl, N124⟩
        · obtain ⟨cq126, kq126, q126a, q126b, q126c⟩ := isOf hZ rfl c116
          obtain ⟨v126, _, ⟨T126, L126, k126, n126⟩, -, X126, ⟨Lc126, hQ126, l126, y126, z126⟩, st126⟩ := X114.virtualBack hx (y := (⟨"com/example/fissure/fissure/games/breakable/Hex", "equals", "(Ljava/lang/Object;)Z"⟩ : MethodName)) (z := (⟨"com/example/fissure/fissure/games/breakable/Hex", "equals", "(Ljava/lang/Object;)Z"⟩ : MethodName)) hown (mvT hZ (hw _ (List.mem_of_getElem? (i := 13) rfl))) (mvT hZ (hw _ (List.mem_of_getElem? (i := 14) rfl))) (notFace_of_selects (args := #[]) (mvT hZ (hw _ (List.mem_of_getElem? (i := 16) rfl)))) (mvT hZ (hw _ (List.mem_of_getElem? (i := 16) rfl))) (mvT hZ (hw _ (List.mem_of_getElem? (i := 15) rfl))) (by decide) (backOf (W := 0) (rm_eqC l Z a0 hw [] b57 b109 k0 k1 k2 k1 T114.heap n0 Zs115 E114x c117 c118 F114_column F114_row) hZ (hw _ (List.mem_of_getElem? (i := 17) rfl)) (hw _ (List.mem_of_getElem? (i := 2) rfl)) (by decide) (by decide)) q126a q126c (g := (mkF m 135 #[.val (.int k0), .val (.int k1), .val (.int k2), .val (.int k3), .val (.int k4), .val (.ref b57), .val (.int k2), .val (.int k1), .val (.ref b109), .val (.int (((k4.toUInt32 >>> ((2 : Int32) &&& 31).toUInt32).toInt32) &&& (3 : Int32))), .val (.ref b109), .val (.int (0 : Int32))] [(.ref b109), (.ref b57)])) rfl (by rw [hml]; rfl) (Steps.refl _) (argsL := [(.ref b109)]) (rest := []) (lenOf pd_3 rfl) rfl (by show 2 * 0 + _ ≤ _; exact Nat.le_of_eq rfl) (hb hby at_135) (fun _ _ => ⟨rfl, rfl, (by decide : 2 + 0 ≤ _), (by decide : 4 + 0 ≤ _)⟩)
          dsimp only [Pt.U, Pt.locs, Pt.cells, Pt.slots] at X126 l126 y126 z126 st126 hQ126
          subst l126 y126 z126
          obtain ⟨hv126, N126q, e126⟩ := hQ126
          have N126 := Fr.app N114 N126q
          have hw126 : v126 = some (.int (0 : Int32)) := hv126.trans (congrArg (fun z => some (Value.int z)) (own_n1 hc72_123))
          subst hw126
          have pre127 : ∀ t_, Steps p.tables e below (T126.setTop (mkF m 148 #[.val (.int k0), .val (.int k1), .val (.int k2), .val (.int k3), .val (.int k4), .val (.ref b57), .val (.int k2), .val (.int k1), .val (.ref b109), .val (.int (((k4.toUInt32 >>> ((2 : Int32) &&& 31).toUInt32).toInt32) &&& (3 : Int32))), .val (.ref b109), .val (.int (0 : Int32))] [(.int (1 : Int32))])) t_ → Steps p.tables e below (s₁.setTop (entryFrame m #[(.int k0), (.int k1), (.int k2), (.int k3), (.int k4)] maxLocals)) t_ := fun t_ k_ => pre122 t_ (by
            show Steps p.tables e below (T114.setTop (mkF m 72 #[.val (.int k0), .val (.int k1), .val (.int k2), .val (.int k3), .val (.int k4), .val (.ref b57), .val (.int k2), .val (.int k1), .val (.ref b109), .val (.int (((k4.toUInt32 >>> ((2 : Int32) &&& 31).toUInt32).toInt32) &&& (3 : Int32))), .val (.ref b109), .unset] [(.int k2), (.int k0)])) _
            refine XS.icmpYes X114.here hx rfl (pc0 := 72) (pc' := 85) rfl (hb hby at_72) rfl (feq hc72_123).2 (by decide) (by decide) ?_
            show Steps p.tables e below (T114.setTop (mkF m 85 #[.val (.int k0), .val (.int k1), .val (.int k2), .val (.int k3), .val (.int k4), .val (.ref b57), .val (.int k2), .val (.int k1), .val (.ref b109), .val (.int (((k4.toUInt32 >>> ((2 : Int32) &&& 31).toUInt32).toInt32) &&& (3 : Int32))), .val (.ref b109), .unset] [])) _
            refine XS.iconst X114.here hx rfl (hb hby at_85) ?_
            show Steps p.tables e below (T114.setTop (mkF m 86 #[.val (.int k0), .val (.int k1), .val (.int k2), .val (.int k3), .val (.int k4), .val (.ref b57), .val (.int k2), .val (.int k1), .val (.ref b109), .val (.int (((k4.toUInt32 >>> ((2 : Int32) &&& 31).toUInt32).toInt32) &&& (3 : Int32))), .val (.ref b109), .unset] [(.int (0 : Int32))])) _
            refine XS.istore X114.here hx rfl (hb hby at_86) rfl (l' := #[.val (.int k0), .val (.int k1), .val (.int k2), .val (.int k3), .val (.int k4), .val (.ref b57), .val (.int k2), .val (.int k1), .val (.ref b109), .val (.int (((k4.toUInt32 >>> ((2 : Int32) &&& 31).toUInt32).toInt32) &&& (3 : Int32))), .val (.ref b109), .val (.int (0 : Int32))]) rfl ?_
            show Steps p.tables e below (T114.setTop (mkF m 88 #[.val (.int k0), .val (.int k1), .val (.int k2), .val (.int k3), .val (.int k4), .val (.ref b57), .val (.int k2), .val (.int k1), .val (.ref b109), .val (.int (((k4.toUInt32 >>> ((2 : Int32) &&& 31).toUInt32).toInt32) &&& (3 : Int32))), .val (.ref b109), .val (.int (0 : Int32))] [])) _
            refine XS.goto X114.here hx rfl (pc0 := 88) (pc' := 131) rfl (hb hby at_88) (by decide) (by decide) ?_
            show Steps p.tables e below (T114.setTop (mkF m 131 #[.val (.int k0), .val (.int k1), .val (.int k2), .val (.int k3), .val (.int k4), .val (.ref b57), .val (.int k2), .val (.int k1), .val (.ref b109), .val (.int (((k4.toUInt32 >>> ((2 : Int32) &&& 31).toUInt32).toInt32) &&& (3 : Int32))), .val (.ref b109), .val (.int (0 : Int32))] [])) _
            refine XS.aload X114.here hx rfl (hb hby at_131) rfl rfl ?_
            show Steps p.tables e below (T114.setTop (mkF m 133 #[.val (.int k0), .val (.int k1), .val (.int k2), .val (.int k3), .val (.int k4), .val (.ref b57), .val (.int k2), .val (.int k1), .val (.ref b109), .val (.int (((k4.toUInt32 >>> ((2 : Int32) &&& 31).toUInt32).toInt32) &&& (3 : Int32))), .val (.ref b109), .val (.int (0 : Int32))] [(.ref b57)])) _
            refine XS.aload X114.here hx rfl (hb hby at_133) rfl rfl ?_
            show Steps p.tables e below (T114.setTop (mkF m 135 #[.val (.int k0), .val (.int k1), .val (.int k2), .val (.int k3), .val (.int k4), .val (.ref b57), .val (.int k2), .val (.int k1), .val (.ref b109), .val (.int (((k4.toUInt32 >>> ((2 : Int32) &&& 31).toUInt32).toInt32) &&& (3 : Int32))), .val (.ref b109), .val (.int (0 : Int32))] [(.ref b109), (.ref b57)])) _
            refine st126.trans ?_
            show Steps p.tables e below (T126.setTop (mkF m 138 #[.val (.int k0), .val (.int k1), .val (.int k2), .val (.int k3), .val (.int k4), .val (.ref b57), .val (.int k2), .val (.int k1), .val (.ref b109), .val (.int (((k4.toUInt32 >>> ((2 : Int32) &&& 31).toUInt32).toInt32) &&& (3 : Int32))), .val (.ref b109), .val (.int (0 : Int32))] [(.int (0 : Int32))])) _
            refine XS.iload X126.here hx rfl (hb hby at_138) rfl ?_
            show Steps p.tables e below (T126.setTop (mkF m 140 #[.val (.int k0), .val (.int k1), .val (.int k2), .val (.int k3), .val (.int k4), .val (.ref b57), .val (.int k2), .val (.int k1), .val (.ref b109), .val (.int (((k4.toUInt32 >>> ((2 : Int32) &&& 31).toUInt32).toInt32) &&& (3 : Int32))), .val (.ref b109), .val (.int (0 : Int32))] [(.int (0 : Int32)), (.int (0 : Int32))])) _
            refine XS.icmpNo X126.here hx rfl (hb hby at_140) rfl (teq (rfl : (0 : Int32) = (0 : Int32))).2 ?_
            show Steps p.tables e below (T126.setTop (mkF m 143 #[.val (.int k0), .val (.int k1), .val (.int k2), .val (.int k3), .val (.int k4), .val (.ref b57), .val (.int k2), .val (.int k1), .val (.ref b109), .val (.int (((k4.toUInt32 >>> ((2 : Int32) &&& 31).toUInt32).toInt32) &&& (3 : Int32))), .val (.ref b109), .val (.int (0 : Int32))] [])) _
            refine XS.iconst X126.here hx rfl (hb hby at_143) ?_
            show Steps p.tables e below (T126.setTop (mkF m 144 #[.val (.int k0), .val (.int k1), .val (.int k2), .val (.int k3), .val (.int k4), .val (.ref b57), .val (.int k2), .val (.int k1), .val (.ref b109), .val (.int (((k4.toUInt32 >>> ((2 : Int32) &&& 31).toUInt32).toInt32) &&& (3 : Int32))), .val (.ref b109), .val (.int (0 : Int32))] [(.int (1 : Int32))])) _
            refine XS.goto X126.here hx rfl (pc0 := 144) (pc' := 148) rfl (hb hby at_144) (by decide) (by decide) ?_
            show Steps p.tables e below (T126.setTop (mkF m 148 #[.val (.int k0), .val (.int k1), .val (.int k2), .val (.int k3), .val (.int k4), .val (.ref b57), .val (.int k2), .val (.int k1), .val (.ref b109), .val (.int (((k4.toUInt32 >>> ((2 : Int32) &&& 31).toUInt32).toInt32) &&& (3 : Int32))), .val (.ref b109), .val (.int (0 : Int32))] [(.int (1 : Int32))])) _
            exact k_)
          obtain ⟨fs, hr, hrun, hended, hW, hsame⟩ := X126.leave (v := some (.int (1 : Int32))) (fun h => by rw [Bd.returns] at h; cases h)
          refine ⟨_, _, pre127 _ ?_, hrun, hended, _, _, rfl, ?_, ⟨_, rfl⟩, hW, hsame.mono (by decide) (by decide)⟩
          · show Steps p.tables e below (T126.setTop (mkF m 148 #[.val (.int k0), .val (.int k1), .val (.int k2), .val (.int k3), .val (.int k4), .val (.ref b57), .val (.int k2), .val (.int k1), .val (.ref b109), .val (.int (((k4.toUInt32 >>> ((2 : Int32) &&& 31).toUInt32).toInt32) &&& (3 : Int32))), .val (.ref b109), .val (.int (0 : Int32))] [(.int (1 : Int32))])) _
            exact retN X126 hx (t := .boolean) Bd.returns (by simp) (hb hby at_148) hr
          · show Q_0 Z k0 k1 k2 k3 k4 w_cache cl_cache bx h0 n0 _ T126.heap _
            rw [e126]
            exact ⟨rfl, N126⟩
      · have pre128 : ∀ t_, Steps p.tables e below (T114.setTop (mkF m 94 #[.val (.int k0), .val (.int k1), .val (.int k2), .val (.int k3), .val (.int k4), .val (.ref b57), .val (.int k2), .val (.int k1), .val (.ref b109), .val (.int (((k4.toUInt32 >>> ((2 : Int32) &&& 31).toUInt32).toInt32) &&& (3 : Int32))), .unset, .unset] [(.int (1 : Int32)), (.int (((k4.toUInt32 >>> ((2 : Int32) &&& 31).toUInt32).toInt32) &&& (3 : Int32)))])) t_ → Steps p.tables e below (s₁.setTop (entryFrame m #[(.int k0), (.int k1), (.int k2), (.int k3), (.int k4)] maxLocals)) t_ := fun t_ k_ => pre120 t_ (by
          show Steps p.tables e below (T114.setTop (mkF m 62 #[.val (.int k0), .val (.int k1), .val (.int k2), .val (.int k3), .val (.int k4), .val (.ref b57), .val (.int k2), .val (.int k1), .val (.ref b109), .val (.int (((k4.toUInt32 >>> ((2 : Int32) &&& 31).toUInt32).toInt32) &&& (3 : Int32))), .unset, .unset] [(.int (((k4.toUInt32 >>> ((2 : Int32) &&& 31).toUInt32).toInt32) &&& (3 : Int32)))])) _
          refine XS.ifYes X114.here hx rfl (pc0 := 62) (pc' := 91) rfl (hb hby at_62) rfl ((if0 _ _).trans (feq hc62_121).2) (by decide) (by decide) ?_
          show Steps p.tables e below (T114.setTop (mkF m 91 #[.val (.int k0), .val (.int k1), .val (.int k2), .val (.int k3), .val (.int k4), .val (.ref b57), .val (.int k2), .val (.int k1), .val (.ref b109), .val (.int (((k4.toUInt32 >>> ((2 : Int32) &&& 31).toUInt32).toInt32) &&& (3 : Int32))), .unset, .unset] [])) _
          refine XS.iload X114.here hx rfl (hb hby at_91) rfl ?_
          show Steps p.tables e below (T114.setTop (mkF m 93 #[.val (.int k0), .val (.int k1), .val (.int k2), .val (.int k3), .val (.int k4), .val (.ref b57), .val (.int k2), .val (.int k1), .val (.ref b109), .val (.int (((k4.toUInt32 >>> ((2 : Int32) &&& 31).toUInt32).toInt32) &&& (3 : Int32))), .unset, .unset] [(.int (((k4.toUInt32 >>> ((2 : Int32) &&& 31).toUInt32).toInt32) &&& (3 : Int32)))])) _
          refine XS.iconst X114.here hx rfl (hb hby at_93) ?_
          show Steps p.tables e below (T114.setTop (mkF m 94 #[.val (.int k0), .val (.int k1), .val (.int k2), .val (.int k3), .val (.int k4), .val (.ref b57), .val (.int k2), .val (.int k1), .val (.ref b109), .val (.int (((k4.toUInt32 >>> ((2 : Int32) &&& 31).toUInt32).toInt32) &&& (3 : Int32))), .unset, .unset] [(.int (1 : Int32)), (.int (((k4.toUInt32 >>> ((2 : Int32) &&& 31).toUInt32).toInt32) &&& (3 : Int32)))])) _
          exact k_)
        by_cases hc94_129 : (((k4.toUInt32 >>> ((2 : Int32) &&& 31).toUInt32).toInt32) &&& (3 : Int32)) = (1 : Int32)
        · obtain ⟨cq130, kq130, q130a, q130b, q130c⟩ := isOf hZ rfl c116
          obtain ⟨v130, _, ⟨T130, L130, k130, n130⟩, -, X130, ⟨Lc130, hQ130, l130, y130, z130⟩, st130⟩ := X114.virtualBack hx (y := (⟨"com/example/fissure/fissure/games/breakable/Hex", "equals", "(Ljava/lang/Object;)Z"⟩ : MethodName)) (z := (⟨"com/example/fissure/fissure/games/breakable/Hex", "equals", "(Ljava/lang/Object;)Z"⟩ : MethodName)) hown (mvT hZ (hw _ (List.mem_of_getElem? (i := 13) rfl))) (mvT hZ (hw _ (List.mem_of_getElem? (i := 14) rfl))) (notFace_of_selects (args := #[]) (mvT hZ (hw _ (List.mem_of_getElem? (i := 16) rfl)))) (mvT hZ (hw _ (List.mem_of_getElem? (i := 16) rfl))) (mvT hZ (hw _ (List.mem_of_getElem? (i := 15) rfl))) (by decide) (backOf (W := 0) (rm_eqN l Z a0 hw [] b57 T114.heap n0 Zs115 ) hZ (hw _ (List.mem_of_getElem? (i := 17) rfl)) (hw _ (List.mem_of_getElem? (i := 2) rfl)) (by decide) (by decide)) q130a q130c (g := (mkF m 135 #[.val (.int k0), .val (.int k1), .val (.int k2), .val (.int k3), .val (.int k4), .val (.ref b57), .val (.int k2), .val (.int k1), .val (.ref b109), .val (.int (((k4.toUInt32 >>> ((2 : Int32) &&& 31).toUInt32).toInt32) &&& (3 : Int32))), .val .null, .val (.int (0 : Int32))] [.null, (.ref b57)])) rfl (by rw [hml]; rfl) (Steps.refl _) (argsL := [.null]) (rest := []) (lenOf pd_3 rfl) rfl (by show 2 * 0 + _ ≤ _; exact Nat.le_of_eq rfl) (hb hby at_135) (fun _ _ => ⟨rfl, rfl, (by decide : 2 + 0 ≤ _), (by decide : 4 + 0 ≤ _)⟩)
          dsimp only [Pt.U, Pt.locs, Pt.cells, Pt.slots] at X130 l130 y130 z130 st130 hQ130
          subst l130 y130 z130
          obtain ⟨hv130, N130q, e130⟩ := hQ130
          have N130 := Fr.app N114 N130q
          subst hv130
          have pre131 : ∀ t_, Steps p.tables e below (T130.setTop (mkF m 148 #[.val (.int k0), .val (.int k1), .val (.int k2), .val (.int k3), .val (.int k4), .val (.ref b57), .val (.int k2), .val (.int k1), .val (.ref b109), .val (.int (((k4.toUInt32 >>> ((2 : Int32) &&& 31).toUInt32).toInt32) &&& (3 : Int32))), .val .null, .val (.int (0 : Int32))] [(.int (1 : Int32))])) t_ → Steps p.tables e below (s₁.setTop (entryFrame m #[(.int k0), (.int k1), (.int k2), (.int k3), (.int k4)] maxLocals)) t_ := fun t_ k_ => pre128 t_ (by
            show Steps p.tables e below (T114.setTop (mkF m 94 #[.val (.int k0), .val (.int k1), .val (.int k2), .val (.int k3), .val (.int k4), .val (.ref b57), .val (.int k2), .val (.int k1), .val (.ref b109), .val (.int (((k4.toUInt32 >>> ((2 : Int32) &&& 31).toUInt32).toInt32) &&& (3 : Int32))), .unset, .unset] [(.int (1 : Int32)), (.int (((k4.toUInt32 >>> ((2 : Int32) &&& 31).toUInt32).toInt32) &&& (3 : Int32)))])) _
            refine XS.icmpNo X114.here hx rfl (hb hby at_94) rfl (teq hc94_129).2 ?_
            show Steps p.tables e below (T114.setTop (mkF m 97 #[.val (.int k0), .val (.int k1), .val (.int k2), .val (.int k3), .val (.int k4), .val (.ref b57), .val (.int k2), .val (.int k1), .val (.ref b109), .val (.int (((k4.toUInt32 >>> ((2 : Int32) &&& 31).toUInt32).toInt32) &&& (3 : Int32))), .unset, .unset] [])) _
            refine XS.aconstNull X114.here hx rfl (hb hby at_97) ?_
            show Steps p.tables e below (T114.setTop (mkF m 98 #[.val (.int k0), .val (.int k1), .val (.int k2), .val (.int k3), .val (.int k4), .val (.ref b57), .val (.int k2), .val (.int k1), .val (.ref b109), .val (.int (((k4.toUInt32 >>> ((2 : Int32) &&& 31).toUInt32).toInt32) &&& (3 : Int32))), .unset, .unset] [.null])) _
            refine XS.astore X114.here hx rfl (hb hby at_98) rfl rfl (l' := #[.val (.int k0), .val (.int k1), .val (.int k2), .val (.int k3), .val (.int k4), .val (.ref b57), .val (.int k2), .val (.int k1), .val (.ref b109), .val (.int (((k4.toUInt32 >>> ((2 : Int32) &&& 31).toUInt32).toInt32) &&& (3 : Int32))), .val .null, .unset]) rfl ?_
            show Steps p.tables e below (T114.setTop (mkF m 100 #[.val (.int k0), .val (.int k1), .val (.int k2), .val (.int k3), .val (.int k4), .val (.ref b57), .val (.int k2), .val (.int k1), .val (.ref b109), .val (.int (((k4.toUInt32 >>> ((2 : Int32) &&& 31).toUInt32).toInt32) &&& (3 : Int32))), .val .null, .unset] [])) _
            refine XS.iconst X114.here hx rfl (hb hby at_100) ?_
            show Steps p.tables e below (T114.setTop (mkF m 101 #[.val (.int k0), .val (.int k1), .val (.int k2), .val (.int k3), .val (.int k4), .val (.ref b57), .val (.int k2), .val (.int k1), .val (.ref b109), .val (.int (((k4.toUInt32 >>> ((2 : Int32) &&& 31).toUInt32).toInt32) &&& (3 : Int32))), .val .null, .unset] [(.int (0 : Int32))])) _
            refine XS.istore X114.here hx rfl (hb hby at_101) rfl (l' := #[.val (.int k0), .val (.int k1), .val (.int k2), .val (.int k3), .val (.int k4), .val (.ref b57), .val (.int k2), .val (.int k1), .val (.ref b109), .val (.int (((k4.toUInt32 >>> ((2 : Int32) &&& 31).toUInt32).toInt32) &&& (3 : Int32))), .val .null, .val (.int (0 : Int32))]) rfl ?_
            show Steps p.tables e below (T114.setTop (mkF m 103 #[.val (.int k0), .val (.int k1), .val (.int k2), .val (.int k3), .val (.int k4), .val (.ref b57), .val (.int k2), .val (.int k1), .val (.ref b109), .val (.int (((k4.toUInt32 >>> ((2 : Int32) &&& 31).toUInt32).toInt32) &&& (3 : Int32))), .val .null, .val (.int (0 : Int32))] [])) _
            refine XS.goto X114.here hx rfl (pc0 := 103) (pc' := 131) rfl (hb hby at_103) (by decide) (by decide) ?_
            show Steps p.tables e below (T114.setTop (mkF m 131 #[.val (.int k0), .val (.int k1), .val (.int k2), .val (.int k3), .val (.int k4), .val (.ref b57), .val (.int k2), .val (.int k1), .val (.ref b109), .val (.int (((k4.toUInt32 >>> ((2 : Int32) &&& 31).toUInt32).toInt32) &&& (3 : Int32))), .val .null, .val (.int (0 : Int32))] [])) _
            refine XS.aload X114.here hx rfl (hb hby at_131) rfl rfl ?_
            show Steps p.tables e below (T114.setTop (mkF m 133 #[.val (.int k0), .val (.int k1), .val (.int k2), .val (.int k3), .val (.int k4), .val (.ref b57), .val (.int k2), .val (.int k1), .val (.ref b109), .val (.int (((k4.toUInt32 >>> ((2 : Int32) &&& 31).toUInt32).toInt32) &&& (3 : Int32))), .val .null, .val (.int (0 : Int32))] [(.ref b57)])) _
            refine XS.aload X114.here hx rfl (hb hby at_133) rfl rfl ?_
            show Steps p.tables e below (T114.setTop (mkF m 135 #[.val (.int k0), .val (.int k1), .val (.int k2), .val (.int k3), .val (.int k4), .val (.ref b57), .val (.int k2), .val (.int k1), .val (.ref b109), .val (.int (((k4.toUInt32 >>> ((2 : Int32) &&& 31).toUInt32).toInt32) &&& (3 : Int32))), .val .null, .val (.int (0 : Int32))] [.null, (.ref b57)])) _
            refine st130.trans ?_
            show Steps p.tables e below (T130.setTop (mkF m 138 #[.val (.int k0), .val (.int k1), .val (.int k2), .val (.int k3), .val (.int k4), .val (.ref b57), .val (.int k2), .val (.int k1), .val (.ref b109), .val (.int (((k4.toUInt32 >>> ((2 : Int32) &&& 31).toUInt32).toInt32) &&& (3 : Int32))), .val .null, .val (.int (0 : Int32))] [(.int (0 : Int32))])) _
            refine XS.iload X130.here hx rfl (hb hby at_138) rfl ?_
            show Steps p.tables e below (T130.setTop (mkF m 140 #[.val (.int k0), .val (.int k1), .val (.int k2), .val (.int k3), .val (.int k4), .val (.ref b57), .val (.int k2), .val (.int k1), .val (.ref b109), .val (.int (((k4.toUInt32 >>> ((2 : Int32) &&& 31).toUInt32).toInt32) &&& (3 : Int32))), .val .null, .val (.int (0 : Int32))] [(.int (0 : Int32)), (.int (0 : Int32))])) _
            refine XS.icmpNo X130.here hx rfl (hb hby at_140) rfl (teq (rfl : (0 : Int32) = (0 : Int32))).2 ?_
            show Steps p.tables e below (T130.setTop (mkF m 143 #[.val (.int k0), .val (.int k1), .val (.int k2), .val (.int k3), .val (.int k4), .val (.ref b57), .val (.int k2), .val (.int k1), .val (.ref b109), .val (.int (((k4.toUInt32 >>> ((2 : Int32) &&& 31).toUInt32).toInt32) &&& (3 : Int32))), .val .null, .val (.int (0 : Int32))] [])) _
            refine XS.iconst X130.here hx rfl (hb hby at_143) ?_
            show Steps p.tables e below (T130.setTop (mkF m 144 #[.val (.int k0), .val (.int k1), .val (.int k2), .val (.int k3), .val (.int k4), .val (.ref b57), .val (.int k2), .val (.int k1), .val (.ref b109), .val (.int (((k4.toUInt32 >>> ((2 : Int32) &&& 31).toUInt32).toInt32) &&& (3 : Int32))), .val .null, .val (.int (0 : Int32))] [(.int (1 : Int32))])) _
            refine XS.goto X130.here hx rfl (pc0 := 144) (pc' := 148) rfl (hb hby at_144) (by decide) (by decide) ?_
            show Steps p.tables e below (T130.setTop (mkF m 148 #[.val (.int k0), .val (.int k1), .val (.int k2), .val (.int k3), .val (.int k4), .val (.ref b57), .val (.int k2), .val (.int k1), .val (.ref b109), .val (.int (((k4.toUInt32 >>> ((2 : Int32) &&& 31).toUInt32).toInt32) &&& (3 : Int32))), .val .null, .val (.int (0 : Int32))] [(.int (1 : Int32))])) _
            exact k_)
          obtain ⟨fs, hr, hrun, hended, hW, hsame⟩ := X130.leave (v := some (.int (1 : Int32))) (fun h => by rw [Bd.returns] at h; cases h)
          refine ⟨_, _, pre131 _ ?_, hrun, hended, _, _, rfl, ?_, ⟨_, rfl⟩, hW, hsame.mono (by decide) (by decide)⟩
          · show Steps p.tables e below (T130.setTop (mkF m 148 #[.val (.int k0), .val (.int k1), .val (.int k2), .val (.int k3), .val (.int k4), .val (.ref b57), .val (.int k2), .val (.int k1), .val (.ref b109), .val (.int (((k4.toUInt32 >>> ((2 : Int32) &&& 31).toUInt32).toInt32) &&& (3 : Int32))), .val .null, .val (.int (0 : Int32))] [(.int (1 : Int32))])) _
            exact retN X130 hx (t := .boolean) Bd.returns (by simp) (hb hby at_148) hr
          · show Q_0 Z k0 k1 k2 k3 k4 w_cache cl_cache bx h0 n0 _ T130.heap _
            rw [e130]
            exact ⟨rfl, N130⟩
        · have pre132 : ∀ t_, Steps p.tables e below (T114.setTop (mkF m 109 #[.val (.int k0), .val (.int k1), .val (.int k2), .val (.int k3), .val (.int k4), .val (.ref b57), .val (.int k2), .val (.int k1), .val (.ref b109), .val (.int (((k4.toUInt32 >>> ((2 : Int32) &&& 31).toUInt32).toInt32) &&& (3 : Int32))), .unset, .unset] [(.int (2 : Int32)), (.int (((k4.toUInt32 >>> ((2 : Int32) &&& 31).toUInt32).toInt32) &&& (3 : Int32)))])) t_ → Steps p.tables e below (s₁.setTop (entryFrame m #[(.int k0), (.int k1), (.int k2), (.int k3), (.int k4)] maxLocals)) t_ := fun t_ k_ => pre128 t_ (by
            show Steps p.tables e below (T114.setTop (mkF m 94 #[.val (.int k0), .val (.int k1), .val (.int k2), .val (.int k3), .val (.int k4), .val (.ref b57), .val (.int k2), .val (.int k1), .val (.ref b109), .val (.int (((k4.toUInt32 >>> ((2 : Int32) &&& 31).toUInt32).toInt32) &&& (3 : Int32))), .unset, .unset] [(.int (1 : Int32)), (.int (((k4.toUInt32 >>> ((2 : Int32) &&& 31).toUInt32).toInt32) &&& (3 : Int32)))])) _
            refine XS.icmpYes X114.here hx rfl (pc0 := 94) (pc' := 106) rfl (hb hby at_94) rfl (feq hc94_129).2 (by decide) (by decide) ?_
            show Steps p.tables e below (T114.setTop (mkF m 106 #[.val (.int k0), .val (.int k1), .val (.int k2), .val (.int k3), .val (.int k4), .val (.ref b57), .val (.int k2), .val (.int k1), .val (.ref b109), .val (.int (((k4.toUInt32 >>> ((2 : Int32) &&& 31).toUInt32).toInt32) &&& (3 : Int32))), .unset, .unset] [])) _
            refine XS.iload X114.here hx rfl (hb hby at_106) rfl ?_
            show Steps p.tables e below (T114.setTop (mkF m 108 #[.val (.int k0), .val (.int k1), .val (.int k2), .val (.int k3), .val (.int k4), .val (.ref b57), .val (.int k2), .val (.int k1), .val (.ref b109), .val (.int (((k4.toUInt32 >>> ((2 : Int32) &&& 31).toUInt32).toInt32) &&& (3 : Int32))), .unset, .unset] [(.int (((k4.toUInt32 >>> ((2 : Int32) &&& 31).toUInt32).toInt32) &&& (3 : Int32)))])) _
            refine XS.iconst X114.here hx rfl (hb hby at_108) ?_
            show Steps p.tables e below (T114.setTop (mkF m 109 #[.val (.int k0), .val (.int k1), .val (.int k2), .val (.int k3), .val (.int k4), .val (.ref b57), .val (.int k2), .val (.int k1), .val (.ref b109), .val (.int (((k4.toUInt32 >>> ((2 : Int32) &&& 31).toUInt32).toInt32) &&& (3 : Int32))), .unset, .unset] [(.int (2 : Int32)), (.int (((k4.toUInt32 >>> ((2 : Int32) &&& 31).toUInt32).toInt32) &&& (3 : Int32)))])) _
            exact k_)
          by_cases hc109_133 : (((k4.toUInt32 >>> ((2 : Int32) &&& 31).toUInt32).toInt32) &&& (3 : Int32)) = (2 : Int32)
          · obtain ⟨v134, _, ⟨T134, L134, k134, n134⟩, -, X134, ⟨Lc134, hQ134, l134, y134, z134⟩, st134⟩ := Jvm.LawKit.callS X114 hx (y := (⟨"java/lang/Integer", "valueOf", "(I)Ljava/lang/Integer;"⟩ : MethodName)) hown (mvT hZ (hw _ (List.mem_of_getElem? (i := 20) rfl))) (mvT hZ (hw _ (List.mem_of_getElem? (i := 21) rfl))) (mvT hZ (hw _ (List.mem_of_getElem? (i := 22) rfl))) (mvT hZ (hw _ (List.mem_of_getElem? (i := 23) rfl))) (by decide) (backOf (W := 0) (rm_valueOf l Z a0 hw [] k0 w_cache cl_cache bx T114.heap n0 Zs115 (S_high.ext O115) (S_cache.ext O115) Bx (own_ext_trans Oz O115)) hZ (hw _ (List.mem_of_getElem? (i := 23) rfl)) (hw _ (List.mem_of_getElem? (i := 22) rfl)) (by decide) (by decide)) (g := (mkF m 113 #[.val (.int k0), .val (.int k1), .val (.int k2), .val (.int k3), .val (.int k4), .val (.ref b57), .val (.int k2), .val (.int k1), .val (.ref b109), .val (.int (((k4.toUInt32 >>> ((2 : Int32) &&& 31).toUInt32).toInt32) &&& (3 : Int32))), .unset, .unset] [(.int k0)])) rfl (by rw [hml]; rfl) (argsL := [(.int k0)]) (rest := []) (lenOf pd_4 rfl) rfl (by show 2 * 0 + _ ≤ _; exact Nat.le_of_eq rfl) (hb hby at_113) (fun _ _ => ⟨rfl, rfl, (by decide : 2 + 1 ≤ _), (by decide : 4 + 1 ≤ _)⟩)
            dsimp only [Pt.U, Pt.locs, Pt.cells, Pt.slots] at X134 l134 y134 z134 st134 hQ134
            subst l134 y134 z134
            obtain ⟨⟨r134, hv134, Er134⟩, N134q, M134⟩ := hQ134
            have N134 := Fr.app N114 N134q
            subst hv134
            have O135 := own_ext_trans O115 M134
            have Zs135 := Nat.le_trans Zs115 (M134).1
            have c136 : Exa Z T134.heap b57 "com/example/fissure/fissure/games/breakable/Hex" := c116.ext M134
            have c137 : Fld Z T134.heap b57 "com/example/fissure/fissure/games/breakable/Hex" "column" "I" (.int k0) := c117.ext M134
            have c138 : Fld Z T134.heap b57 "com/example/fissure/fissure/games/breakable/Hex" "row" "I" (.int k1) := c118.ext M134
            have c139 : Exa Z T134.heap b109 "com/example/fissure/fissure/games/breakable/Hex" := E114x.ext M134
            have c140 : Fld Z T134.heap b109 "com/example/fissure/fissure/games/breakable/Hex" "column" "I" (.int k2) := F114_column.ext M134
            have c141 : Fld Z T134.heap b109 "com/example/fissure/fissure/games/breakable/Hex" "row" "I" (.int k1) := F114_row.ext M134
            obtain ⟨cq142, kq142, q142a, q142b, q142c⟩ := isOf hZ rfl c136
            obtain ⟨v142, _, ⟨T142, L142, k142, n142⟩, -, X142, ⟨Lc142, hQ142, l142, y142, z142⟩, st142⟩ := X134.virtualBack hx (y := (⟨"com/example/fissure/fissure/games/breakable/Hex", "equals", "(Ljava/lang/Object;)Z"⟩ : MethodName)) (z := (⟨"com/example/fissure/fissure/games/breakable/Hex", "equals", "(Ljava/lang/Object;)Z"⟩ : MethodName)) hown (mvT hZ (hw _ (List.mem_of_getElem? (i := 13) rfl))) (mvT hZ (hw _ (List.mem_of_getElem? (i := 14) rfl))) (notFace_of_selects (args := #[]) (mvT hZ (hw _ (List.mem_of_getElem? (i := 16) rfl)))) (mvT hZ (hw _ (List.mem_of_getElem? (i := 16) rfl))) (mvT hZ (hw _ (List.mem_of_getElem? (i := 15) rfl))) (by decide) (backOf (W := 0) (rm_eqI l Z a0 hw [] b57 r134 T134.heap n0 Zs135 Er134) hZ (hw _ (List.mem_of_getElem? (i := 17) rfl)) (hw _ (List.mem_of_getElem? (i := 2) rfl)) (by decide) (by decide)) q142a q142c (g := (mkF m 135 #[.val (.int k0), .val (.int k1), .val (.int k2), .val (.int k3), .val (.int k4), .val (.ref b57), .val (.int k2), .val (.int k1), .val (.ref b109), .val (.int (((k4.toUInt32 >>> ((2 : Int32) &&& 31).toUInt32).toInt32) &&& (3 : Int32))), .val (.ref r134), .val (.int (0 : Int32))] [(.ref r134), (.ref b57)])) rfl (by rw [hml]; rfl) (Steps.refl _) (argsL := [(.ref r134)]) (rest := []) (lenOf pd_3 rfl) rfl (by show 2 * 0 + _ ≤ _; exact Nat.le_of_eq rfl) (hb hby at_135) (fun _ _ => ⟨rfl, rfl, (by decide : 3 + 0 ≤ _), (by decide : 5 + 0 ≤ _)⟩)
            dsimp only [Pt.U, Pt.locs, Pt.cells, Pt.slots] at X142 l142 y142 z142 st142 hQ142
            subst l142 y142 z142
            obtain ⟨hv142, N142q, e142⟩ := hQ142
            have N142 := Fr.app N134 N142q
            subst hv142
            have pre143 : ∀ t_, Steps p.tables e below (T142.setTop (mkF m 148 #[.val (.int k0), .val (.int k1), .val (.int k2), .val (.int k3), .val (.int k4), .val (.ref b57), .val (.int k2), .val (.int k1), .val (.ref b109), .val (.int (((k4.toUInt32 >>> ((2 : Int32) &&& 31).toUInt32).toInt32) &&& (3 : Int32))), .val (.ref r134), .val (.int (0 : Int32))] [(.int (1 : Int32))])) t_ → Steps p.tables e below (s₁.setTop (entryFrame m #[(.int k0), (.int k1), (.int k2), (.int k3), (.int k4)] maxLocals)) t_ := fun t_ k_ => pre132 t_ (by
              show Steps p.tables e below (T114.setTop (mkF m 109 #[.val (.int k0), .val (.int k1), .val (.int k2), .val (.int k3), .val (.int k4), .val (.ref b57), .val (.int k2), .val (.int k1), .val (.ref b109), .val (.int (((k4.toUInt32 >>> ((2 : Int32) &&& 31).toUInt32).toInt32) &&& (3 : Int32))), .unset, .unset] [(.int (2 : Int32)), (.int (((k4.toUInt32 >>> ((2 : Int32) &&& 31).toUInt32).toInt32) &&& (3 : Int32)))])) _
              refine XS.icmpNo X114.here hx rfl (hb hby at_109) rfl (teq hc109_133).2 ?_
              show Steps p.tables e below (T114.setTop (mkF m 112 #[.val (.int k0), .val (.int k1), .val (.int k2), .val (.int k3), .val (.int k4), .val (.ref b57), .val (.int k2), .val (.int k1), .val (.ref b109), .val (.int (((k4.toUInt32 >>> ((2 : Int32) &&& 31).toUInt32).toInt32) &&& (3 : Int32))), .unset, .unset] [])) _
              refine XS.iloadN X114.here hx rfl (hb hby at_112) rfl ?_
              show Steps p.tables e below (T114.setTop (mkF m 113 #[.val (.int k0), .val (.int k1), .val (.int k2), .val (.int k3), .val (.int k4), .val (.ref b57), .val (.int k2), .val (.int k1), .val (.ref b109), .val (.int (((k4.toUInt32 >>> ((2 : Int32) &&& 31).toUInt32).toInt32) &&& (3 : Int32))), .unset, .unset] [(.int k0)])) _
              refine st134 _ ?_
              show Steps p.tables e below (T134.setTop (mkF m 116 #[.val (.int k0), .val (.int k1), .val (.int k2), .val (.int k3), .val (.int k4), .val (.ref b57), .val (.int k2), .val (.int k1), .val (.ref b109), .val (.int (((k4.toUInt32 >>> ((2 : Int32) &&& 31).toUInt32).toInt32) &&& (3 : Int32))), .unset, .unset] [(.ref r134)])) _
              refine XS.astore X134.here hx rfl (hb hby at_116) rfl rfl (l' := #[.val (.int k0), .val (.int k1), .val (.int k2), .val (.int k3), .val (.int k4), .val (.ref b57), .val (.int k2), .val (.int k1), .val (.ref b109), .val (.int (((k4.toUInt32 >>> ((2 : Int32) &&& 31).toUInt32).toInt32) &&& (3 : Int32))), .val (.ref r134), .unset]) rfl ?_
              show Steps p.tables e below (T134.setTop (mkF m 118 #[.val (.int k0), .val (.int k1), .val (.int k2), .val (.int k3), .val (.int k4), .val (.ref b57), .val (.int k2), .val (.int k1), .val (.ref b109), .val (.int (((k4.toUInt32 >>> ((2 : Int32) &&& 31).toUInt32).toInt32) &&& (3 : Int32))), .val (.ref r134), .unset] [])) _
              refine XS.iconst X134.here hx rfl (hb hby at_118) ?_
              show Steps p.tables e below (T134.setTop (mkF m 119 #[.val (.int k0), .val (.int k1), .val (.int k2), .val (.int k3), .val (.int k4), .val (.ref b57), .val (.int k2), .val (.int k1), .val (.ref b109), .val (.int (((k4.toUInt32 >>> ((2 : Int32) &&& 31).toUInt32).toInt32) &&& (3 : Int32))), .val (.ref r134), .unset] [(.int (0 : Int32))])) _
              refine XS.istore X134.here hx rfl (hb hby at_119) rfl (l' := #[.val (.int k0), .val (.int k1), .val (.int k2), .val (.int k3), .val (.int k4), .val (.ref b57), .val (.int k2), .val (.int k1), .val (.ref b109), .val (.int (((k4.toUInt32 >>> ((2 : Int32) &&& 31).toUInt32).toInt32) &&& (3 : Int32))), .val (.ref r134), .val (.int (0 : Int32))]) rfl ?_
              show Steps p.tables e below (T134.setTop (mkF m 121 #[.val (.int k0), .val (.int k1), .val (.int k2), .val (.int k3), .val (.int k4), .val (.ref b57), .val (.int k2), .val (.int k1), .val (.ref b109), .val (.int (((k4.toUInt32 >>> ((2 : Int32) &&& 31).toUInt32).toInt32) &&& (3 : Int32))), .val (.ref r134), .val (.int (0 : Int32))] [])) _
              refine XS.goto X134.here hx rfl (pc0 := 121) (pc' := 131) rfl (hb hby at_121) (by decide) (by decide) ?_
              show Steps p.tables e below (T134.setTop (mkF m 131 #[.val (.int k0), .val (.int k1), .val (.int k2), .val (.int k3), .val (.int k4), .val (.ref b57), .val (.int k2), .val (.int k1), .val (.ref b109), .val (.int (((k4.toUInt32 >>> ((2 : Int32) &&& 31).toUInt32).toInt32) &&& (3 : Int32))), .val (.ref r134), .val (.int (0 : Int32))] [])) _
              refine XS.aload X134.here hx rfl (hb hby at_131) rfl rfl ?_
              show Steps p.tables e below (T134.setTop (mkF m 133 #[.val (.int k0), .val (.int k1), .val (.int k2), .val (.int k3), .val (.int k4), .val (.ref b57), .val (.int k2), .val (.int k1), .val (.ref b109), .val (.int (((k4.toUInt32 >>> ((2 : Int32) &&& 31).toUInt32).toInt32) &&& (3 : Int32))), .val (.ref r134), .val (.int (0 : Int32))] [(.ref b57)])) _
              refine XS.aload X134.here hx rfl (hb hby at_133) rfl rfl ?_
              show Steps p.tables e below (T134.setTop (mkF m 135 #[.val (.int k0), .val (.int k1), .val (.int k2), .val (.int k3), .val (.int k4), .val (.ref b57), .val (.int k2), .val (.int k1), .val (.ref b109), .val (.int (((k4.toUInt32 >>> ((2 : Int32) &&& 31).toUInt32).toInt32) &&& (3 : Int32))), .val (.ref r134), .val (.int (0 : Int32))] [(.ref r134), (.ref b57)])) _
              refine st142.trans ?_
              show Steps p.tables e below (T142.setTop (mkF m 138 #[.val (.int k0), .val (.int k1), .val (.int k2), .val (.int k3), .val (.int k4), .val (.ref b57), .val (.int k2), .val (.int k1), .val (.ref b109), .val (.int (((k4.toUInt32 >>> ((2 : Int32) &&& 31).toUInt32).toInt32) &&& (3 : Int32))), .val (.ref r134), .val (.int (0 : Int32))] [(.int (0 : Int32))])) _
              refine XS.iload X142.here hx rfl (hb hby at_138) rfl ?_
              show Steps p.tables e below (T142.setTop (mkF m 140 #[.val (.int k0), .val (.int k1), .val (.int k2), .val (.int k3), .val (.int k4), .val (.ref b57), .val (.int k2), .val (.int k1), .val (.ref b109), .val (.int (((k4.toUInt32 >>> ((2 : Int32) &&& 31).toUInt32).toInt32) &&& (3 : Int32))), .val (.ref r134), .val (.int (0 : Int32))] [(.int (0 : Int32)), (.int (0 : Int32))])) _
              refine XS.icmpNo X142.here hx rfl (hb hby at_140) rfl (teq (rfl : (0 : Int32) = (0 : Int32))).2 ?_
              show Steps p.tables e below (T142.setTop (mkF m 143 #[.val (.int k0), .val (.int k1), .val (.int k2), .val (.int k3), .val (.int k4), .val (.ref b57), .val (.int k2), .val (.int k1), .val (.ref b109), .val (.int (((k4.toUInt32 >>> ((2 : Int32) &&& 31).toUInt32).toInt32) &&& (3 : Int32))), .val (.ref r134), .val (.int (0 : Int32))] [])) _
              refine XS.iconst X142.here hx rfl (hb hby at_143) ?_
              show Steps p.tables e below (T142.setTop (mkF m 144 #[.val (.int k0), .val (.int k1), .val (.int k2), .val (.int k3), .val (.int k4), .val (.ref b57), .val (.int k2), .val (.int k1), .val (.ref b109), .val (.int (((k4.toUInt32 >>> ((2 : Int32) &&& 31).toUInt32).toInt32) &&& (3 : Int32))), .val (.ref r134), .val (.int (0 : Int32))] [(.int (1 : Int32))])) _
              refine XS.goto X142.here hx rfl (pc0 := 144) (pc' := 148) rfl (hb hby at_144) (by decide) (by decide) ?_
              show Steps p.tables e below (T142.setTop (mkF m 148 #[.val (.int k0), .val (.int k1), .val (.int k2), .val (.int k3), .val (.int k4), .val (.ref b57), .val (.int k2), .val (.int k1), .val (.ref b109), .val (.int (((k4.toUInt32 >>> ((2 : Int32) &&& 31).toUInt32).toInt32) &&& (3 : Int32))), .val (.ref r134), .val (.int (0 : Int32))] [(.int (1 : Int32))])) _
              exact k_)
            obtain ⟨fs, hr, hrun, hended, hW, hsame⟩ := X142.leave (v := some (.int (1 : Int32))) (fun h => by rw [Bd.returns] at h; cases h)
            refine ⟨_, _, pre143 _ ?_, hrun, hended, _, _, rfl, ?_, ⟨_, rfl⟩, hW, hsame.mono (by decide) (by decide)⟩
            · show Steps p.tables e below (T142.setTop (mkF m 148 #[.val (.int k0), .val (.int k1), .val (.int k2), .val (.int k3), .val (.int k4), .val (.ref b57), .val (.int k2), .val (.int k1), .val (.ref b109), .val (.int (((k4.toUInt32 >>> ((2 : Int32) &&& 31).toUInt32).toInt32) &&& (3 : Int32))), .val (.ref r134), .val (.int (0 : Int32))] [(.int (1 : Int32))])) _
              exact retN X142 hx (t := .boolean) Bd.returns (by simp) (hb hby at_148) hr
            · show Q_0 Z k0 k1 k2 k3 k4 w_cache cl_cache bx h0 n0 _ T142.heap _
              rw [e142]
              exact ⟨rfl, N142⟩
          · obtain ⟨cq144, kq144, q144a, q144b, q144c⟩ := isOf hZ rfl c116
            obtain ⟨v144, _, ⟨T144, L144, k144, n144⟩, -, X144, ⟨Lc144, hQ144, l144, y144, z144⟩, st144⟩ := X114.virtualBack hx (y := (⟨"com/example/fissure/fissure/games/breakable/Hex", "equals", "(Ljava/lang/Object;)Z"⟩ : MethodName)) (z := (⟨"com/example/fissure/fissure/games/breakable/Hex", "equals", "(Ljava/lang/Object;)Z"⟩ : MethodName)) hown (mvT hZ (hw _ (List.mem_of_getElem? (i := 13) rfl))) (mvT hZ (hw _ (List.mem_of_getElem? (i := 14) rfl))) (notFace_of_selects (args := #[]) (mvT hZ (hw _ (List.mem_of_getElem? (i := 16) rfl)))) (mvT hZ (hw _ (List.mem_of_getElem? (i := 16) rfl))) (mvT hZ (hw _ (List.mem_of_getElem? (i := 15) rfl))) (by decide) (backOf (W := 0) (rm_eqC l Z a0 hw [] b57 b57 k0 k1 k0 k1 T114.heap n0 Zs115 c116 c117 c118 c117 c118) hZ (hw _ (List.mem_of_getElem? (i := 17) rfl)) (hw _ (List.mem_of_getElem? (i := 2) rfl)) (by decide) (by decide)) q144a q144c (g := (mkF m 135 #[.val (.int k0), .val (.int k1), .val (.int k2), .val (.int k3), .val (.int k4), .val (.ref b57), .val (.int k2), .val (.int k1), .val (.ref b109), .val (.int (((k4.toUInt32 >>> ((2 : Int32) &&& 31).toUInt32).toInt32) &&& (3 : Int32))), .val (.ref b57), .val (.int (1 : Int32))] [(.ref b57), (.ref b57)])) rfl (by rw [hml]; rfl) (Steps.refl _) (argsL := [(.ref b57)]) (rest := []) (lenOf pd_3 rfl) rfl (by show 2 * 0 + _ ≤ _; exact Nat.le_of_eq rfl) (hb hby at_135) (fun _ _ => ⟨rfl, rfl, (by decide : 2 + 0 ≤ _), (by decide : 4 + 0 ≤ _)⟩)
            dsimp only [Pt.U, Pt.locs, Pt.cells, Pt.slots] at X144 l144 y144 z144 st144 hQ144
            subst l144 y144 z144
            obtain ⟨hv144, N144q, e144⟩ := hQ144
            have N144 := Fr.app N114 N144q
            have hw144 : v144 = some (.int (1 : Int32)) := hv144.trans (congrArg (fun z => some (Value.int z)) (own_self _ _))
            subst hw144
            have pre145 : ∀ t_, Steps p.tables e below (T144.setTop (mkF m 148 #[.val (.int k0), .val (.int k1), .val (.int k2), .val (.int k3), .val (.int k4), .val (.ref b57), .val (.int k2), .val (.int k1), .val (.ref b109), .val (.int (((k4.toUInt32 >>> ((2 : Int32) &&& 31).toUInt32).toInt32) &&& (3 : Int32))), .val (.ref b57), .val (.int (1 : Int32))] [(.int (1 : Int32))])) t_ → Steps p.tables e below (s₁.setTop (entryFrame m #[(.int k0), (.int k1), (.int k2), (.int k3), (.int k4)] maxLocals)) t_ := fun t_ k_ => pre132 t_ (by
              show Steps p.tables e below (T114.setTop (mkF m 109 #[.val (.int k0), .val (.int k1), .val (.int k2), .val (.int k3), .val (.int k4), .val (.ref b57), .val (.int k2), .val (.int k1), .val (.ref b109), .val (.int (((k4.toUInt32 >>> ((2 : Int32) &&& 31).toUInt32).toInt32) &&& (3 : Int32))), .unset, .unset] [(.int (2 : Int32)), (.int (((k4.toUInt32 >>> ((2 : Int32) &&& 31).toUInt32).toInt32) &&& (3 : Int32)))])) _
              refine XS.icmpYes X114.here hx rfl (pc0 := 109) (pc' := 124) rfl (hb hby at_109) rfl (feq hc109_133).2 (by decide) (by decide) ?_
              show Steps p.tables e below (T114.setTop (mkF m 124 #[.val (.int k0), .val (.int k1), .val (.int k2), .val (.int k3), .val (.int k4), .val (.ref b57), .val (.int k2), .val (.int k1), .val (.ref b109), .val (.int (((k4.toUInt32 >>> ((2 : Int32) &&& 31).toUInt32).toInt32) &&& (3 : Int32))), .unset, .unset] [])) _
              refine XS.aload X114.here hx rfl (hb hby at_124) rfl rfl ?_
              show Steps p.tables e below (T114.setTop (mkF m 126 #[.val (.int k0), .val (.int k1), .val (.int k2), .val (.int k3), .val (.int k4), .val (.ref b57), .val (.int k2), .val (.int k1), .val (.ref b109), .val (.int (((k4.toUInt32 >>> ((2 : Int32) &&& 31).toUInt32).toInt32) &&& (3 : Int32))), .unset, .unset] [(.ref b57)])) _
              refine XS.astore X114.here hx rfl (hb hby at_126) rfl rfl (l' := #[.val (.int k0), .val (.int k1), .val (.int k2), .val (.int k3), .val (.int k4), .val (.ref b57), .val (.int k2), .val (.int k1), .val (.ref b109), .val (.int (((k4.toUInt32 >>> ((2 : Int32) &&& 31).toUInt32).toInt32) &&& (3 : Int32))), .val (.ref b57), .unset]) rfl ?_
              show Steps p.tables e below (T114.setTop (mkF m 128 #[.val (.int k0), .val (.int k1), .val (.int k2), .val (.int k3), .val (.int k4), .val (.ref b57), .val (.int k2), .val (.int k1), .val (.ref b109), .val (.int (((k4.toUInt32 >>> ((2 : Int32) &&& 31).toUInt32).toInt32) &&& (3 : Int32))), .val (.ref b57), .unset] [])) _
              refine XS.iconst X114.here hx rfl (hb hby at_128) ?_
              show Steps p.tables e below (T114.setTop (mkF m 129 #[.val (.int k0), .val (.int k1), .val (.int k2), .val (.int k3), .val (.int k4), .val (.ref b57), .val (.int k2), .val (.int k1), .val (.ref b109), .val (.int (((k4.toUInt32 >>> ((2 : Int32) &&& 31).toUInt32).toInt32) &&& (3 : Int32))), .val (.ref b57), .unset] [(.int (1 : Int32))])) _
              refine XS.istore X114.here hx rfl (hb hby at_129) rfl (l' := #[.val (.int k0), .val (.int k1), .val (.int k2), .val (.int k3), .val (.int k4), .val (.ref b57), .val (.int k2), .val (.int k1), .val (.ref b109), .val (.int (((k4.toUInt32 >>> ((2 : Int32) &&& 31).toUInt32).toInt32) &&& (3 : Int32))), .val (.ref b57), .val (.int (1 : Int32))]) rfl ?_
              show Steps p.tables e below (T114.setTop (mkF m 131 #[.val (.int k0), .val (.int k1), .val (.int k2), .val (.int k3), .val (.int k4), .val (.ref b57), .val (.int k2), .val (.int k1), .val (.ref b109), .val (.int (((k4.toUInt32 >>> ((2 : Int32) &&& 31).toUInt32).toInt32) &&& (3 : Int32))), .val (.ref b57), .val (.int (1 : Int32))] [])) _
              refine XS.aload X114.here hx rfl (hb hby at_131) rfl rfl ?_
              show Steps p.tables e below (T114.setTop (mkF m 133 #[.val (.int k0), .val (.int k1), .val (.int k2), .val (.int k3), .val (.int k4), .val (.ref b57), .val (.int k2), .val (.int k1), .val (.ref b109), .val (.int (((k4.toUInt32 >>> ((2 : Int32) &&& 31).toUInt32).toInt32) &&& (3 : Int32))), .val (.ref b57), .val (.int (1 : Int32))] [(.ref b57)])) _
              refine XS.aload X114.here hx rfl (hb hby at_133) rfl rfl ?_
              show Steps p.tables e below (T114.setTop (mkF m 135 #[.val (.int k0), .val (.int k1), .val (.int k2), .val (.int k3), .val (.int k4), .val (.ref b57), .val (.int k2), .val (.int k1), .val (.ref b109), .val (.int (((k4.toUInt32 >>> ((2 : Int32) &&& 31).toUInt32).toInt32) &&& (3 : Int32))), .val (.ref b57), .val (.int (1 : Int32))] [(.ref b57), (.ref b57)])) _
              refine st144.trans ?_
              show Steps p.tables e below (T144.setTop (mkF m 138 #[.val (.int k0), .val (.int k1), .val (.int k2), .val (.int k3), .val (.int k4), .val (.ref b57), .val (.int k2), .val (.int k1), .val (.ref b109), .val (.int (((k4.toUInt32 >>> ((2 : Int32) &&& 31).toUInt32).toInt32) &&& (3 : Int32))), .val (.ref b57), .val (.int (1 : Int32))] [(.int (1 : Int32))])) _
              refine XS.iload X144.here hx rfl (hb hby at_138) rfl ?_
              show Steps p.tables e below (T144.setTop (mkF m 140 #[.val (.int k0), .val (.int k1), .val (.int k2), .val (.int k3), .val (.int k4), .val (.ref b57), .val (.int k2), .val (.int k1), .val (.ref b109), .val (.int (((k4.toUInt32 >>> ((2 : Int32) &&& 31).toUInt32).toInt32) &&& (3 : Int32))), .val (.ref b57), .val (.int (1 : Int32))] [(.int (1 : Int32)), (.int (1 : Int32))])) _
              refine XS.icmpNo X144.here hx rfl (hb hby at_140) rfl (teq (rfl : (1 : Int32) = (1 : Int32))).2 ?_
              show Steps p.tables e below (T144.setTop (mkF m 143 #[.val (.int k0), .val (.int k1), .val (.int k2), .val (.int k3), .val (.int k4), .val (.ref b57), .val (.int k2), .val (.int k1), .val (.ref b109), .val (.int (((k4.toUInt32 >>> ((2 : Int32) &&& 31).toUInt32).toInt32) &&& (3 : Int32))), .val (.ref b57), .val (.int (1 : Int32))] [])) _
              refine XS.iconst X144.here hx rfl (hb hby at_143) ?_
              show Steps p.tables e below (T144.setTop (mkF m 144 #[.val (.int k0), .val (.int k1), .val (.int k2), .val (.int k3), .val (.int k4), .val (.ref b57), .val (.int k2), .val (.int k1), .val (.ref b109), .val (.int (((k4.toUInt32 >>> ((2 : Int32) &&& 31).toUInt32).toInt32) &&& (3 : Int32))), .val (.ref b57), .val (.int (1 : Int32))] [(.int (1 : Int32))])) _
              refine XS.goto X144.here hx rfl (pc0 := 144) (pc' := 148) rfl (hb hby at_144) (by decide) (by decide) ?_
              show Steps p.tables e below (T144.setTop (mkF m 148 #[.val (.int k0), .val (.int k1), .val (.int k2), .val (.int k3), .val (.int k4), .val (.ref b57), .val (.int k2), .val (.int k1), .val (.ref b109), .val (.int (((k4.toUInt32 >>> ((2 : Int32) &&& 31).toUInt32).toInt32) &&& (3 : Int32))), .val (.ref b57), .val (.int (1 : Int32))] [(.int (1 : Int32))])) _
              exact k_)
            obtain ⟨fs, hr, hrun, hended, hW, hsame⟩ := X144.leave (v := some (.int (1 : Int32))) (fun h => by rw [Bd.returns] at h; cases h)
            refine ⟨_, _, pre145 _ ?_, hrun, hended, _, _, rfl, ?_, ⟨_, rfl⟩, hW, hsame.mono (by decide) (by decide)⟩
            · show Steps p.tables e below (T144.setTop (mkF m 148 #[.val (.int k0), .val (.int k1), .val (.int k2), .val (.int k3), .val (.int k4), .val (.ref b57), .val (.int k2), .val (.int k1), .val (.ref b109), .val (.int (((k4.toUInt32 >>> ((2 : Int32) &&& 31).toUInt32).toInt32) &&& (3 : Int32))), .val (.ref b57), .val (.int (1 : Int32))] [(.int (1 : Int32))])) _
              exact retN X144 hx (t := .boolean) Bd.returns (by simp) (hb hby at_148) hr
            · show Q_0 Z k0 k1 k2 k3 k4 w_cache cl_cache bx h0 n0 _ T144.heap _
              rw [e144]
              exact ⟨rfl, N144⟩
  · have pre146 : ∀ t_, Steps p.tables e below (T61.setTop (mkF m 29 #[.val (.int k0), .val (.int k1), .val (.int k2), .val (.int k3), .val (.int k4), .val (.ref b57), .val (.int k0), .unset, .unset, .unset, .unset, .unset] [(.int (k4 &&& (2 : Int32)))])) t_ → Steps p.tables e below (s₁.setTop (entryFrame m #[(.int k0), (.int k1), (.int k2), (.int k3), (.int k4)] maxLocals)) t_ := fun t_ k_ => pre64 t_ (by
      show Steps p.tables e below (T61.setTop (mkF m 15 #[.val (.int k0), .val (.int k1), .val (.int k2), .val (.int k3), .val (.int k4), .val (.ref b57), .unset, .unset, .unset, .unset, .unset, .unset] [(.int (k4 &&& (1 : Int32)))])) _
      refine XS.ifNo X61.here hx rfl (hb hby at_15) rfl ((if0 _ _).trans (feq hc15_65).1) ?_
      show Steps p.tables e below (T61.setTop (mkF m 18 #[.val (.int k0), .val (.int k1), .val (.int k2), .val (.int k3), .val (.int k4), .val (.ref b57), .unset, .unset, .unset, .unset, .unset, .unset] [])) _
      refine XS.iloadN X61.here hx rfl (hb hby at_18) rfl ?_
      show Steps p.tables e below (T61.setTop (mkF m 19 #[.val (.int k0), .val (.int k1), .val (.int k2), .val (.int k3), .val (.int k4), .val (.ref b57), .unset, .unset, .unset, .unset, .unset, .unset] [(.int k0)])) _
      refine XS.goto X61.here hx rfl (pc0 := 19) (pc' := 23) rfl (hb hby at_19) (by decide) (by decide) ?_
      show Steps p.tables e below (T61.setTop (mkF m 23 #[.val (.int k0), .val (.int k1), .val (.int k2), .val (.int k3), .val (.int k4), .val (.ref b57), .unset, .unset, .unset, .unset, .unset, .unset] [(.int k0)])) _
      refine XS.istore X61.here hx rfl (hb hby at_23) rfl (l' := #[.val (.int k0), .val (.int k1), .val (.int k2), .val (.int k3), .val (.int k4), .val (.ref b57), .val (.int k0), .unset, .unset, .unset, .unset, .unset]) rfl ?_
      show Steps p.tables e below (T61.setTop (mkF m 25 #[.val (.int k0), .val (.int k1), .val (.int k2), .val (.int k3), .val (.int k4), .val (.ref b57), .val (.int k0), .unset, .unset, .unset, .unset, .unset] [])) _
      refine XS.iload X61.here hx rfl (hb hby at_25) rfl ?_
      show Steps p.tables e below (T61.setTop (mkF m 27 #[.val (.int k0), .val (.int k1), .val (.int k2), .val (.int k3), .val (.int k4), .val (.ref b57), .val (.int k0), .unset, .unset, .unset, .unset, .unset] [(.int k4)])) _
      refine XS.iconst X61.here hx rfl (hb hby at_27) ?_
      show Steps p.tables e below (T61.setTop (mkF m 28 #[.val (.int k0), .val (.int k1), .val (.int k2), .val (.int k3), .val (.int k4), .val (.ref b57), .val (.int k0), .unset, .unset, .unset, .unset, .unset] [(.int (2 : Int32)), (.int k4)])) _
      refine XS.iand X61.here hx rfl (hb hby at_28) rfl ?_
      show Steps p.tables e below (T61.setTop (mkF m 29 #[.val (.int k0), .val (.int k1), .val (.int k2), .val (.int k3), .val (.int k4), .val (.ref b57), .val (.int k0), .unset, .unset, .unset, .unset, .unset] [(.int (k4 &&& (2 : Int32)))])) _
      exact k_)
    by_cases hc29_147 : (k4 &&& (2 : Int32)) = (0 : Int32)
    · obtain ⟨T148, h148, X148, e148, E148, A148, D148, -, st148⟩ := newO X61 hx hZ hown (hw _ (List.mem_of_getElem? (i := 0) rfl)) (hw _ (List.mem_of_getElem? (i := 1) rfl)) (hw _ (List.mem_of_getElem? (i := 2) rfl)) rfl (g := (mkF m 39 #[.val (.int k0), .val (.int k1), .val (.int k2), .val (.int k3), .val (.int k4), .val (.ref b57), .val (.int k0), .val (.int k3), .unset, .unset, .unset, .unset] [])) rfl (hb hby at_39) (by decide) (by decide)
      obtain ⟨b148, g148⟩ : ∃ z, z = T61.heap.size := ⟨_, rfl⟩
      rw [← g148] at A148 D148 st148
      have ne_b57_b148 : b57 ≠ b148 := Nat.ne_of_lt (Nat.lt_of_lt_of_le E61x.lt (Nat.le_of_eq g148.symm))
      have gg_b148 : n0 ≤ b148 := Nat.le_trans Zs62 (Nat.le_of_eq g148.symm)
      have sz_b148 : h0.size ≤ b148 := Nat.le_trans O62.1 (Nat.le_of_eq g148.symm)
      have O149 := own_ext_trans O62 E148
      have Zs149 := Nat.le_trans Zs62 (E148).1
      have c150 : Exa Z h148 b57 "com/example/fissure/fissure/games/breakable/Hex" := E61x.ext E148
      have c151 : Fld Z h148 b57 "com/example/fissure/fissure/games/breakable/Hex" "column" "I" (.int k0) := F61_column.ext E148
      have c152 : Fld Z h148 b57 "com/example/fissure/fissure/games/breakable/Hex" "row" "I" (.int k1) := F61_row.ext E148
      have F148_column : Fld Z h148 b148 "com/example/fissure/fissure/games/breakable/Hex" "column" "I" (.int (0 : Int32)) := D148 (Or.inr (hw _ (List.mem_of_getElem? (i := 10) rfl))) (ty := .int) (by decide)
      have F148_row : Fld Z h148 b148 "com/example/fissure/fissure/games/breakable/Hex" "row" "I" (.int (0 : Int32)) := D148 (Or.inr (hw _ (List.mem_of_getElem? (i := 12) rfl))) (ty := .int) (by decide)
      obtain ⟨v153, _, ⟨T153, L153, k153, n153⟩, -, X153, ⟨Lc153, hQ153, l153, y153, z153⟩, st153⟩ := X148.specialBack hx (y := (⟨"com/example/fissure/fissure/games/breakable/Hex", "<init>", "(II)V"⟩ : MethodName)) rfl hown (mvT hZ (hw _ (List.mem_of_getElem? (i := 3) rfl))) (mvT hZ (hw _ (List.mem_of_getElem? (i := 4) rfl))) (mvT hZ (hw _ (List.mem_of_getElem? (i := 5) rfl))) (by decide) (backOf (W := 1) (rm_init l Z a0 hw [] b148 k0 k3 (.int (0 : Int32)) (.int (0 : Int32)) h148 n0 Zs149 A148 gg_b148 F148_column F148_row) hZ (hw _ (List.mem_of_getElem? (i := 5) rfl)) (hw _ (List.mem_of_getElem? (i := 2) rfl)) (by decide) (by decide)) (g := (mkF m 47 #[.val (.int k0), .val (.int k1), .val (.int k2), .val (.int k3), .val (.int k4), .val (.ref b57), .val (.int k0), .val (.int k3), .unset, .unset, .unset, .unset] [(.int k3), (.int k0), (.ref b148), (.ref b148)])) rfl (by rw [hml]; rfl) (Steps.refl _) (a := b148) (argsL := [(.int k0), (.int k3)]) (rest := [(.ref b148)]) (lenOf pd_2 rfl) rfl (by show 2 * 0 + _ ≤ _; exact Nat.le_of_eq rfl) (hb hby at_47) (fun _ _ => ⟨rfl, e148, (by decide : 2 + 0 ≤ _), (by decide : 4 + 0 ≤ _)⟩)
      dsimp only [Pt.U, Pt.locs, Pt.cells, Pt.slots] at X153 l153 y153 z153 st153 hQ153
      subst l153 y153 z153
      obtain ⟨hv153, N153q, M153⟩ := hQ153
      have N153 := Fr.app N61 N153q
      subst hv153
      obtain ⟨K153k, E153x, F153_column, F153_row⟩ := M153
      have O154 := own_ext_keep O149 K153k (allS sz_b148 all0)
      have Zs154 := Nat.le_trans Zs149 K153k.1
      have c155 : Exa Z T153.heap b57 "com/example/fissure/fissure/games/breakable/Hex" := c150.keep K153k
      have c156 : Fld Z T153.heap b57 "com/example/fissure/fissure/games/breakable/Hex" "column" "I" (.int k0) := c151.keep K153k (ninS ne_b57_b148 nin0)
      have c157 : Fld Z T153.heap b57 "com/example/fissure/fissure/games/breakable/Hex" "row" "I" (.int k1) := c152.keep K153k (ninS ne_b57_b148 nin0)
      have c158 : Exa Z T153.heap b148 "com/example/fissure/fissure/games/breakable/Hex" := A148.keep K153k
      have pre159 : ∀ t_, Steps p.tables e below (T153.setTop (mkF m 62 #[.val (.int k0), .val (.int k1), .val (.int k2), .val (.int k3), .val (.int k4), .val (.ref b57), .val (.int k0), .val (.int k3), .val (.ref b148), .val (.int (((k4.toUInt32 >>> ((2 : Int32) &&& 31).toUInt32).toInt32) &&& (3 : Int32))), .unset, .unset] [(.int (((k4.toUInt32 >>> ((2 : Int32) &&& 31).toUInt32).toInt32) &&& (3 : Int32)))])) t_ → Steps p.tables e below (s₁.setTop (entryFrame m #[(.int k0), (.int k1), (.int k2), (.int k3), (.int k4)] maxLocals)) t_ := fun t_ k_ => pre146 t_ (by
        show Steps p.tables e below (T61.setTop (mkF m 29 #[.val (.int k0), .val (.int k1), .val (.int k2), .val (.int k3), .val (.int k4), .val (.ref b57), .val (.int k0), .unset, .unset, .unset, .unset, .unset] [(.int (k4 &&& (2 : Int32)))])) _
        refine XS.ifYes X61.here hx rfl (pc0 := 29) (pc' := 36) rfl (hb hby at_29) rfl ((if0 _ _).trans (teq hc29_147).1) (by decide) (by decide) ?_
        show Steps p.tables e below (T61.setTop (mkF m 36 #[.val (.int k0), .val (.int k1), .val (.int k2), .val (.int k3), .val (.int k4), .val (.ref b57), .val (.int k0), .unset, .unset, .unset, .unset, .unset] [])) _
        refine XS.iloadN X61.here hx rfl (hb hby at_36) rfl ?_
        show Steps p.tables e below (T61.setTop (mkF m 37 #[.val (.int k0), .val (.int k1), .val (.int k2), .val (.int k3), .val (.int k4), .val (.ref b57), .val (.int k0), .unset, .unset, .unset, .unset, .unset] [(.int k3)])) _
        refine XS.istore X61.here hx rfl (hb hby at_37) rfl (l' := #[.val (.int k0), .val (.int k1), .val (.int k2), .val (.int k3), .val (.int k4), .val (.ref b57), .val (.int k0), .val (.int k3), .unset, .unset, .unset, .unset]) rfl ?_
        show Steps p.tables e below (T61.setTop (mkF m 39 #[.val (.int k0), .val (.int k1), .val (.int k2), .val (.int k3), .val (.int k4), .val (.ref b57), .val (.int k0), .val (.int k3), .unset, .unset, .unset, .unset] [])) _
        refine st148 _ ?_
        show Steps p.tables e below (T148.setTop (mkF m 42 #[.val (.int k0), .val (.int k1), .val (.int k2), .val (.int k3), .val (.int k4), .val (.ref b57), .val (.int k0), .val (.int k3), .unset, .unset, .unset, .unset] [(.ref b148)])) _
        refine XS.dup X148.here hx rfl (hb hby at_42) rfl rfl ?_
        show Steps p.tables e below (T148.setTop (mkF m 43 #[.val (.int k0), .val (.int k1), .val (.int k2), .val (.int k3), .val (.int k4), .val (.ref b57), .val (.int k0), .val (.int k3), .unset, .unset, .unset, .unset] [(.ref b148), (.ref b148)])) _
        refine XS.iload X148.here hx rfl (hb hby at_43) rfl ?_
        show Steps p.tables e below (T148.setTop (mkF m 45 #[.val (.int k0), .val (.int k1), .val (.int k2), .val (.int k3), .val (.int k4), .val (.ref b57), .val (.int k0), .val (.int k3), .unset, .unset, .unset, .unset] [(.int k0), (.ref b148), (.ref b148)])) _
        refine XS.iload X148.here hx rfl (hb hby at_45) rfl ?_
        show Steps p.tables e below (T148.setTop (mkF m 47 #[.val (.int k0), .val (.int k1), .val (.int k2), .val (.int k3), .val (.int k4), .val (.ref b57), .val (.int k0), .val (.int k3), .unset, .unset, .unset, .unset] [(.int k3), (.int k0), (.ref b148), (.ref b148)])) _
        refine st153.trans ?_
        show Steps p.tables e below (T153.setTop (mkF m 50 #[.val (.int k0), .val (.int k1), .val (.int k2), .val (.int k3), .val (.int k4), .val (.ref b57), .val (.int k0), .val (.int k3), .unset, .unset, .unset, .unset] [(.ref b148)])) _
        refine XS.astore X153.here hx rfl (hb hby at_50) rfl rfl (l' := #[.val (.int k0), .val (.int k1), .val (.int k2), .val (.int k3), .val (.int k4), .val (.ref b57), .val (.int k0), .val (.int k3), .val (.ref b148), .unset, .unset, .unset]) rfl ?_
        show Steps p.tables e below (T153.setTop (mkF m 52 #[.val (.int k0), .val (.int k1), .val (.int k2), .val (.int k3), .val (.int k4), .val (.ref b57), .val (.int k0), .val (.int k3), .val (.ref b148), .unset, .unset, .unset] [])) _
        refine XS.iload X153.here hx rfl (hb hby at_52) rfl ?_
        show Steps p.tables e below (T153.setTop (mkF m 54 #[.val (.int k0), .val (.int k1), .val (.int k2), .val (.int k3), .val (.int k4), .val (.ref b57), .val (.int k0), .val (.int k3), .val (.ref b148), .unset, .unset, .unset] [(.int k4)])) _
        refine XS.iconst X153.here hx rfl (hb hby at_54) ?_
        show Steps p.tables e below (T153.setTop (mkF m 55 #[.val (.int k0), .val (.int k1), .val (.int k2), .val (.int k3), .val (.int k4), .val (.ref b57), .val (.int k0), .val (.int k3), .val (.ref b148), .unset, .unset, .unset] [(.int (2 : Int32)), (.int k4)])) _
        refine XS.iushr X153.here hx rfl (hb hby at_55) rfl ?_
        show Steps p.tables e below (T153.setTop (mkF m 56 #[.val (.int k0), .val (.int k1), .val (.int k2), .val (.int k3), .val (.int k4), .val (.ref b57), .val (.int k0), .val (.int k3), .val (.ref b148), .unset, .unset, .unset] [(.int ((k4.toUInt32 >>> ((2 : Int32) &&& 31).toUInt32).toInt32))])) _
        refine XS.iconst X153.here hx rfl (hb hby at_56) ?_
        show Steps p.tables e below (T153.setTop (mkF m 57 #[.val (.int k0), .val (.int k1), .val (.int k2), .val (.int k3), .val (.int k4), .val (.ref b57), .val (.int k0), .val (.int k3), .val (.ref b148), .unset, .unset, .unset] [(.int (3 : Int32)), (.int ((k4.toUInt32 >>> ((2 : Int32) &&& 31).toUInt32).toInt32))])) _
        refine XS.iand X153.here hx rfl (hb hby at_57) rfl ?_
        show Steps p.tables e below (T153.setTop (mkF m 58 #[.val (.int k0), .val (.int k1), .val (.int k2), .val (.int k3), .val (.int k4), .val (.ref b57), .val (.int k0), .val (.int k3), .val (.ref b148), .unset, .unset, .unset] [(.int (((k4.toUInt32 >>> ((2 : Int32) &&& 31).toUInt32).toInt32) &&& (3 : Int32)))])) _
        refine XS.istore X153.here hx rfl (hb hby at_58) rfl (l' := #[.val (.int k0), .val (.int k1), .val (.int k2), .val (.int k3), .val (.int k4), .val (.ref b57), .val (.int k0), .val (.int k3), .val (.ref b148), .val (.int (((k4.toUInt32 >>> ((2 : Int32) &&& 31).toUInt32).toInt32) &&& (3 : Int32))), .unset, .unset]) rfl ?_
        show Steps p.tables e below (T153.setTop (mkF m 60 #[.val (.int k0), .val (.int k1), .val (.int k2), .val (.int k3), .val (.int k4), .val (.ref b57), .val (.int k0), .val (.int k3), .val (.ref b148), .val (.int (((k4.toUInt32 >>> ((2 : Int32) &&& 31).toUInt32).toInt32) &&& (3 : Int32))), .unset, .unset] [])) _
        refine XS.iload X153.here hx rfl (hb hby at_60) rfl ?_
        show Steps p.tables e below (T153.setTop (mkF m 62 #[.val (.int k0), .val (.int k1), .val (.int k2), .val (.int k3), .val (.int k4), .val (.ref b57), .val (.int k0), .val (.int k3), .val (.ref b148), .val (.int (((k4.toUInt32 >>> ((2 : Int32) &&& 31).toUInt32).toInt32) &&& (3 : Int32))), .unset, .unset] [(.int (((k4.toUInt32 >>> ((2 : Int32) &&& 31).toUInt32).toInt32) &&& (3 : Int32)))])) _
        exact k_)
      by_cases hc62_160 : (((k4.toUInt32 >>> ((2 : Int32) &&& 31).toUInt32).toInt32) &&& (3 : Int32)) = (0 : Int32)
      · have pre161 : ∀ t_, Steps p.tables e below (T153.setTop (mkF m 78 #[.val (.int k0), .val (.int k1), .val (.int k2), .val (.int k3), .val (.int k4), .val (.ref b57), .val (.int k0), .val (.int k3), .val (.ref b148), .val (.int (((k4.toUInt32 >>> ((2 : Int32) &&& 31).toUInt32).toInt32) &&& (3 : Int32))), .val (.ref b148), .unset] [(.int k3), (.int k1)])) t_ → Steps p.tables e below (s₁.setTop (entryFrame m #[(.int k0), (.int k1), (.int k2), (.int k3), (.int k4)] maxLocals)) t_ := fun t_ k_ => pre159 t_ (by
          show Steps p.tables e below (T153.setTop (mkF m 62 #[.val (.int k0), .val (.int k1), .val (.int k2), .val (.int k3), .val (.int k4), .val (.ref b57), .val (.int k0), .val (.int k3), .val (.ref b148), .val (.int (((k4.toUInt32 >>> ((2 : Int32) &&& 31).toUInt32).toInt32) &&& (3 : Int32))), .unset, .unset] [(.int (((k4.toUInt32 >>> ((2 : Int32) &&& 31).toUInt32).toInt32) &&& (3 : Int32)))])) _
          refine XS.ifNo X153.here hx rfl (hb hby at_62) rfl ((if0 _ _).trans (teq hc62_160).2) ?_
          show Steps p.tables e below (T153.setTop (mkF m 65 #[.val (.int k0), .val (.int k1), .val (.int k2), .val (.int k3), .val (.int k4), .val (.ref b57), .val (.int k0), .val (.int k3), .val (.ref b148), .val (.int (((k4.toUInt32 >>> ((2 : Int32) &&& 31).toUInt32).toInt32) &&& (3 : Int32))), .unset, .unset] [])) _
          refine XS.aload X153.here hx rfl (hb hby at_65) rfl rfl ?_
          show Steps p.tables e below (T153.setTop (mkF m 67 #[.val (.int k0), .val (.int k1), .val (.int k2), .val (.int k3), .val (.int k4), .val (.ref b57), .val (.int k0), .val (.int k3), .val (.ref b148), .val (.int (((k4.toUInt32 >>> ((2 : Int32) &&& 31).toUInt32).toInt32) &&& (3 : Int32))), .unset, .unset] [(.ref b148)])) _
          refine XS.astore X153.here hx rfl (hb hby at_67) rfl rfl (l' := #[.val (.int k0), .val (.int k1), .val (.int k2), .val (.int k3), .val (.int k4), .val (.ref b57), .val (.int k0), .val (.int k3), .val (.ref b148), .val (.int (((k4.toUInt32 >>> ((2 : Int32) &&& 31).toUInt32).toInt32) &&& (3 : Int32))), .val (.ref b148), .unset]) rfl ?_
          show Steps p.tables e below (T153.setTop (mkF m 69 #[.val (.int k0), .val (.int k1), .val (.int k2), .val (.int k3), .val (.int k4), .val (.ref b57), .val (.int k0), .val (.int k3), .val (.ref b148), .val (.int (((k4.toUInt32 >>> ((2 : Int32) &&& 31).toUInt32).toInt32) &&& (3 : Int32))), .val (.ref b148), .unset] [])) _
          refine XS.iloadN X153.here hx rfl (hb hby at_69) rfl ?_
          show Steps p.tables e below (T153.setTop (mkF m 70 #[.val (.int k0), .val (.int k1), .val (.int k2), .val (.int k3), .val (.int k4), .val (.ref b57), .val (.int k0), .val (.int k3), .val (.ref b148), .val (.int (((k4.toUInt32 >>> ((2 : Int32) &&& 31).toUInt32).toInt32) &&& (3 : Int32))), .val (.ref b148), .unset] [(.int k0)])) _
          refine XS.iload X153.here hx rfl (hb hby at_70) rfl ?_
          show Steps p.tables e below (T153.setTop (mkF m 72 #[.val (.int k0), .val (.int k1), .val (.int k2), .val (.int k3), .val (.int k4), .val (.ref b57), .val (.int k0), .val (.int k3), .val (.ref b148), .val (.int (((k4.toUInt32 >>> ((2 : Int32) &&& 31).toUInt32).toInt32) &&& (3 : Int32))), .val (.ref b148), .unset] [(.int k0), (.int k0)])) _
          refine XS.icmpNo X153.here hx rfl (hb hby at_72) rfl (teq (rfl : k0 = k0)).2 ?_
          show Steps p.tables e below (T153.setTop (mkF m 75 #[.val (.int k0), .val (.int k1), .val (.int k2), .val (.int k3), .val (.int k4), .val (.ref b57), .val (.int k0), .val (.int k3), .val (.ref b148), .val (.int (((k4.toUInt32 >>> ((2 : Int32) &&& 31).toUInt32).toInt32) &&& (3 : Int32))), .val (.ref b148), .unset] [])) _
          refine XS.iloadN X153.here hx rfl (hb hby at_75) rfl ?_
          show Steps p.tables e below (T153.setTop (mkF m 76 #[.val (.int k0), .val (.int k1), .val (.int k2), .val (.int k3), .val (.int k4), .val (.ref b57), .val (.int k0), .val (.int k3), .val (.ref b148), .val (.int (((k4.toUInt32 >>> ((2 : Int32) &&& 31).toUInt32).toInt32) &&& (3 : Int32))), .val (.ref b148), .unset] [(.int k1)])) _
          refine XS.iload X153.here hx rfl (hb hby at_76) rfl ?_
          show Steps p.tables e below (T153.setTop (mkF m 78 #[.val (.int k0), .val (.int k1), .val (.int k2), .val (.int k3), .val (.int k4), .val (.ref b57), .val (.int k0), .val (.int k3), .val (.ref b148), .val (.int (((k4.toUInt32 >>> ((2 : Int32) &&& 31).toUInt32).toInt32) &&& (3 : Int32))), .val (.ref b148), .unset] [(.int k3), (.int k1)])) _
          exact k_)
        by_cases hc78_162 : k1 = k3
        · obtain ⟨cq163, kq163, q163a, q163b, q163c⟩ := isOf hZ rfl c155
          obtain ⟨v163, _, ⟨T163, L163, k163, n163⟩, -, X163, ⟨Lc163, hQ163, l163, y163, z163⟩, st163⟩ := X153.virtualBack hx (y := (⟨"com/example/fissure/fissure/games/breakable/Hex", "equals", "(Ljava/lang/Object;)Z"⟩ : MethodName)) (z := (⟨"com/example/fissure/fissure/games/breakable/Hex", "equals", "(Ljava/lang/Object;)Z"⟩ : MethodName)) hown (mvT hZ (hw _ (List.mem_of_getElem? (i := 13) rfl))) (mvT hZ (hw _ (List.mem_of_getElem? (i := 14) rfl))) (notFace_of_selects (args := #[]) (mvT hZ (hw _ (List.mem_of_getElem? (i := 16) rfl)))) (mvT hZ (hw _ (List.mem_of_getElem? (i := 16) rfl))) (mvT hZ (hw _ (List.mem_of_getElem? (i := 15) rfl))) (by decide) (backOf (W := 0) (rm_eqC l Z a0 hw [] b57 b148 k0 k1 k0 k3 T153.heap n0 Zs154 E153x c156 c157 F153_column F153_row) hZ (hw _ (List.mem_of_getElem? (i := 17) rfl)) (hw _ (List.mem_of_getElem? (i := 2) rfl)) (by decide) (by decide)) q163a q163c (g := (mkF m 135 #[.val (.int k0), .val (.int k1), .val (.int k2), .val (.int k3), .val (.int k4), .val (.ref b57), .val (.int k0), .val (.int k3), .val (.ref b148), .val (.int (((k4.toUInt32 >>> ((2 : Int32) &&& 31).toUInt32).toInt32) &&& (3 : Int32))), .val (.ref b148), .val (.int (1 : Int32))] [(.ref b148), (.ref b57)])) rfl (by rw [hml]; rfl) (Steps.refl _) (argsL := [(.ref b148)]) (rest := []) (lenOf pd_3 rfl) rfl (by show 2 * 0 + _ ≤ _; exact Nat.le_of_eq rfl) (hb hby at_135) (fun _ _ => ⟨rfl, rfl, (by decide : 2 + 0 ≤ _), (by decide : 4 + 0 ≤ _)⟩)
          dsimp only [Pt.U, Pt.locs, Pt.cells, Pt.slots] at X163 l163 y163 z163 st163 hQ163
          subst l163 y163 z163
          obtain ⟨hv163, N163q, e163⟩ := hQ163
          have N163 := Fr.app N153 N163q
          have hw163 : v163 = some (.int (1 : Int32)) := hv163.trans (congrArg (fun z => some (Value.int z)) (own_yes rfl hc78_162))
          subst hw163
          have pre164 : ∀ t_, Steps p.tables e below (T163.setTop (mkF m 148 #[.val (.int k0), .val (.int k1), .val (.int k2), .val (.int k3), .val (.int k4), .val (.ref b57), .val (.int k0), .val (.int k3), .val (.ref b148), .val (.int (((k4.toUInt32 >>> ((2 : Int32) &&& 31).toUInt32).toInt32) &&& (3 : Int32))), .val (.ref b148), .val (.int (1 : Int32))] [(.int (1 : Int32))])) t_ → Steps p.tables e below (s₁.setTop (entryFrame m #[(.int k0), (.int k1), (.int k2), (.int k3), (.int k4)] maxLocals)) t_ := fun t_ k_ => pre161 t_ (by
            show Steps p.tables e below (T153.setTop (mkF m 78 #[.val (.int k0), .val (.int k1), .val (.int k2), .val (.int k3), .val (.int k4), .val (.ref b57), .val (.int k0), .val (.int k3), .val (.ref b148), .val (.int (((k4.toUInt32 >>> ((2 : Int32) &&& 31).toUInt32).toInt32) &&& (3 : Int32))), .val (.ref b148), .unset] [(.int k3), (.int k1)])) _
            refine XS.icmpNo X153.here hx rfl (hb hby at_78) rfl (teq hc78_162).2 ?_
            show Steps p.tables e below (T153.setTop (mkF m 81 #[.val (.int k0), .val (.int k1), .val (.int k2), .val (.int k3), .val (.int k4), .val (.ref b57), .val (.int k0), .val (.int k3), .val (.ref b148), .val (.int (((k4.toUInt32 >>> ((2 : Int32) &&& 31).toUInt32).toInt32) &&& (3 : Int32))), .val (.ref b148), .unset] [])) _
            refine XS.iconst X153.here hx rfl (hb hby at_81) ?_
            show Steps p.tables e below (T153.setTop (mkF m 82 #[.val (.int k0), .val (.int k1), .val (.int k2), .val (.int k3), .val (.int k4), .val (.ref b57), .val (.int k0), .val (.int k3), .val (.ref b148), .val (.int (((k4.toUInt32 >>> ((2 : Int32) &&& 31).toUInt32).toInt32) &&& (3 : Int32))), .val (.ref b148), .unset] [(.int (1 : Int32))])) _
            refine XS.goto X153.here hx rfl (pc0 := 82) (pc' := 86) rfl (hb hby at_82) (by decide) (by decide) ?_
            show Steps p.tables e below (T153.setTop (mkF m 86 #[.val (.int k0), .val (.int k1), .val (.int k2), .val (.int k3), .val (.int k4), .val (.ref b57), .val (.int k0), .val (.int k3), .val (.ref b148), .val (.int (((k4.toUInt32 >>> ((2 : Int32) &&& 31).toUInt32).toInt32) &&& (3 : Int32))), .val (.ref b148), .unset] [(.int (1 : Int32))])) _
            refine XS.istore X153.here hx rfl (hb hby at_86) rfl (l' := #[.val (.int k0), .val (.int k1), .val (.int k2), .val (.int k3), .val (.int k4), .val (.ref b57), .val (.int k0), .val (.int k3), .val (.ref b148), .val (.int (((k4.toUInt32 >>> ((2 : Int32) &&& 31).toUInt32).toInt32) &&& (3 : Int32))), .val (.ref b148), .val (.int (1 : Int32))]) rfl ?_
            show Steps p.tables e below (T153.setTop (mkF m 88 #[.val (.int k0), .val (.int k1), .val (.int k2), .val (.int k3), .val (.int k4), .val (.ref b57), .val (.int k0), .val (.int k3), .val (.ref b148), .val (.int (((k4.toUInt32 >>> ((2 : Int32) &&& 31).toUInt32).toInt32) &&& (3 : Int32))), .val (.ref b148), .val (.int (1 : Int32))] [])) _
            refine XS.goto X153.here hx rfl (pc0 := 88) (pc' := 131) rfl (hb hby at_88) (by decide) (by decide) ?_
            show Steps p.tables e below (T153.setTop (mkF m 131 #[.val (.int k0), .val (.int k1), .val (.int k2), .val (.int k3), .val (.int k4), .val (.ref b57), .val (.int k0), .val (.int k3), .val (.ref b148), .val (.int (((k4.toUInt32 >>> ((2 : Int32) &&& 31).toUInt32).toInt32) &&& (3 : Int32))), .val (.ref b148), .val (.int (1 : Int32))] [])) _
            refine XS.aload X153.here hx rfl (hb hby at_131) rfl rfl ?_
            show Steps p.tables e below (T153.setTop (mkF m 133 #[.val (.int k0), .val (.int k1), .val (.int k2), .val (.int k3), .val (.int k4), .val (.ref b57), .val (.int k0), .val (.int k3), .val (.ref b148), .val (.int (((k4.toUInt32 >>> ((2 : Int32) &&& 31).toUInt32).toInt32) &&& (3 : Int32))), .val (.ref b148), .val (.int (1 : Int32))] [(.ref b57)])) _
            refine XS.aload X153.here hx rfl (hb hby at_133) rfl rfl ?_
            show Steps p.tables e below (T153.setTop (mkF m 135 #[.val (.int k0), .val (.int k1), .val (.int k2), .val (.int k3), .val (.int k4), .val (.ref b57), .val (.int k0), .val (.int k3), .val (.ref b148), .val (.int (((k4.toUInt32 >>> ((2 : Int32) &&& 31).toUInt32).toInt32) &&& (3 : Int32))), .val (.ref b148), .val (.int (1 : Int32))] [(.ref b148), (.ref b57)])) _
            refine st163.trans ?_
            show Steps p.tables e below (T163.setTop (mkF m 138 #[.val (.int k0), .val (.int k1), .val (.int k2), .val (.int k3), .val (.int k4), .val (.ref b57), .val (.int k0), .val (.int k3), .val (.ref b148), .val (.int (((k4.toUInt32 >>> ((2 : Int32) &&& 31).toUInt32).toInt32) &&& (3 : Int32))), .val (.ref b148), .val (.int (1 : Int32))] [(.int (1 : Int32))])) _
            refine XS.iload X163.here hx rfl (hb hby at_138) rfl ?_
            show Steps p.tables e below (T163.setTop (mkF m 140 #[.val (.int k0), .val (.int k1), .val (.int k2), .val (.int k3), .val (.int k4), .val (.ref b57), .val (.int k0), .val (.int k3), .val (.ref b148), .val (.int (((k4.toUInt32 >>> ((2 : Int32) &&& 31).toUInt32).toInt32) &&& (3 : Int32))), .val (.ref b148), .val (.int (1 : Int32))] [(.int (1 : Int32)), (.int (1 : Int32))])) _
            refine XS.icmpNo X163.here hx rfl (hb hby at_140) rfl (teq (rfl : (1 : Int32) = (1 : Int32))).2 ?_
            show Steps p.tables e below (T163.setTop (mkF m 143 #[.val (.int k0), .val (.int k1), .val (.int k2), .val (.int k3), .val (.int k4), .val (.ref b57), .val (.int k0), .val (.int k3), .val (.ref b148), .val (.int (((k4.toUInt32 >>> ((2 : Int32) &&& 31).toUInt32).toInt32) &&& (3 : Int32))), .val (.ref b148), .val (.int (1 : Int32))] [])) _
            refine XS.iconst X163.here hx rfl (hb hby at_143) ?_
            show Steps p.tables e below (T163.setTop (mkF m 144 #[.val (.int k0), .val (.int k1), .val (.int k2), .val (.int k3), .val (.int k4), .val (.ref b57), .val (.int k0), .val (.int k3), .val (.ref b148), .val (.int (((k4.toUInt32 >>> ((2 : Int32) &&& 31).toUInt32).toInt32) &&& (3 : Int32))), .val (.ref b148), .val (.int (1 : Int32))] [(.int (1 : Int32))])) _
            refine XS.goto X163.here hx rfl (pc0 := 144) (pc' := 148) rfl (hb hby at_144) (by decide) (by decide) ?_
            show Steps p.tables e below (T163.setTop (mkF m 148 #[.val (.int k0), .val (.int k1), .val (.int k2), .val (.int k3), .val (.int k4), .val (.ref b57), .val (.int k0), .val (.int k3), .val (.ref b148), .val (.int (((k4.toUInt32 >>> ((2 : Int32) &&& 31).toUInt32).toInt32) &&& (3 : Int32))), .val (.ref b148), .val (.int (1 : Int32))] [(.int (1 : Int32))])) _
            exact k_)
          obtain ⟨fs, hr, hrun, hended, hW, hsame⟩ := X163.leave (v := some (.int (1 : Int32))) (fun h => by rw [Bd.returns] at h; cases h)
          refine ⟨_, _, pre164 _ ?_, hrun, hended, _, _, rfl, ?_, ⟨_, rfl⟩, hW, hsame.mono (by decide) (by decide)⟩
          · show Steps p.tables e below (T163.setTop (mkF m 148 #[.val (.int k0), .val (.int k1), .val (.int k2), .val (.int k3), .val (.int k4), .val (.ref b57), .val (.int k0), .val (.int k3), .val (.ref b148), .val (.int (((k4.toUInt32 >>> ((2 : Int32) &&& 31).toUInt32).toInt32) &&& (3 : Int32))), .val (.ref b148), .val (.int (1 : Int32))] [(.int (1 : Int32))])) _
            exact retN X163 hx (t := .boolean) Bd.returns (by simp) (hb hby at_148) hr
          · show Q_0 Z k0 k1 k2 k3 k4 w_cache cl_cache bx h0 n0 _ T163.heap _
            rw [e163]
            exact ⟨rfl, N163⟩
        · obtain ⟨cq165, kq165, q165a, q165b, q165c⟩ := isOf hZ rfl c155
          obtain ⟨v165, _, ⟨T165, L165, k165, n165⟩, -, X165, ⟨Lc165, hQ165, l165, y165, z165⟩, st165⟩ := X153.virtualBack hx (y := (⟨"com/example/fissure/fissure/games/breakable/Hex", "equals", "(Ljava/lang/Object;)Z"⟩ : MethodName)) (z := (⟨"com/example/fissure/fissure/games/breakable/Hex", "equals", "(Ljava/lang/Object;)Z"⟩ : MethodName)) hown (mvT hZ (hw _ (List.mem_of_getElem? (i := 13) rfl))) (mvT hZ (hw _ (List.mem_of_getElem? (i := 14) rfl))) (notFace_of_selects (args := #[]) (mvT hZ (hw _ (List.mem_of_getElem? (i := 16) rfl)))) (mvT hZ (hw _ (List.mem_of_getElem? (i := 16) rfl))) (mvT hZ (hw _ (List.mem_of_getElem? (i := 15) rfl))) (by decide) (backOf (W := 0) (rm_eqC l Z a0 hw [] b57 b148 k0 k1 k0 k3 T153.heap n0 Zs154 E153x c156 c157 F153_column F153_row) hZ (hw _ (List.mem_of_getElem? (i := 17) rfl)) (hw _ (List.mem_of_getElem? (i := 2) rfl)) (by decide) (by decide)) q165a q165c (g := (mkF m 135 #[.val (.int k0), .val (.int k1), .val (.int k2), .val (.int k3), .val (.int k4), .val (.ref b57), .val (.int k0), .val (.int k3), .val (.ref b148), .val (.int (((k4.toUInt32 >>> ((2 : Int32) &&& 31).toUInt32).toInt32) &&& (3 : Int32))), .val (.ref b148), .val (.int (0 : Int32))] [(.ref b148), (.ref b57)])) rfl (by rw [hml]; rfl) (Steps.refl _) (argsL := [(.ref b148)]) (rest := []) (lenOf pd_3 rfl) rfl (by show 2 * 0 + _ ≤ _; exact Nat.le_of_eq rfl) (hb hby at_135) (fun _ _ => ⟨rfl, rfl, (by decide : 2 + 0 ≤ _), (by decide : 4 + 0 ≤ _)⟩)
          dsimp only [Pt.U, Pt.locs, Pt.cells, Pt.slots] at X165 l165 y165 z165 st165 hQ165
          subst l165 y165 z165
          obtain ⟨hv165, N165q, e165⟩ := hQ165
          have N165 := Fr.app N153 N165q
          have hw165 : v165 = some (.int (0 : Int32)) := hv165.trans (congrArg (fun z => some (Value.int z)) (own_n2 rfl hc78_162))
          subst hw165
          have pre166 : ∀ t_, Steps p.tables e below (T165.setTop (mkF m 148 #[.val (.int k0), .val (.int k1), .val (.int k2), .val (.int k3), .val (.int k4), .val (.ref b57), .val (.int k0), .val (.int k3), .val (.ref b148), .val (.int (((k4.toUInt32 >>> ((2 : Int32) &&& 31).toUInt32).toInt32) &&& (3 : Int32))), .val (.ref b148), .val (.int (0 : Int32))] [(.int (1 : Int32))])) t_ → Steps p.tables e below (s₁.setTop (entryFrame m #[(.int k0), (.int k1), (.int k2), (.int k3), (.int k4)] maxLocals)) t_ := fun t_ k_ => pre161 t_ (by
            show Steps p.tables e below (T153.setTop (mkF m 78 #[.val (.int k0), .val (.int k1), .val (.int k2), .val (.int k3), .val (.int k4), .val (.ref b57), .val (.int k0), .val (.int k3), .val (.ref b148), .val (.int (((k4.toUInt32 >>> ((2 : Int32) &&& 31).toUInt32).toInt32) &&& (3 : Int32))), .val (.ref b148), .unset] [(.int k3), (.int k1)])) _
            refine XS.icmpYes X153.here hx rfl (pc0 := 78) (pc' := 85) rfl (hb hby at_78) rfl (feq hc78_162).2 (by decide) (by decide) ?_
            show Steps p.tables e below (T153.setTop (mkF m 85 #[.val (.int k0), .val (.int k1), .val (.int k2), .val (.int k3), .val (.int k4), .val (.ref b57), .val (.int k0), .val (.int k3), .val (.ref b148), .val (.int (((k4.toUInt32 >>> ((2 : Int32) &&& 31).toUInt32).toInt32) &&& (3 : Int32))), .val (.ref b148), .unset] [])) _
            refine XS.iconst X153.here hx rfl (hb hby at_85) ?_
            show Steps p.tables e below (T153.setTop (mkF m 86 #[.val (.int k0), .val (.int k1), .val (.int k2), .val (.int k3), .val (.int k4), .val (.ref b57), .val (.int k0), .val (.int k3), .val (.ref b148), .val (.int (((k4.toUInt32 >>> ((2 : Int32) &&& 31).toUInt32).toInt32) &&& (3 : Int32))), .val (.ref b148), .unset] [(.int (0 : Int32))])) _
            refine XS.istore X153.here hx rfl (hb hby at_86) rfl (l' := #[.val (.int k0), .val (.int k1), .val (.int k2), .val (.int k3), .val (.int k4), .val (.ref b57), .val (.int k0), .val (.int k3), .val (.ref b148), .val (.int (((k4.toUInt32 >>> ((2 : Int32) &&& 31).toUInt32).toInt32) &&& (3 : Int32))), .val (.ref b148), .val (.int (0 : Int32))]) rfl ?_
            show Steps p.tables e below (T153.setTop (mkF m 88 #[.val (.int k0), .val (.int k1), .val (.int k2), .val (.int k3), .val (.int k4), .val (.ref b57), .val (.int k0), .val (.int k3), .val (.ref b148), .val (.int (((k4.toUInt32 >>> ((2 : Int32) &&& 31).toUInt32).toInt32) &&& (3 : Int32))), .val (.ref b148), .val (.int (0 : Int32))] [])) _
            refine XS.goto X153.here hx rfl (pc0 := 88) (pc' := 131) rfl (hb hby at_88) (by decide) (by decide) ?_
            show Steps p.tables e below (T153.setTop (mkF m 131 #[.val (.int k0), .val (.int k1), .val (.int k2), .val (.int k3), .val (.int k4), .val (.ref b57), .val (.int k0), .val (.int k3), .val (.ref b148), .val (.int (((k4.toUInt32 >>> ((2 : Int32) &&& 31).toUInt32).toInt32) &&& (3 : Int32))), .val (.ref b148), .val (.int (0 : Int32))] [])) _
            refine XS.aload X153.here hx rfl (hb hby at_131) rfl rfl ?_
            show Steps p.tables e below (T153.setTop (mkF m 133 #[.val (.int k0), .val (.int k1), .val (.int k2), .val (.int k3), .val (.int k4), .val (.ref b57), .val (.int k0), .val (.int k3), .val (.ref b148), .val (.int (((k4.toUInt32 >>> ((2 : Int32) &&& 31).toUInt32).toInt32) &&& (3 : Int32))), .val (.ref b148), .val (.int (0 : Int32))] [(.ref b57)])) _
            refine XS.aload X153.here hx rfl (hb hby at_133) rfl rfl ?_
            show Steps p.tables e below (T153.setTop (mkF m 135 #[.val (.int k0), .val (.int k1), .val (.int k2), .val (.int k3), .val (.int k4), .val (.ref b57), .val (.int k0), .val (.int k3), .val (.ref b148), .val (.int (((k4.toUInt32 >>> ((2 : Int32) &&& 31).toUInt32).toInt32) &&& (3 : Int32))), .val (.ref b148), .val (.int (0 : Int32))] [(.ref b148), (.ref b57)])) _
            refine st165.trans ?_
            show Steps p.tables e below (T165.setTop (mkF m 138 #[.val (.int k0), .val (.int k1), .val (.int k2), .val (.int k3), .val (.int k4), .val (.ref b57), .val (.int k0), .val (.int k3), .val (.ref b148), .val (.int (((k4.toUInt32 >>> ((2 : Int32) &&& 31).toUInt32).toInt32) &&& (3 : Int32))), .val (.ref b148), .val (.int (0 : Int32))] [(.int (0 : Int32))])) _
            refine XS.iload X165.here hx rfl (hb hby at_138) rfl ?_
            show Steps p.tables e below (T165.setTop (mkF m 140 #[.val (.int k0), .val (.int k1), .val (.int k2), .val (.int k3), .val (.int k4), .val (.ref b57), .val (.int k0), .val (.int k3), .val (.ref b148), .val (.int (((k4.toUInt32 >>> ((2 : Int32) &&& 31).toUInt32).toInt32) &&& (3 : Int32))), .val (.ref b148), .val (.int (0 : Int32))] [(.int (0 : Int32)), (.int (0 : Int32))])) _
            refine XS.icmpNo X165.here hx rfl (hb hby at_140) rfl (teq (rfl : (0 : Int32) = (0 : Int32))).2 ?_
            show Steps p.tables e below (T165.setTop (mkF m 143 #[.val (.int k0), .val (.int k1), .val (.int k2), .val (.int k3), .val (.int k4), .val (.ref b57), .val (.int k0), .val (.int k3), .val (.ref b148), .val (.int (((k4.toUInt32 >>> ((2 : Int32) &&& 31).toUInt32).toInt32) &&& (3 : Int32))), .val (.ref b148), .val (.int (0 : Int32))] [])) _
            refine XS.iconst X165.here hx rfl (hb hby at_143) ?_
            show Steps p.tables e below (T165.setTop (mkF m 144 #[.val (.int k0), .val (.int k1), .val (.int k2), .val (.int k3), .val (.int k4), .val (.ref b57), .val (.int k0), .val (.int k3), .val (.ref b148), .val (.int (((k4.toUInt32 >>> ((2 : Int32) &&& 31).toUInt32).toInt32) &&& (3 : Int32))), .val (.ref b148), .val (.int (0 : Int32))] [(.int (1 : Int32))])) _
            refine XS.goto X165.here hx rfl (pc0 := 144) (pc' := 148) rfl (hb hby at_144) (by decide) (by decide) ?_
            show Steps p.tables e below (T165.setTop (mkF m 148 #[.val (.int k0), .val (.int k1), .val (.int k2), .val (.int k3), .val (.int k4), .val (.ref b57), .val (.int k0), .val (.int k3), .val (.ref b148), .val (.int (((k4.toUInt32 >>> ((2 : Int32) &&& 31).toUInt32).toInt32) &&& (3 : Int32))), .val (.ref b148), .val (.int (0 : Int32))] [(.int (1 : Int32))])) _
            exact k_)
          obtain ⟨fs, hr, hrun, hended, hW, hsame⟩ := X165.leave (v := some (.int (1 : Int32))) (fun h => by rw [Bd.returns] at h; cases h)
          refine ⟨_, _, pre166 _ ?_, hrun, hended, _, _, rfl, ?_, ⟨_, rfl⟩, hW, hsame.mono (by decide) (by decide)⟩
          · show Steps p.tables e below (T165.setTop (mkF m 148 #[.val (.int k0), .val (.int k1), .val (.int k2), .val (.int k3), .val (.int k4), .val (.ref b57), .val (.int k0), .val (.int k3), .val (.ref b148), .val (.int (((k4.toUInt32 >>> ((2 : Int32) &&& 31).toUInt32).toInt32) &&& (3 : Int32))), .val (.ref b148), .val (.int (0 : Int32))] [(.int (1 : Int32))])) _
            exact retN X165 hx (t := .boolean) Bd.returns (by simp) (hb hby at_148) hr
          · show Q_0 Z k0 k1 k2 k3 k4 w_cache cl_cache bx h0 n0 _ T165.heap _
            rw [e165]
            exact ⟨rfl, N165⟩
      · have pre167 : ∀ t_, Steps p.tables e below (T153.setTop (mkF m 94 #[.val (.int k0), .val (.int k1), .val (.int k2), .val (.int k3), .val (.int k4), .val (.ref b57), .val (.int k0), .val (.int k3), .val (.ref b148), .val (.int (((k4.toUInt32 >>> ((2 : Int32) &&& 31).toUInt32).toInt32) &&& (3 : Int32))), .unset, .unset] [(.int (1 : Int32)), (.int (((k4.toUInt32 >>> ((2 : Int32) &&& 31).toUInt32).toInt32) &&& (3 : Int32)))])) t_ → Steps p.tables e below (s₁.setTop (entryFrame m #[(.int k0), (.int k1), (.int k2), (.int k3), (.int k4)] maxLocals)) t_ := fun t_ k_ => pre159 t_ (by
          show Steps p.tables e below (T153.setTop (mkF m 62 #[.val (.int k0), .val (.int k1), .val (.int k2), .val (.int k3), .val (.int k4), .val (.ref b57), .val (.int k0), .val (.int k3), .val (.ref b148), .val (.int (((k4.toUInt32 >>> ((2 : Int32) &&& 31).toUInt32).toInt32) &&& (3 : Int32))), .unset, .unset] [(.int (((k4.toUInt32 >>> ((2 : Int32) &&& 31).toUInt32).toInt32) &&& (3 : Int32)))])) _
          refine XS.ifYes X153.here hx rfl (pc0 := 62) (pc' := 91) rfl (hb hby at_62) rfl ((if0 _ _).trans (feq hc62_160).2) (by decide) (by decide) ?_
          show Steps p.tables e below (T153.setTop (mkF m 91 #[.val (.int k0), .val (.int k1), .val (.int k2), .val (.int k3), .val (.int k4), .val (.ref b57), .val (.int k0), .val (.int k3), .val (.ref b148), .val (.int (((k4.toUInt32 >>> ((2 : Int32) &&& 31).toUInt32).toInt32) &&& (3 : Int32))), .unset, .unset] [])) _
          refine XS.iload X153.here hx rfl (hb hby at_91) rfl ?_
          show Steps p.tables e below (T153.setTop (mkF m 93 #[.val (.int k0), .val (.int k1), .val (.int k2), .val (.int k3), .val (.int k4), .val (.ref b57), .val (.int k0), .val (.int k3), .val (.ref b148), .val (.int (((k4.toUInt32 >>> ((2 : Int32) &&& 31).toUInt32).toInt32) &&& (3 : Int32))), .unset, .unset] [(.int (((k4.toUInt32 >>> ((2 : Int32) &&& 31).toUInt32).toInt32) &&& (3 : Int32)))])) _
          refine XS.iconst X153.here hx rfl (hb hby at_93) ?_
          show Steps p.tables e below (T153.setTop (mkF m 94 #[.val (.int k0), .val (.int k1), .val (.int k2), .val (.int k3), .val (.int k4), .val (.ref b57), .val (.int k0), .val (.int k3), .val (.ref b148), .val (.int (((k4.toUInt32 >>> ((2 : Int32) &&& 31).toUInt32).toInt32) &&& (3 : Int32))), .unset, .unset] [(.int (1 : Int32)), (.int (((k4.toUInt32 >>> ((2 : Int32) &&& 31).toUInt32).toInt32) &&& (3 : Int32)))])) _
          exact k_)
        by_cases hc94_168 : (((k4.toUInt32 >>> ((2 : Int32) &&& 31).toUInt32).toInt32) &&& (3 : Int32)) = (1 : Int32)
        · obtain ⟨cq169, kq169, q169a, q169b, q169c⟩ := isOf hZ rfl c155
          obtain ⟨v169, _, ⟨T169, L169, k169, n169⟩, -, X169, ⟨Lc169, hQ169, l169, y169, z169⟩, st169⟩ := X153.virtualBack hx (y := (⟨"com/example/fissure/fissure/games/breakable/Hex", "equals", "(Ljava/lang/Object;)Z"⟩ : MethodName)) (z := (⟨"com/example/fissure/fissure/games/breakable/Hex", "equals", "(Ljava/lang/Object;)Z"⟩ : MethodName)) hown (mvT hZ (hw _ (List.mem_of_getElem? (i := 13) rfl))) (mvT hZ (hw _ (List.mem_of_getElem? (i := 14) rfl))) (notFace_of_selects (args := #[]) (mvT hZ (hw _ (List.mem_of_getElem? (i := 16) rfl)))) (mvT hZ (hw _ (List.mem_of_getElem? (i := 16) rfl))) (mvT hZ (hw _ (List.mem_of_getElem? (i := 15) rfl))) (by decide) (backOf (W := 0) (rm_eqN l Z a0 hw [] b57 T153.heap n0 Zs154 ) hZ (hw _ (List.mem_of_getElem? (i := 17) rfl)) (hw _ (List.mem_of_getElem? (i := 2) rfl)) (by decide) (by decide)) q169a q169c (g := (mkF m 135 #[.val (.int k0), .val (.int k1), .val (.int k2), .val (.int k3), .val (.int k4), .val (.ref b57), .val (.int k0), .val (.int k3), .val (.ref b148), .val (.int (((k4.toUInt32 >>> ((2 : Int32) &&& 31).toUInt32).toInt32) &&& (3 : Int32))), .val .null, .val (.int (0 : Int32))] [.null, (.ref b57)])) rfl (by rw [hml]; rfl) (Steps.refl _) (argsL := [.null]) (rest := []) (lenOf pd_3 rfl) rfl (by show 2 * 0 + _ ≤ _; exact Nat.le_of_eq rfl) (hb hby at_135) (fun _ _ => ⟨rfl, rfl, (by decide : 2 + 0 ≤ _), (by decide : 4 + 0 ≤ _)⟩)
          dsimp only [Pt.U, Pt.locs, Pt.cells, Pt.slots] at X169 l169 y169 z169 st169 hQ169
          subst l169 y169 z169
          obtain ⟨hv169, N169q, e169⟩ := hQ169
          have N169 := Fr.app N153 N169q
          subst hv169
          have pre170 : ∀ t_, Steps p.tables e below (T169.setTop (mkF m 148 #[.val (.int k0), .val (.int k1), .val (.int k2), .val (.int k3), .val (.int k4), .val (.ref b57), .val (.int k0), .val (.int k3), .val (.ref b148), .val (.int (((k4.toUInt32 >>> ((2 : Int32) &&& 31).toUInt32).toInt32) &&& (3 : Int32))), .val .null, .val (.int (0 : Int32))] [(.int (1 : Int32))])) t_ → Steps p.tables e below (s₁.setTop (entryFrame m #[(.int k0), (.int k1), (.int k2), (.int k3), (.int k4)] maxLocals)) t_ := fun t_ k_ => pre167 t_ (by
            show Steps p.tables e below (T153.setTop (mkF m 94 #[.val (.int k0), .val (.int k1), .val (.int k2), .val (.int k3), .val (.int k4), .val (.ref b57), .val (.int k0), .val (.int k3), .val (.ref b148), .val (.int (((k4.toUInt32 >>> ((2 : Int32) &&& 31).toUInt32).toInt32) &&& (3 : Int32))), .unset, .unset] [(.int (1 : Int32)), (.int (((k4.toUInt32 >>> ((2 : Int32) &&& 31).toUInt32).toInt32) &&& (3 : Int32)))])) _
            refine XS.icmpNo X153.here hx rfl (hb hby at_94) rfl (teq hc94_168).2 ?_
            show Steps p.tables e below (T153.setTop (mkF m 97 #[.val (.int k0), .val (.int k1), .val (.int k2), .val (.int k3), .val (.int k4), .val (.ref b57), .val (.int k0), .val (.int k3), .val (.ref b148), .val (.int (((k4.toUInt32 >>> ((2 : Int32) &&& 31).toUInt32).toInt32) &&& (3 : Int32))), .unset, .unset] [])) _
            refine XS.aconstNull X153.here hx rfl (hb hby at_97) ?_
            show Steps p.tables e below (T153.setTop (mkF m 98 #[.val (.int k0), .val (.int k1), .val (.int k2), .val (.int k3), .val (.int k4), .val (.ref b57), .val (.int k0), .val (.int k3), .val (.ref b148), .val (.int (((k4.toUInt32 >>> ((2 : Int32) &&& 31).toUInt32).toInt32) &&& (3 : Int32))), .unset, .unset] [.null])) _
            refine XS.astore X153.here hx rfl (hb hby at_98) rfl rfl (l' := #[.val (.int k0), .val (.int k1), .val (.int k2), .val (.int k3), .val (.int k4), .val (.ref b57), .val (.int k0), .val (.int k3), .val (.ref b148), .val (.int (((k4.toUInt32 >>> ((2 : Int32) &&& 31).toUInt32).toInt32) &&& (3 : Int32))), .val .null, .unset]) rfl ?_
            show Steps p.tables e below (T153.setTop (mkF m 100 #[.val (.int k0), .val (.int k1), .val (.int k2), .val (.int k3), .val (.int k4), .val (.ref b57), .val (.int k0), .val (.int k3), .val (.ref b148), .val (.int (((k4.toUInt32 >>> ((2 : Int32) &&& 31).toUInt32).toInt32) &&& (3 : Int32))), .val .null, .unset] [])) _
            refine XS.iconst X153.here hx rfl (hb hby at_100) ?_
            show Steps p.tables e below (T153.setTop (mkF m 101 #[.val (.int k0), .val (.int k1), .val (.int k2), .val (.int k3), .val (.int k4), .val (.ref b57), .val (.int k0), .val (.int k3), .val (.ref b148), .val (.int (((k4.toUInt32 >>> ((2 : Int32) &&& 31).toUInt32).toInt32) &&& (3 : Int32))), .val .null, .unset] [(.int (0 : Int32))])) _
            refine XS.istore X153.here hx rfl (hb hby at_101) rfl (l' := #[.val (.int k0), .val (.int k1), .val (.int k2), .val (.int k3), .val (.int k4), .val (.ref b57), .val (.int k0), .val (.int k3), .val (.ref b148), .val (.int (((k4.toUInt32 >>> ((2 : Int32) &&& 31).toUInt32).toInt32) &&& (3 : Int32))), .val .null, .val (.int (0 : Int32))]) rfl ?_
            show Steps p.tables e below (T153.setTop (mkF m 103 #[.val (.int k0), .val (.int k1), .val (.int k2), .val (.int k3), .val (.int k4), .val (.ref b57), .val (.int k0), .val (.int k3), .val (.ref b148), .val (.int (((k4.toUInt32 >>> ((2 : Int32) &&& 31).toUInt32).toInt32) &&& (3 : Int32))), .val .null, .val (.int (0 : Int32))] [])) _
            refine XS.goto X153.here hx rfl (pc0 := 103) (pc' := 131) rfl (hb hby at_103) (by decide) (by decide) ?_
            show Steps p.tables e below (T153.setTop (mkF m 131 #[.val (.int k0), .val (.int k1), .val (.int k2), .val (.int k3), .val (.int k4), .val (.ref b57), .val (.int k0), .val (.int k3), .val (.ref b148), .val (.int (((k4.toUInt32 >>> ((2 : Int32) &&& 31).toUInt32).toInt32) &&& (3 : Int32))), .val .null, .val (.int (0 : Int32))] [])) _
            refine XS.aload X153.here hx rfl (hb hby at_131) rfl rfl ?_
            show Steps p.tables e below (T153.setTop (mkF m 133 #[.val (.int k0), .val (.int k1), .val (.int k2), .val (.int k3), .val (.int k4), .val (.ref b57), .val (.int k0), .val (.int k3), .val (.ref b148), .val (.int (((k4.toUInt32 >>> ((2 : Int32) &&& 31).toUInt32).toInt32) &&& (3 : Int32))), .val .null, .val (.int (0 : Int32))] [(.ref b57)])) _
            refine XS.aload X153.here hx rfl (hb hby at_133) rfl rfl ?_
            show Steps p.tables e below (T153.setTop (mkF m 135 #[.val (.int k0), .val (.int k1), .val (.int k2), .val (.int k3), .val (.int k4), .val (.ref b57), .val (.int k0), .val (.int k3), .val (.ref b148), .val (.int (((k4.toUInt32 >>> ((2 : Int32) &&& 31).toUInt32).toInt32) &&& (3 : Int32))), .val .null, .val (.int (0 : Int32))] [.null, (.ref b57)])) _
            refine st169.trans ?_
            show Steps p.tables e below (T169.setTop (mkF m 138 #[.val (.int k0), .val (.int k1), .val (.int k2), .val (.int k3), .val (.int k4), .val (.ref b57), .val (.int k0), .val (.int k3), .val (.ref b148), .val (.int (((k4.toUInt32 >>> ((2 : Int32) &&& 31).toUInt32).toInt32) &&& (3 : Int32))), .val .null, .val (.int (0 : Int32))] [(.int (0 : Int32))])) _
            refine XS.iload X169.here hx rfl (hb hby at_138) rfl ?_
            show Steps p.tables e below (T169.setTop (mkF m 140 #[.val (.int k0), .val (.int k1), .val (.int k2), .val (.int k3), .val (.int k4), .val (.ref b57), .val (.int k0), .val (.int k3), .val (.ref b148), .val (.int (((k4.toUInt32 >>> ((2 : Int32) &&& 31).toUInt32).toInt32) &&& (3 : Int32))), .val .null, .val (.int (0 : Int32))] [(.int (0 : Int32)), (.int (0 : Int32))])) _
            refine XS.icmpNo X169.here hx rfl (hb hby at_140) rfl (teq (rfl : (0 : Int32) = (0 : Int32))).2 ?_
            show Steps p.tables e below (T169.setTop (mkF m 143 #[.val (.int k0), .val (.int k1), .val (.int k2), .val (.int k3), .val (.int k4), .val (.ref b57), .val (.int k0), .val (.int k3), .val (.ref b148), .val (.int (((k4.toUInt32 >>> ((2 : Int32) &&& 31).toUInt32).toInt32) &&& (3 : Int32))), .val .null, .val (.int (0 : Int32))] [])) _
            refine XS.iconst X169.here hx rfl (hb hby at_143) ?_
            show Steps p.tables e below (T169.setTop (mkF m 144 #[.val (.int k0), .val (.int k1), .val (.int k2), .val (.int k3), .val (.int k4), .val (.ref b57), .val (.int k0), .val (.int k3), .val (.ref b148), .val (.int (((k4.toUInt32 >>> ((2 : Int32) &&& 31).toUInt32).toInt32) &&& (3 : Int32))), .val .null, .val (.int (0 : Int32))] [(.int (1 : Int32))])) _
            refine XS.goto X169.here hx rfl (pc0 := 144) (pc' := 148) rfl (hb hby at_144) (by decide) (by decide) ?_
            show Steps p.tables e below (T169.setTop (mkF m 148 #[.val (.int k0), .val (.int k1), .val (.int k2), .val (.int k3), .val (.int k4), .val (.ref b57), .val (.int k0), .val (.int k3), .val (.ref b148), .val (.int (((k4.toUInt32 >>> ((2 : Int32) &&& 31).toUInt32).toInt32) &&& (3 : Int32))), .val .null, .val (.int (0 : Int32))] [(.int (1 : Int32))])) _
            exact k_)
          obtain ⟨fs, hr, hrun, hended, hW, hsame⟩ := X169.leave (v := some (.int (1 : Int32))) (fun h => by rw [Bd.returns] at h; cases h)
          refine ⟨_, _, pre170 _ ?_, hrun, hended, _, _, rfl, ?_, ⟨_, rfl⟩, hW, hsame.mono (by decide) (by decide)⟩
          · show Steps p.tables e below (T169.setTop (mkF m 148 #[.val (.int k0), .val (.int k1), .val (.int k2), .val (.int k3), .val (.int k4), .val (.ref b57), .val (.int k0), .val (.int k3), .val (.ref b148), .val (.int (((k4.toUInt32 >>> ((2 : Int32) &&& 31).toUInt32).toInt32) &&& (3 : Int32))), .val .null, .val (.int (0 : Int32))] [(.int (1 : Int32))])) _
            exact retN X169 hx (t := .boolean) Bd.returns (by simp) (hb hby at_148) hr
          · show Q_0 Z k0 k1 k2 k3 k4 w_cache cl_cache bx h0 n0 _ T169.heap _
            rw [e169]
            exact ⟨rfl, N169⟩
        · have pre171 : ∀ t_, Steps p.tables e below (T153.setTop (mkF m 109 #[.val (.int k0), .val (.int k1), .val (.int k2), .val (.int k3), .val (.int k4), .val (.ref b57), .val (.int k0), .val (.int k3), .val (.ref b148), .val (.int (((k4.toUInt32 >>> ((2 : Int32) &&& 31).toUInt32).toInt32) &&& (3 : Int32))), .unset, .unset] [(.int (2 : Int32)), (.int (((k4.toUInt32 >>> ((2 : Int32) &&& 31).toUInt32).toInt32) &&& (3 : Int32)))])) t_ → Steps p.tables e below (s₁.setTop (entryFrame m #[(.int k0), (.int k1), (.int k2), (.int k3), (.int k4)] maxLocals)) t_ := fun t_ k_ => pre167 t_ (by
            show Steps p.tables e below (T153.setTop (mkF m 94 #[.val (.int k0), .val (.int k1), .val (.int k2), .val (.int k3), .val (.int k4), .val (.ref b57), .val (.int k0), .val (.int k3), .val (.ref b148), .val (.int (((k4.toUInt32 >>> ((2 : Int32) &&& 31).toUInt32).toInt32) &&& (3 : Int32))), .unset, .unset] [(.int (1 : Int32)), (.int (((k4.toUInt32 >>> ((2 : Int32) &&& 31).toUInt32).toInt32) &&& (3 : Int32)))])) _
            refine XS.icmpYes X153.here hx rfl (pc0 := 94) (pc' := 106) rfl (hb hby at_94) rfl (feq hc94_168).2 (by decide) (by decide) ?_
            show Steps p.tables e below (T153.setTop (mkF m 106 #[.val (.int k0), .val (.int k1), .val (.int k2), .val (.int k3), .val (.int k4), .val (.ref b57), .val (.int k0), .val (.int k3), .val (.ref b148), .val (.int (((k4.toUInt32 >>> ((2 : Int32) &&& 31).toUInt32).toInt32) &&& (3 : Int32))), .unset, .unset] [])) _
            refine XS.iload X153.here hx rfl (hb hby at_106) rfl ?_
            show Steps p.tables e below (T153.setTop (mkF m 108 #[.val (.int k0), .val (.int k1), .val (.int k2), .val (.int k3), .val (.int k4), .val (.ref b57), .val (.int k0), .val (.int k3), .val (.ref b148), .val (.int (((k4.toUInt32 >>> ((2 : Int32) &&& 31).toUInt32).toInt32) &&& (3 : Int32))), .unset, .unset] [(.int (((k4.toUInt32 >>> ((2 : Int32) &&& 31).toUInt32).toInt32) &&& (3 : Int32)))])) _
            refine XS.iconst X153.here hx rfl (hb hby at_108) ?_
            show Steps p.tables e below (T153.setTop (mkF m 109 #[.val (.int k0), .val (.int k1), .val (.int k2), .val (.int k3), .val (.int k4), .val (.ref b57), .val (.int k0), .val (.int k3), .val (.ref b148), .val (.int (((k4.toUInt32 >>> ((2 : Int32) &&& 31).toUInt32).toInt32) &&& (3 : Int32))), .unset, .unset] [(.int (2 : Int32)), (.int (((k4.toUInt32 >>> ((2 : Int32) &&& 31).toUInt32).toInt32) &&& (3 : Int32)))])) _
            exact k_)
          by_cases hc109_172 : (((k4.toUInt32 >>> ((2 : Int32) &&& 31).toUInt32).toInt32) &&& (3 : Int32)) = (2 : Int32)
          · obtain ⟨v173, _, ⟨T173, L173, k173, n173⟩, -, X173, ⟨Lc173, hQ173, l173, y173, z173⟩, st173⟩ := Jvm.LawKit.callS X153 hx (y := (⟨"java/lang/Integer", "valueOf", "(I)Ljava/lang/Integer;"⟩ : MethodName)) hown (mvT hZ (hw _ (List.mem_of_getElem? (i := 20) rfl))) (mvT hZ (hw _ (List.mem_of_getElem? (i := 21) rfl))) (mvT hZ (hw _ (List.mem_of_getElem? (i := 22) rfl))) (mvT hZ (hw _ (List.mem_of_getElem? (i := 23) rfl))) (by decide) (backOf (W := 0) (rm_valueOf l Z a0 hw [] k0 w_cache cl_cache bx T153.heap n0 Zs154 (S_high.ext O154) (S_cache.ext O154) Bx (own_ext_trans Oz O154)) hZ (hw _ (List.mem_of_getElem? (i := 23) rfl)) (hw _ (List.mem_of_getElem? (i := 22) rfl)) (by decide) (by decide)) (g := (mkF m 113 #[.val (.int k0), .val (.int k1), .val (.int k2), .val (.int k3), .val (.int k4), .val (.ref b57), .val (.int k0), .val (.int k3), .val (.ref b148), .val (.int (((k4.toUInt32 >>> ((2 : Int32) &&& 31).toUInt32).toInt32) &&& (3 : Int32))), .unset, .unset] [(.int k0)])) rfl (by rw [hml]; rfl) (argsL := [(.int k0)]) (rest := []) (lenOf pd_4 rfl) rfl (by show 2 * 0 + _ ≤ _; exact Nat.le_of_eq rfl) (hb hby at_113) (fun _ _ => ⟨rfl, rfl, (by decide : 2 + 1 ≤ _), (by decide : 4 + 1 ≤ _)⟩)
            dsimp only [Pt.U, Pt.locs, Pt.cells, Pt.slots] at X173 l173 y173 z173 st173 hQ173
            subst l173 y173 z173
            obtain ⟨⟨r173, hv173, Er173⟩, N173q, M173⟩ := hQ173
            have N173 := Fr.app N153 N173q
            subst hv173
            have O174 := own_ext_trans O154 M173
            have Zs174 := Nat.le_trans Zs154 (M173).1
            have c175 : Exa Z T173.heap b57 "com/example/fissure/fissure/games/breakable/Hex" := c155.ext M173
            have c176 : Fld Z T173.heap b57 "com/example/fissure/fissure/games/breakable/Hex" "column" "I" (.int k0) := c156.ext M173
            have c177 : Fld Z T173.heap b57 "com/example/fissure/fissure/games/breakable/Hex" "row" "I" (.int k1) := c157.ext M173
            have c178 : Exa Z T173.heap b148 "com/example/fissure/fissure/games/breakable/Hex" := E153x.ext M173
            have c179 : Fld Z T173.heap b148 "com/example/fissure/fissure/games/breakable/Hex" "column" "I" (.int k0) := F153_column.ext M173
            have c180 : Fld Z T173.heap b148 "com/example/fissure/fissure/games/breakable/Hex" "row" "I" (.int k3) := F153_row.ext M173
            obtain ⟨cq181, kq181, q181a, q181b, q181c⟩ := isOf hZ rfl c175
            obtain ⟨v181, _, ⟨T181, L181, k181, n181⟩, -, X181, ⟨Lc181, hQ181, l181, y181, z181⟩, st181⟩ := X173.virtualBack hx (y := (⟨"com/example/fissure/fissure/games/breakable/Hex", "equals", "(Ljava/lang/Object;)Z"⟩ : MethodName)) (z := (⟨"com/example/fissure/fissure/games/breakable/Hex", "equals", "(Ljava/lang/Object;)Z"⟩ : MethodName)) hown (mvT hZ (hw _ (List.mem_of_getElem? (i := 13) rfl))) (mvT hZ (hw _ (List.mem_of_getElem? (i := 14) rfl))) (notFace_of_selects (args := #[]) (mvT hZ (hw _ (List.mem_of_getElem? (i := 16) rfl)))) (mvT hZ (hw _ (List.mem_of_getElem? (i := 16) rfl))) (mvT hZ (hw _ (List.mem_of_getElem? (i := 15) rfl))) (by decide) (backOf (W := 0) (rm_eqI l Z a0 hw [] b57 r173 T173.heap n0 Zs174 Er173) hZ (hw _ (List.mem_of_getElem? (i := 17) rfl)) (hw _ (List.mem_of_getElem? (i := 2) rfl)) (by decide) (by decide)) q181a q181c (g := (mkF m 135 #[.val (.int k0), .val (.int k1), .val (.int k2), .val (.int k3), .val (.int k4), .val (.ref b57), .val (.int k0), .val (.int k3), .val (.ref b148), .val (.int (((k4.toUInt32 >>> ((2 : Int32) &&& 31).toUInt32).toInt32) &&& (3 : Int32))), .val (.ref r173), .val (.int (0 : Int32))] [(.ref r173), (.ref b57)])) rfl (by rw [hml]; rfl) (Steps.refl _) (argsL := [(.ref r173)]) (rest := []) (lenOf pd_3 rfl) rfl (by show 2 * 0 + _ ≤ _; exact Nat.le_of_eq rfl) (hb hby at_135) (fun _ _ => ⟨rfl, rfl, (by decide : 3 + 0 ≤ _), (by decide : 5 + 0 ≤ _)⟩)
            dsimp only [Pt.U, Pt.locs, Pt.cells, Pt.slots] at X181 l181 y181 z181 st181 hQ181
            subst l181 y181 z181
            obtain ⟨hv181, N181q, e181⟩ := hQ181
            have N181 := Fr.app N173 N181q
            subst hv181
            have pre182 : ∀ t_, Steps p.tables e below (T181.setTop (mkF m 148 #[.val (.int k0), .val (.int k1), .val (.int k2), .val (.int k3), .val (.int k4), .val (.ref b57), .val (.int k0), .val (.int k3), .val (.ref b148), .val (.int (((k4.toUInt32 >>> ((2 : Int32) &&& 31).toUInt32).toInt32) &&& (3 : Int32))), .val (.ref r173), .val (.int (0 : Int32))] [(.int (1 : Int32))])) t_ → Steps p.tables e below (s₁.setTop (entryFrame m #[(.int k0), (.int k1), (.int k2), (.int k3), (.int k4)] maxLocals)) t_ := fun t_ k_ => pre171 t_ (by
              show Steps p.tables e below (T153.setTop (mkF m 109 #[.val (.int k0), .val (.int k1), .val (.int k2), .val (.int k3), .val (.int k4), .val (.ref b57), .val (.int k0), .val (.int k3), .val (.ref b148), .val (.int (((k4.toUInt32 >>> ((2 : Int32) &&& 31).toUInt32).toInt32) &&& (3 : Int32))), .unset, .unset] [(.int (2 : Int32)), (.int (((k4.toUInt32 >>> ((2 : Int32) &&& 31).toUInt32).toInt32) &&& (3 : Int32)))])) _
              refine XS.icmpNo X153.here hx rfl (hb hby at_109) rfl (teq hc109_172).2 ?_
              show Steps p.tables e below (T153.setTop (mkF m 112 #[.val (.int k0), .val (.int k1), .val (.int k2), .val (.int k3), .val (.int k4), .val (.ref b57), .val (.int k0), .val (.int k3), .val (.ref b148), .val (.int (((k4.toUInt32 >>> ((2 : Int32) &&& 31).toUInt32).toInt32) &&& (3 : Int32))), .unset, .unset] [])) _
              refine XS.iloadN X153.here hx rfl (hb hby at_112) rfl ?_
              show Steps p.tables e below (T153.setTop (mkF m 113 #[.val (.int k0), .val (.int k1), .val (.int k2), .val (.int k3), .val (.int k4), .val (.ref b57), .val (.int k0), .val (.int k3), .val (.ref b148), .val (.int (((k4.toUInt32 >>> ((2 : Int32) &&& 31).toUInt32).toInt32) &&& (3 : Int32))), .unset, .unset] [(.int k0)])) _
              refine st173 _ ?_
              show Steps p.tables e below (T173.setTop (mkF m 116 #[.val (.int k0), .val (.int k1), .val (.int k2), .val (.int k3), .val (.int k4), .val (.ref b57), .val (.int k0), .val (.int k3), .val (.ref b148), .val (.int (((k4.toUInt32 >>> ((2 : Int32) &&& 31).toUInt32).toInt32) &&& (3 : Int32))), .unset, .unset] [(.ref r173)])) _
              refine XS.astore X173.here hx rfl (hb hby at_116) rfl rfl (l' := #[.val (.int k0), .val (.int k1), .val (.int k2), .val (.int k3), .val (.int k4), .val (.ref b57), .val (.int k0), .val (.int k3), .val (.ref b148), .val (.int (((k4.toUInt32 >>> ((2 : Int32) &&& 31).toUInt32).toInt32) &&& (3 : Int32))), .val (.ref r173), .unset]) rfl ?_
              show Steps p.tables e below (T173.setTop (mkF m 118 #[.val (.int k0), .val (.int k1), .val (.int k2), .val (.int k3), .val (.int k4), .val (.ref b57), .val (.int k0), .val (.int k3), .val (.ref b148), .val (.int (((k4.toUInt32 >>> ((2 : Int32) &&& 31).toUInt32).toInt32) &&& (3 : Int32))), .val (.ref r173), .unset] [])) _
              refine XS.iconst X173.here hx rfl (hb hby at_118) ?_
              show Steps p.tables e below (T173.setTop (mkF m 119 #[.val (.int k0), .val (.int k1), .val (.int k2), .val (.int k3), .val (.int k4), .val (.ref b57), .val (.int k0), .val (.int k3), .val (.ref b148), .val (.int (((k4.toUInt32 >>> ((2 : Int32) &&& 31).toUInt32).toInt32) &&& (3 : Int32))), .val (.ref r173), .unset] [(.int (0 : Int32))])) _
              refine XS.istore X173.here hx rfl (hb hby at_119) rfl (l' := #[.val (.int k0), .val (.int k1), .val (.int k2), .val (.int k3), .val (.int k4), .val (.ref b57), .val (.int k0), .val (.int k3), .val (.ref b148), .val (.int (((k4.toUInt32 >>> ((2 : Int32) &&& 31).toUInt32).toInt32) &&& (3 : Int32))), .val (.ref r173), .val (.int (0 : Int32))]) rfl ?_
              show Steps p.tables e below (T173.setTop (mkF m 121 #[.val (.int k0), .val (.int k1), .val (.int k2), .val (.int k3), .val (.int k4), .val (.ref b57), .val (.int k0), .val (.int k3), .val (.ref b148), .val (.int (((k4.toUInt32 >>> ((2 : Int32) &&& 31).toUInt32).toInt32) &&& (3 : Int32))), .val (.ref r173), .val (.int (0 : Int32))] [])) _
              refine XS.goto X173.here hx rfl (pc0 := 121) (pc' := 131) rfl (hb hby at_121) (by decide) (by decide) ?_
              show Steps p.tables e below (T173.setTop (mkF m 131 #[.val (.int k0), .val (.int k1), .val (.int k2), .val (.int k3), .val (.int k4), .val (.ref b57), .val (.int k0), .val (.int k3), .val (.ref b148), .val (.int (((k4.toUInt32 >>> ((2 : Int32) &&& 31).toUInt32).toInt32) &&& (3 : Int32))), .val (.ref r173), .val (.int (0 : Int32))] [])) _
              refine XS.aload X173.here hx rfl (hb hby at_131) rfl rfl ?_
              show Steps p.tables e below (T173.setTop (mkF m 133 #[.val (.int k0), .val (.int k1), .val (.int k2), .val (.int k3), .val (.int k4), .val (.ref b57), .val (.int k0), .val (.int k3), .val (.ref b148), .val (.int (((k4.toUInt32 >>> ((2 : Int32) &&& 31).toUInt32).toInt32) &&& (3 : Int32))), .val (.ref r173), .val (.int (0 : Int32))] [(.ref b57)])) _
              refine XS.aload X173.here hx rfl (hb hby at_133) rfl rfl ?_
              show Steps p.tables e below (T173.setTop (mkF m 135 #[.val (.int k0), .val (.int k1), .val (.int k2), .val (.int k3), .val (.int k4), .val (.ref b57), .val (.int k0), .val (.int k3), .val (.ref b148), .val (.int (((k4.toUInt32 >>> ((2 : Int32) &&& 31).toUInt32).toInt32) &&& (3 : Int32))), .val (.ref r173), .val (.int (0 : Int32))] [(.ref r173), (.ref b57)])) _
              refine st181.trans ?_
              show Steps p.tables e below (T181.setTop (mkF m 138 #[.val (.int k0), .val (.int k1), .val (.int k2), .val (.int k3), .val (.int k4), .val (.ref b57), .val (.int k0), .val (.int k3), .val (.ref b148), .val (.int (((k4.toUInt32 >>> ((2 : Int32) &&& 31).toUInt32).toInt32) &&& (3 : Int32))), .val (.ref r173), .val (.int (0 : Int32))] [(.int (0 : Int32))])) _
              refine XS.iload X181.here hx rfl (hb hby at_138) rfl ?_
              show Steps p.tables e below (T181.setTop (mkF m 140 #[.val (.int k0), .val (.int k1), .val (.int k2), .val (.int k3), .val (.int k4), .val (.ref b57), .val (.int k0), .val (.int k3), .val (.ref b148), .val (.int (((k4.toUInt32 >>> ((2 : Int32) &&& 31).toUInt32).toInt32) &&& (3 : Int32))), .val (.ref r173), .val (.int (0 : Int32))] [(.int (0 : Int32)), (.int (0 : Int32))])) _
              refine XS.icmpNo X181.here hx rfl (hb hby at_140) rfl (teq (rfl : (0 : Int32) = (0 : Int32))).2 ?_
              show Steps p.tables e below (T181.setTop (mkF m 143 #[.val (.int k0), .val (.int k1), .val (.int k2), .val (.int k3), .val (.int k4), .val (.ref b57), .val (.int k0), .val (.int k3), .val (.ref b148), .val (.int (((k4.toUInt32 >>> ((2 : Int32) &&& 31).toUInt32).toInt32) &&& (3 : Int32))), .val (.ref r173), .val (.int (0 : Int32))] [])) _
              refine XS.iconst X181.here hx rfl (hb hby at_143) ?_
              show Steps p.tables e below (T181.setTop (mkF m 144 #[.val (.int k0), .val (.int k1), .val (.int k2), .val (.int k3), .val (.int k4), .val (.ref b57), .val (.int k0), .val (.int k3), .val (.ref b148), .val (.int (((k4.toUInt32 >>> ((2 : Int32) &&& 31).toUInt32).toInt32) &&& (3 : Int32))), .val (.ref r173), .val (.int (0 : Int32))] [(.int (1 : Int32))])) _
              refine XS.goto X181.here hx rfl (pc0 := 144) (pc' := 148) rfl (hb hby at_144) (by decide) (by decide) ?_
              show Steps p.tables e below (T181.setTop (mkF m 148 #[.val (.int k0), .val (.int k1), .val (.int k2), .val (.int k3), .val (.int k4), .val (.ref b57), .val (.int k0), .val (.int k3), .val (.ref b148), .val (.int (((k4.toUInt32 >>> ((2 : Int32) &&& 31).toUInt32).toInt32) &&& (3 : Int32))), .val (.ref r173), .val (.int (0 : Int32))] [(.int (1 : Int32))])) _
              exact k_)
            obtain ⟨fs, hr, hrun, hended, hW, hsame⟩ := X181.leave (v := some (.int (1 : Int32))) (fun h => by rw [Bd.returns] at h; cases h)
            refine ⟨_, _, pre182 _ ?_, hrun, hended, _, _, rfl, ?_, ⟨_, rfl⟩, hW, hsame.mono (by decide) (by decide)⟩
            · show Steps p.tables e below (T181.setTop (mkF m 148 #[.val (.int k0), .val (.int k1), .val (.int k2), .val (.int k3), .val (.int k4), .val (.ref b57), .val (.int k0), .val (.int k3), .val (.ref b148), .val (.int (((k4.toUInt32 >>> ((2 : Int32) &&& 31).toUInt32).toInt32) &&& (3 : Int32))), .val (.ref r173), .val (.int (0 : Int32))] [(.int (1 : Int32))])) _
              exact retN X181 hx (t := .boolean) Bd.returns (by simp) (hb hby at_148) hr
            · show Q_0 Z k0 k1 k2 k3 k4 w_cache cl_cache bx h0 n0 _ T181.heap _
              rw [e181]
              exact ⟨rfl, N181⟩
          · obtain ⟨cq183, kq183, q183a, q183b, q183c⟩ := isOf hZ rfl c155
            obtain ⟨v183, _, ⟨T183, L183, k183, n183⟩, -, X183, ⟨Lc183, hQ183, l183, y183, z183⟩, st183⟩ := X153.virtualBack hx (y := (⟨"com/example/fissure/fissure/games/breakable/Hex", "equals", "(Ljava/lang/Object;)Z"⟩ : MethodName)) (z := (⟨"com/example/fissure/fissure/games/breakable/Hex", "equals", "(Ljava/lang/Object;)Z"⟩ : MethodName)) hown (mvT hZ (hw _ (List.mem_of_getElem? (i := 13) rfl))) (mvT hZ (hw _ (List.mem_of_getElem? (i := 14) rfl))) (notFace_of_selects (args := #[]) (mvT hZ (hw _ (List.mem_of_getElem? (i := 16) rfl)))) (mvT hZ (hw _ (List.mem_of_getElem? (i := 16) rfl))) (mvT hZ (hw _ (List.mem_of_getElem? (i := 15) rfl))) (by decide) (backOf (W := 0) (rm_eqC l Z a0 hw [] b57 b57 k0 k1 k0 k1 T153.heap n0 Zs154 c155 c156 c157 c156 c157) hZ (hw _ (List.mem_of_getElem? (i := 17) rfl)) (hw _ (List.mem_of_getElem? (i := 2) rfl)) (by decide) (by decide)) q183a q183c (g := (mkF m 135 #[.val (.int k0), .val (.int k1), .val (.int k2), .val (.int k3), .val (.int k4), .val (.ref b57), .val (.int k0), .val (.int k3), .val (.ref b148), .val (.int (((k4.toUInt32 >>> ((2 : Int32) &&& 31).toUInt32).toInt32) &&& (3 : Int32))), .val (.ref b57), .val (.int (1 : Int32))] [(.ref b57), (.ref b57)])) rfl (by rw [hml]; rfl) (Steps.refl _) (argsL := [(.ref b57)]) (rest := []) (lenOf pd_3 rfl) rfl (by show 2 * 0 + _ ≤ _; exact Nat.le_of_eq rfl) (hb hby at_135) (fun _ _ => ⟨rfl, rfl, (by decide : 2 + 0 ≤ _), (by decide : 4 + 0 ≤ _)⟩)
            dsimp only [Pt.U, Pt.locs, Pt.cells, Pt.slots] at X183 l183 y183 z183 st183 hQ183
            subst l183 y183 z183
            obtain ⟨hv183, N183q, e183⟩ := hQ183
            have N183 := Fr.app N153 N183q
            have hw183 : v183 = some (.int (1 : Int32)) := hv183.trans (congrArg (fun z => some (Value.int z)) (own_self _ _))
            subst hw183
            have pre184 : ∀ t_, Steps p.tables e below (T183.setTop (mkF m 148 #[.val (.int k0), .val (.int k1), .val (.int k2), .val (.int k3), .val (.int k4), .val (.ref b57), .val (.int k0), .val (.int k3), .val (.ref b148), .val (.int (((k4.toUInt32 >>> ((2 : Int32) &&& 31).toUInt32).toInt32) &&& (3 : Int32))), .val (.ref b57), .val (.int (1 : Int32))] [(.int (1 : Int32))])) t_ → Steps p.tables e below (s₁.setTop (entryFrame m #[(.int k0), (.int k1), (.int k2), (.int k3), (.int k4)] maxLocals)) t_ := fun t_ k_ => pre171 t_ (by
              show Steps p.tables e below (T153.setTop (mkF m 109 #[.val (.int k0), .val (.int k1), .val (.int k2), .val (.int k3), .val (.int k4), .val (.ref b57), .val (.int k0), .val (.int k3), .val (.ref b148), .val (.int (((k4.toUInt32 >>> ((2 : Int32) &&& 31).toUInt32).toInt32) &&& (3 : Int32))), .unset, .unset] [(.int (2 : Int32)), (.int (((k4.toUInt32 >>> ((2 : Int32) &&& 31).toUInt32).toInt32) &&& (3 : Int32)))])) _
              refine XS.icmpYes X153.here hx rfl (pc0 := 109) (pc' := 124) rfl (hb hby at_109) rfl (feq hc109_172).2 (by decide) (by decide) ?_
              show Steps p.tables e below (T153.setTop (mkF m 124 #[.val (.int k0), .val (.int k1), .val (.int k2), .val (.int k3), .val (.int k4), .val (.ref b57), .val (.int k0), .val (.int k3), .val (.ref b148), .val (.int (((k4.toUInt32 >>> ((2 : Int32) &&& 31).toUInt32).toInt32) &&& (3 : Int32))), .unset, .unset] [])) _
              refine XS.aload X153.here hx rfl (hb hby at_124) rfl rfl ?_
              show Steps p.tables e below (T153.setTop (mkF m 126 #[.val (.int k0), .val (.int k1), .val (.int k2), .val (.int k3), .val (.int k4), .val (.ref b57), .val (.int k0), .val (.int k3), .val (.ref b148), .val (.int (((k4.toUInt32 >>> ((2 : Int32) &&& 31).toUInt32).toInt32) &&& (3 : Int32))), .unset, .unset] [(.ref b57)])) _
              refine XS.astore X153.here hx rfl (hb hby at_126) rfl rfl (l' := #[.val (.int k0), .val (.int k1), .val (.int k2), .val (.int k3), .val (.int k4), .val (.ref b57), .val (.int k0), .val (.int k3), .val (.ref b148), .val (.int (((k4.toUInt32 >>> ((2 : Int32) &&& 31).toUInt32).toInt32) &&& (3 : Int32))), .val (.ref b57), .unset]) rfl ?_
              show Steps p.tables e below (T153.setTop (mkF m 128 #[.val (.int k0), .val (.int k1), .val (.int k2), .val (.int k3), .val (.int k4), .val (.ref b57), .val (.int k0), .val (.int k3), .val (.ref b148), .val (.int (((k4.toUInt32 >>> ((2 : Int32) &&& 31).toUInt32).toInt32) &&& (3 : Int32))), .val (.ref b57), .unset] [])) _
              refine XS.iconst X153.here hx rfl (hb hby at_128) ?_
              show Steps p.tables e below (T153.setTop (mkF m 129 #[.val (.int k0), .val (.int k1), .val (.int k2), .val (.int k3), .val (.int k4), .val (.ref b57), .val (.int k0), .val (.int k3), .val (.ref b148), .val (.int (((k4.toUInt32 >>> ((2 : Int32) &&& 31).toUInt32).toInt32) &&& (3 : Int32))), .val (.ref b57), .unset] [(.int (1 : Int32))])) _
              refine XS.istore X153.here hx rfl (hb hby at_129) rfl (l' := #[.val (.int k0), .val (.int k1), .val (.int k2), .val (.int k3), .val (.int k4), .val (.ref b57), .val (.int k0), .val (.int k3), .val (.ref b148), .val (.int (((k4.toUInt32 >>> ((2 : Int32) &&& 31).toUInt32).toInt32) &&& (3 : Int32))), .val (.ref b57), .val (.int (1 : Int32))]) rfl ?_
              show Steps p.tables e below (T153.setTop (mkF m 131 #[.val (.int k0), .val (.int k1), .val (.int k2), .val (.int k3), .val (.int k4), .val (.ref b57), .val (.int k0), .val (.int k3), .val (.ref b148), .val (.int (((k4.toUInt32 >>> ((2 : Int32) &&& 31).toUInt32).toInt32) &&& (3 : Int32))), .val (.ref b57), .val (.int (1 : Int32))] [])) _
              refine XS.aload X153.here hx rfl (hb hby at_131) rfl rfl ?_
              show Steps p.tables e below (T153.setTop (mkF m 133 #[.val (.int k0), .val (.int k1), .val (.int k2), .val (.int k3), .val (.int k4), .val (.ref b57), .val (.int k0), .val (.int k3), .val (.ref b148), .val (.int (((k4.toUInt32 >>> ((2 : Int32) &&& 31).toUInt32).toInt32) &&& (3 : Int32))), .val (.ref b57), .val (.int (1 : Int32))] [(.ref b57)])) _
              refine XS.aload X153.here hx rfl (hb hby at_133) rfl rfl ?_
              show Steps p.tables e below (T153.setTop (mkF m 135 #[.val (.int k0), .val (.int k1), .val (.int k2), .val (.int k3), .val (.int k4), .val (.ref b57), .val (.int k0), .val (.int k3), .val (.ref b148), .val (.int (((k4.toUInt32 >>> ((2 : Int32) &&& 31).toUInt32).toInt32) &&& (3 : Int32))), .val (.ref b57), .val (.int (1 : Int32))] [(.ref b57), (.ref b57)])) _
              refine st183.trans ?_
              show Steps p.tables e below (T183.setTop (mkF m 138 #[.val (.int k0), .val (.int k1), .val (.int k2), .val (.int k3), .val (.int k4), .val (.ref b57), .val (.int k0), .val (.int k3), .val (.ref b148), .val (.int (((k4.toUInt32 >>> ((2 : Int32) &&& 31).toUInt32).toInt32) &&& (3 : Int32))), .val (.ref b57), .val (.int (1 : Int32))] [(.int (1 : Int32))])) _
              refine XS.iload X183.here hx rfl (hb hby at_138) rfl ?_
              show Steps p.tables e below (T183.setTop (mkF m 140 #[.val (.int k0), .val (.int k1), .val (.int k2), .val (.int k3), .val (.int k4), .val (.ref b57), .val (.int k0), .val (.int k3), .val (.ref b148), .val (.int (((k4.toUInt32 >>> ((2 : Int32) &&& 31).toUInt32).toInt32) &&& (3 : Int32))), .val (.ref b57), .val (.int (1 : Int32))] [(.int (1 : Int32)), (.int (1 : Int32))])) _
              refine XS.icmpNo X183.here hx rfl (hb hby at_140) rfl (teq (rfl : (1 : Int32) = (1 : Int32))).2 ?_
              show Steps p.tables e below (T183.setTop (mkF m 143 #[.val (.int k0), .val (.int k1), .val (.int k2), .val (.int k3), .val (.int k4), .val (.ref b57), .val (.int k0), .val (.int k3), .val (.ref b148), .val (.int (((k4.toUInt32 >>> ((2 : Int32) &&& 31).toUInt32).toInt32) &&& (3 : Int32))), .val (.ref b57), .val (.int (1 : Int32))] [])) _
              refine XS.iconst X183.here hx rfl (hb hby at_143) ?_
              show Steps p.tables e below (T183.setTop (mkF m 144 #[.val (.int k0), .val (.int k1), .val (.int k2), .val (.int k3), .val (.int k4), .val (.ref b57), .val (.int k0), .val (.int k3), .val (.ref b148), .val (.int (((k4.toUInt32 >>> ((2 : Int32) &&& 31).toUInt32).toInt32) &&& (3 : Int32))), .val (.ref b57), .val (.int (1 : Int32))] [(.int (1 : Int32))])) _
              refine XS.goto X183.here hx rfl (pc0 := 144) (pc' := 148) rfl (hb hby at_144) (by decide) (by decide) ?_
              show Steps p.tables e below (T183.setTop (mkF m 148 #[.val (.int k0), .val (.int k1), .val (.int k2), .val (.int k3), .val (.int k4), .val (.ref b57), .val (.int k0), .val (.int k3), .val (.ref b148), .val (.int (((k4.toUInt32 >>> ((2 : Int32) &&& 31).toUInt32).toInt32) &&& (3 : Int32))), .val (.ref b57), .val (.int (1 : Int32))] [(.int (1 : Int32))])) _
              exact k_)
            obtain ⟨fs, hr, hrun, hended, hW, hsame⟩ := X183.leave (v := some (.int (1 : Int32))) (fun h => by rw [Bd.returns] at h; cases h)
            refine ⟨_, _, pre184 _ ?_, hrun, hended, _, _, rfl, ?_, ⟨_, rfl⟩, hW, hsame.mono (by decide) (by decide)⟩
            · show Steps p.tables e below (T183.setTop (mkF m 148 #[.val (.int k0), .val (.int k1), .val (.int k2), .val (.int k3), .val (.int k4), .val (.ref b57), .val (.int k0), .val (.int k3), .val (.ref b148), .val (.int (((k4.toUInt32 >>> ((2 : Int32) &&& 31).toUInt32).toInt32) &&& (3 : Int32))), .val (.ref b57), .val (.int (1 : Int32))] [(.int (1 : Int32))])) _
              exact retN X183 hx (t := .boolean) Bd.returns (by simp) (hb hby at_148) hr
            · show Q_0 Z k0 k1 k2 k3 k4 w_cache cl_cache bx h0 n0 _ T183.heap _
              rw [e183]
              exact ⟨rfl, N183⟩
    · obtain ⟨T185, h185, X185, e185, E185, A185, D185, -, st185⟩ := newO X61 hx hZ hown (hw _ (List.mem_of_getElem? (i := 0) rfl)) (hw _ (List.mem_of_getElem? (i := 1) rfl)) (hw _ (List.mem_of_getElem? (i := 2) rfl)) rfl (g := (mkF m 39 #[.val (.int k0), .val (.int k1), .val (.int k2), .val (.int k3), .val (.int k4), .val (.ref b57), .val (.int k0), .val (.int k1), .unset, .unset, .unset, .unset] [])) rfl (hb hby at_39) (by decide) (by decide)
      obtain ⟨b185, g185⟩ : ∃ z, z = T61.heap.size := ⟨_, rfl⟩
      rw [← g185] at A185 D185 st185
      have ne_b57_b185 : b57 ≠ b185 := Nat.ne_of_lt (Nat.lt_of_lt_of_le E61x.lt (Nat.le_of_eq g185.symm))
      have gg_b185 : n0 ≤ b185 := Nat.le_trans Zs62 (Nat.le_of_eq g185.symm)
      have sz_b185 : h0.size ≤ b185 := Nat.le_trans O62.1 (Nat.le_of_eq g185.symm)
      have O186 := own_ext_trans O62 E185
      have Zs186 := Nat.le_trans Zs62 (E185).1
      have c187 : Exa Z h185 b57 "com/example/fissure/fissure/games/breakable/Hex" := E61x.ext E185
      have c188 : Fld Z h185 b57 "com/example/fissure/fissure/games/breakable/Hex" "column" "I" (.int k0) := F61_column.ext E185
      have c189 : Fld Z h185 b57 "com/example/fissure/fissure/games/breakable/Hex" "row" "I" (.int k1) := F61_row.ext E185
      have F185_column : Fld Z h185 b185 "com/example/fissure/fissure/games/breakable/Hex" "column" "I" (.int (0 : Int32)) := D185 (Or.inr (hw _ (List.mem_of_getElem? (i := 10) rfl))) (ty := .int) (by decide)
      have F185_row : Fld Z h185 b185 "com/example/fissure/fissure/games/breakable/Hex" "row" "I" (.int (0 : Int32)) := D185 (Or.inr (hw _ (List.mem_of_getElem? (i := 12) rfl))) (ty := .int) (by decide)
      obtain ⟨v190, _, ⟨T190, L190, k190, n190⟩, -, X190, ⟨Lc190, hQ190, l190, y190, z190⟩, st190⟩ := X185.specialBack hx (y := (⟨"com/example/fissure/fissure/games/breakable/Hex", "<init>", "(II)V"⟩ : MethodName)) rfl hown (mvT hZ (hw _ (List.mem_of_getElem? (i := 3) rfl))) (mvT hZ (hw _ (List.mem_of_getElem? (i := 4) rfl))) (mvT hZ (hw _ (List.mem_of_getElem? (i := 5) rfl))) (by decide) (backOf (W := 1) (rm_init l Z a0 hw [] b185 k0 k1 (.int (0 : Int32)) (.int (0 : Int32)) h185 n0 Zs186 A185 gg_b185 F185_column F185_row) hZ (hw _ (List.mem_of_getElem? (i := 5) rfl)) (hw _ (List.mem_of_getElem? (i := 2) rfl)) (by decide) (by decide)) (g := (mkF m 47 #[.val (.int k0), .val (.int k1), .val (.int k2), .val (.int k3), .val (.int k4), .val (.ref b57), .val (.int k0), .val (.int k1), .unset, .unset, .unset, .unset] [(.int k1), (.int k0), (.ref b185), (.ref b185)])) rfl (by rw [hml]; rfl) (Steps.refl _) (a := b185) (argsL := [(.int k0), (.int k1)]) (rest := [(.ref b185)]) (lenOf pd_2 rfl) rfl (by show 2 * 0 + _ ≤ _; exact Nat.le_of_eq rfl) (hb hby at_47) (fun _ _ => ⟨rfl, e185, (by decide : 2 + 0 ≤ _), (by decide : 4 + 0 ≤ _)⟩)
      dsimp only [Pt.U, Pt.locs, Pt.cells, Pt.slots] at X190 l190 y190 z190 st190 hQ190
      subst l190 y190 z190
      obtain ⟨hv190, N190q, M190⟩ := hQ190
      have N190 := Fr.app N61 N190q
      subst hv190
      obtain ⟨K190k, E190x, F190_column, F190_row⟩ := M190
      have O191 := own_ext_keep O186 K190k (allS sz_b185 all0)
      have Zs191 := Nat.le_trans Zs186 K190k.1
      have c192 : Exa Z T190.heap b57 "com/example/fissure/fissure/games/breakable/Hex" := c187.keep K190k
      have c193 : Fld Z T190.heap b57 "com/example/fissure/fissure/games/breakable/Hex" "column" "I" (.int k0) := c188.keep K190k (ninS ne_b57_b185 nin0)
      have c194 : Fld Z T190.heap b57 "com/example/fissure/fissure/games/breakable/Hex" "row" "I" (.int k1) := c189.keep K190k (ninS ne_b57_b185 nin0)
      have c195 : Exa Z T190.heap b185 "com/example/fissure/fissure/games/breakable/Hex" := A185.keep K190k
      have pre196 : ∀ t_, Steps p.tables e below (T190.setTop (mkF m 62 #[.val (.int k0), .val (.int k1), .val (.int k2), .val (.int k3), .val (.int k4), .val (.ref b57), .val (.int k0), .val (.int k1), .val (.ref b185), .val (.int (((k4.toUInt32 >>> ((2 : Int32) &&& 31).toUInt32).toInt32) &&& (3 : Int32))), .unset, .unset] [(.int (((k4.toUInt32 >>> ((2 : Int32) &&& 31).toUInt32).toInt32) &&& (3 : Int32)))])) t_ → Steps p.tables e below (s₁.setTop (entryFrame m #[(.int k0), (.int k1), (.int k2), (.int k3), (.int k4)] maxLocals)) t_ := fun t_ k_ => pre146 t_ (by
        show Steps p.tables e below (T61.setTop (mkF m 29 #[.val (.int k0), .val (.int k1), .val (.int k2), .val (.int k3), .val (.int k4), .val (.ref b57), .val (.int k0), .unset, .unset, .unset, .unset, .unset] [(.int (k4 &&& (2 : Int32)))])) _
        refine XS.ifNo X61.here hx rfl (hb hby at_29) rfl ((if0 _ _).trans (feq hc29_147).1) ?_
        show Steps p.tables e below (T61.setTop (mkF m 32 #[.val (.int k0), .val (.int k1), .val (.int k2), .val (.int k3), .val (.int k4), .val (.ref b57), .val (.int k0), .unset, .unset, .unset, .unset, .unset] [])) _
        refine XS.iloadN X61.here hx rfl (hb hby at_32) rfl ?_
        show Steps p.tables e below (T61.setTop (mkF m 33 #[.val (.int k0), .val (.int k1), .val (.int k2), .val (.int k3), .val (.int k4), .val (.ref b57), .val (.int k0), .unset, .unset, .unset, .unset, .unset] [(.int k1)])) _
        refine XS.goto X61.here hx rfl (pc0 := 33) (pc' := 37) rfl (hb hby at_33) (by decide) (by decide) ?_
        show Steps p.tables e below (T61.setTop (mkF m 37 #[.val (.int k0), .val (.int k1), .val (.int k2), .val (.int k3), .val (.int k4), .val (.ref b57), .val (.int k0), .unset, .unset, .unset, .unset, .unset] [(.int k1)])) _
        refine XS.istore X61.here hx rfl (hb hby at_37) rfl (l' := #[.val (.int k0), .val (.int k1), .val (.int k2), .val (.int k3), .val (.int k4), .val (.ref b57), .val (.int k0), .val (.int k1), .unset, .unset, .unset, .unset]) rfl ?_
        show Steps p.tables e below (T61.setTop (mkF m 39 #[.val (.int k0), .val (.int k1), .val (.int k2), .val (.int k3), .val (.int k4), .val (.ref b57), .val (.int k0), .val (.int k1), .unset, .unset, .unset, .unset] [])) _
        refine st185 _ ?_
        show Steps p.tables e below (T185.setTop (mkF m 42 #[.val (.int k0), .val (.int k1), .val (.int k2), .val (.int k3), .val (.int k4), .val (.ref b57), .val (.int k0), .val (.int k1), .unset, .unset, .unset, .unset] [(.ref b185)])) _
        refine XS.dup X185.here hx rfl (hb hby at_42) rfl rfl ?_
        show Steps p.tables e below (T185.setTop (mkF m 43 #[.val (.int k0), .val (.int k1), .val (.int k2), .val (.int k3), .val (.int k4), .val (.ref b57), .val (.int k0), .val (.int k1), .unset, .unset, .unset, .unset] [(.ref b185), (.ref b185)])) _
        refine XS.iload X185.here hx rfl (hb hby at_43) rfl ?_
        show Steps p.tables e below (T185.setTop (mkF m 45 #[.val (.int k0), .val (.int k1), .val (.int k2), .val (.int k3), .val (.int k4), .val (.ref b57), .val (.int k0), .val (.int k1), .unset, .unset, .unset, .unset] [(.int k0), (.ref b185), (.ref b185)])) _
        refine XS.iload X185.here hx rfl (hb hby at_45) rfl ?_
        show Steps p.tables e below (T185.setTop (mkF m 47 #[.val (.int k0), .val (.int k1), .val (.int k2), .val (.int k3), .val (.int k4), .val (.ref b57), .val (.int k0), .val (.int k1), .unset, .unset, .unset, .unset] [(.int k1), (.int k0), (.ref b185), (.ref b185)])) _
        refine st190.trans ?_
        show Steps p.tables e below (T190.setTop (mkF m 50 #[.val (.int k0), .val (.int k1), .val (.int k2), .val (.int k3), .val (.int k4), .val (.ref b57), .val (.int k0), .val (.int k1), .unset, .unset, .unset, .unset] [(.ref b185)])) _
        refine XS.astore X190.here hx rfl (hb hby at_50) rfl rfl (l' := #[.val (.int k0), .val (.int k1), .val (.int k2), .val (.int k3), .val (.int k4), .val (.ref b57), .val (.int k0), .val (.int k1), .val (.ref b185), .unset, .unset, .unset]) rfl ?_
        show Steps p.tables e below (T190.setTop (mkF m 52 #[.val (.int k0), .val (.int k1), .val (.int k2), .val (.int k3), .val (.int k4), .val (.ref b57), .val (.int k0), .val (.int k1), .val (.ref b185), .unset, .unset, .unset] [])) _
        refine XS.iload X190.here hx rfl (hb hby at_52) rfl ?_
        show Steps p.tables e below (T190.setTop (mkF m 54 #[.val (.int k0), .val (.int k1), .val (.int k2), .val (.int k3), .val (.int k4), .val (.ref b57), .val (.int k0), .val (.int k1), .val (.ref b185), .unset, .unset, .unset] [(.int k4)])) _
        refine XS.iconst X190.here hx rfl (hb hby at_54) ?_
        show Steps p.tables e below (T190.setTop (mkF m 55 #[.val (.int k0), .val (.int k1), .val (.int k2), .val (.int k3), .val (.int k4), .val (.ref b57), .val (.int k0), .val (.int k1), .val (.ref b185), .unset, .unset, .unset] [(.int (2 : Int32)), (.int k4)])) _
        refine XS.iushr X190.here hx rfl (hb hby at_55) rfl ?_
        show Steps p.tables e below (T190.setTop (mkF m 56 #[.val (.int k0), .val (.int k1), .val (.int k2), .val (.int k3), .val (.int k4), .val (.ref b57), .val (.int k0), .val (.int k1), .val (.ref b185), .unset, .unset, .unset] [(.int ((k4.toUInt32 >>> ((2 : Int32) &&& 31).toUInt32).toInt32))])) _
        refine XS.iconst X190.here hx rfl (hb hby at_56) ?_
        show Steps p.tables e below (T190.setTop (mkF m 57 #[.val (.int k0), .val (.int k1), .val (.int k2), .val (.int k3), .val (.int k4), .val (.ref b57), .val (.int k0), .val (.int k1), .val (.ref b185), .unset, .unset, .unset] [(.int (3 : Int32)), (.int ((k4.toUInt32 >>> ((2 : Int32) &&& 31).toUInt32).toInt32))])) _
        refine XS.iand X190.here hx rfl (hb hby at_57) rfl ?_
        show Steps p.tables e below (T190.setTop (mkF m 58 #[.val (.int k0), .val (.int k1), .val (.int k2), .val (.int k3), .val (.int k4), .val (.ref b57), .val (.int k0), .val (.int k1), .val (.ref b185), .unset, .unset, .unset] [(.int (((k4.toUInt32 >>> ((2 : Int32) &&& 31).toUInt32).toInt32) &&& (3 : Int32)))])) _
        refine XS.istore X190.here hx rfl (hb hby at_58) rfl (l' := #[.val (.int k0), .val (.int k1), .val (.int k2), .val (.int k3), .val (.int k4), .val (.ref b57), .val (.int k0), .val (.int k1), .val (.ref b185), .val (.int (((k4.toUInt32 >>> ((2 : Int32) &&& 31).toUInt32).toInt32) &&& (3 : Int32))), .unset, .unset]) rfl ?_
        show Steps p.tables e below (T190.setTop (mkF m 60 #[.val (.int k0), .val (.int k1), .val (.int k2), .val (.int k3), .val (.int k4), .val (.ref b57), .val (.int k0), .val (.int k1), .val (.ref b185), .val (.int (((k4.toUInt32 >>> ((2 : Int32) &&& 31).toUInt32).toInt32) &&& (3 : Int32))), .unset, .unset] [])) _
        refine XS.iload X190.here hx rfl (hb hby at_60) rfl ?_
        show Steps p.tables e below (T190.setTop (mkF m 62 #[.val (.int k0), .val (.int k1), .val (.int k2), .val (.int k3), .val (.int k4), .val (.ref b57), .val (.int k0), .val (.int k1), .val (.ref b185), .val (.int (((k4.toUInt32 >>> ((2 : Int32) &&& 31).toUInt32).toInt32) &&& (3 : Int32))), .unset, .unset] [(.int (((k4.toUInt32 >>> ((2 : Int32) &&& 31).toUInt32).toInt32) &&& (3 : Int32)))])) _
        exact k_)
      by_cases hc62_197 : (((k4.toUInt32 >>> ((2 : Int32) &&& 31).toUInt32).toInt32) &&& (3 : Int32)) = (0 : Int32)
      · obtain ⟨cq198, kq198, q198a, q198b, q198c⟩ := isOf hZ rfl c192
        obtain ⟨v198, _, ⟨T198, L198, k198, n198⟩, -, X198, ⟨Lc198, hQ198, l198, y198, z198⟩, st198⟩ := X190.virtualBack hx (y := (⟨"com/example/fissure/fissure/games/breakable/Hex", "equals", "(Ljava/lang/Object;)Z"⟩ : MethodName)) (z := (⟨"com/example/fissure/fissure/games/breakable/Hex", "equals", "(Ljava/lang/Object;)Z"⟩ : MethodName)) hown (mvT hZ (hw _ (List.mem_of_getElem? (i := 13) rfl))) (mvT hZ (hw _ (List.mem_of_getElem? (i := 14) rfl))) (notFace_of_selects (args := #[]) (mvT hZ (hw _ (List.mem_of_getElem? (i := 16) rfl)))) (mvT hZ (hw _ (List.mem_of_getElem? (i := 16) rfl))) (mvT hZ (hw _ (List.mem_of_getElem? (i := 15) rfl))) (by decide) (backOf (W := 0) (rm_eqC l Z a0 hw [] b57 b185 k0 k1 k0 k1 T190.heap n0 Zs191 E190x c193 c194 F190_column F190_row) hZ (hw _ (List.mem_of_getElem? (i := 17) rfl)) (hw _ (List.mem_of_getElem? (i := 2) rfl)) (by decide) (by decide)) q198a q198c (g := (mkF m 135 #[.val (.int k0), .val (.int k1), .val (.int k2), .val (.int k3), .val (.int k4), .val (.ref b57), .val (.int k0), .val (.int k1), .val (.ref b185), .val (.int (((k4.toUInt32 >>> ((2 : Int32) &&& 31).toUInt32).toInt32) &&& (3 : Int32))), .val (.ref b185), .val (.int (1 : Int32))] [(.ref b185), (.ref b57)])) rfl (by rw [hml]; rfl) (Steps.refl _) (argsL := [(.ref b185)]) (rest := []) (lenOf pd_3 rfl) rfl (by show 2 * 0 + _ ≤ _; exact Nat.le_of_eq rfl) (hb hby at_135) (fun _ _ => ⟨rfl, rfl, (by decide : 2 + 0 ≤ _), (by decide : 4 + 0 ≤ _)⟩)
        dsimp only [Pt.U, Pt.locs, Pt.cells, Pt.slots] at X198 l198 y198 z198 st198 hQ198
        subst l198 y198 z198
        obtain ⟨hv198, N198q, e198⟩ := hQ198
        have N198 := Fr.app N190 N198q
        have hw198 : v198 = some (.int (1 : Int32)) := hv198.trans (congrArg (fun z => some (Value.int z)) (own_yes rfl rfl))
        subst hw198
        have pre199 : ∀ t_, Steps p.tables e below (T198.setTop (mkF m 148 #[.val (.int k0), .val (.int k1), .val (.int k2), .val (.int k3), .val (.int k4), .val (.ref b57), .val (.int k0), .val (.int k1), .val (.ref b185), .val (.int (((k4.toUInt32 >>> ((2 : Int32) &&& 31).toUInt32).toInt32) &&& (3 : Int32))), .val (.ref b185), .val (.int (1 : Int32))] [(.int (1 : Int32))])) t_ → Steps p.tables e below (s₁.setTop (entryFrame m #[(.int k0), (.int k1), (.int k2), (.int k3), (.int k4)] maxLocals)) t_ := fun t_ k_ => pre196 t_ (by
          show Steps p.tables e below (T190.setTop (mkF m 62 #[.val (.int k0), .val (.int k1), .val (.int k2), .val (.int k3), .val (.int k4), .val (.ref b57), .val (.int k0), .val (.int k1), .val (.ref b185), .val (.int (((k4.toUInt32 >>> ((2 : Int32) &&& 31).toUInt32).toInt32) &&& (3 : Int32))), .unset, .unset] [(.int (((k4.toUInt32 >>> ((2 : Int32) &&& 31).toUInt32).toInt32) &&& (3 : Int32)))])) _
          refine XS.ifNo X190.here hx rfl (hb hby at_62) rfl ((if0 _ _).trans (teq hc62_197).2) ?_
          show Steps p.tables e below (T190.setTop (mkF m 65 #[.val (.int k0), .val (.int k1), .val (.int k2), .val (.int k3), .val (.int k4), .val (.ref b57), .val (.int k0), .val (.int k1), .val (.ref b185), .val (.int (((k4.toUInt32 >>> ((2 : Int32) &&& 31).toUInt32).toInt32) &&& (3 : Int32))), .unset, .unset] [])) _
          refine XS.aload X190.here hx rfl (hb hby at_65) rfl rfl ?_
          show Steps p.tables e below (T190.setTop (mkF m 67 #[.val (.int k0), .val (.int k1), .val (.int k2), .val (.int k3), .val (.int k4), .val (.ref b57), .val (.int k0), .val (.int k1), .val (.ref b185), .val (.int (((k4.toUInt32 >>> ((2 : Int32) &&& 31).toUInt32).toInt32) &&& (3 : Int32))), .unset, .unset] [(.ref b185)])) _
          refine XS.astore X190.here hx rfl (hb hby at_67) rfl rfl (l' := #[.val (.int k0), .val (.int k1), .val (.int k2), .val (.int k3), .val (.int k4), .val (.ref b57), .val (.int k0), .val (.int k1), .val (.ref b185), .val (.int (((k4.toUInt32 >>> ((2 : Int32) &&& 31).toUInt32).toInt32) &&& (3 : Int32))), .val (.ref b185), .unset]) rfl ?_
          show Steps p.tables e below (T190.setTop (mkF m 69 #[.val (.int k0), .val (.int k1), .val (.int k2), .val (.int k3), .val (.int k4), .val (.ref b57), .val (.int k0), .val (.int k1), .val (.ref b185), .val (.int (((k4.toUInt32 >>> ((2 : Int32) &&& 31).toUInt32).toInt32) &&& (3 : Int32))), .val (.ref b185), .unset] [])) _
          refine XS.iloadN X190.here hx rfl (hb hby at_69) rfl ?_
          show Steps p.tables e below (T190.setTop (mkF m 70 #[.val (.int k0), .val (.int k1), .val (.int k2), .val (.int k3), .val (.int k4), .val (.ref b57), .val (.int k0), .val (.int k1), .val (.ref b185), .val (.int (((k4.toUInt32 >>> ((2 : Int32) &&& 31).toUInt32).toInt32) &&& (3 : Int32))), .val (.ref b185), .unset] [(.int k0)])) _
          refine XS.iload X190.here hx rfl (hb hby at_70) rfl ?_
          show Steps p.tables e below (T190.setTop (mkF m 72 #[.val (.int k0), .val (.int k1), .val (.int k2), .val (.int k3), .val (.int k4), .val (.ref b57), .val (.int k0), .val (.int k1), .val (.ref b185), .val (.int (((k4.toUInt32 >>> ((2 : Int32) &&& 31).toUInt32).toInt32) &&& (3 : Int32))), .val (.ref b185), .unset] [(.int k0), (.int k0)])) _
          refine XS.icmpNo X190.here hx rfl (hb hby at_72) rfl (teq (rfl : k0 = k0)).2 ?_
          show Steps p.tables e below (T190.setTop (mkF m 75 #[.val (.int k0), .val (.int k1), .val (.int k2), .val (.int k3), .val (.int k4), .val (.ref b57), .val (.int k0), .val (.int k1), .val (.ref b185), .val (.int (((k4.toUInt32 >>> ((2 : Int32) &&& 31).toUInt32).toInt32) &&& (3 : Int32))), .val (.ref b185), .unset] [])) _
          refine XS.iloadN X190.here hx rfl (hb hby at_75) rfl ?_
          show Steps p.tables e below (T190.setTop (mkF m 76 #[.val (.int k0), .val (.int k1), .val (.int k2), .val (.int k3), .val (.int k4), .val (.ref b57), .val (.int k0), .val (.int k1), .val (.ref b185), .val (.int (((k4.toUInt32 >>> ((2 : Int32) &&& 31).toUInt32).toInt32) &&& (3 : Int32))), .val (.ref b185), .unset] [(.int k1)])) _
          refine XS.iload X190.here hx rfl (hb hby at_76) rfl ?_
          show Steps p.tables e below (T190.setTop (mkF m 78 #[.val (.int k0), .val (.int k1), .val (.int k2), .val (.int k3), .val (.int k4), .val (.ref b57), .val (.int k0), .val (.int k1), .val (.ref b185), .val (.int (((k4.toUInt32 >>> ((2 : Int32) &&& 31).toUInt32).toInt32) &&& (3 : Int32))), .val (.ref b185), .unset] [(.int k1), (.int k1)])) _
          refine XS.icmpNo X190.here hx rfl (hb hby at_78) rfl (teq (rfl : k1 = k1)).2 ?_
          show Steps p.tables e below (T190.setTop (mkF m 81 #[.val (.int k0), .val (.int k1), .val (.int k2), .val (.int k3), .val (.int k4), .val (.ref b57), .val (.int k0), .val (.int k1), .val (.ref b185), .val (.int (((k4.toUInt32 >>> ((2 : Int32) &&& 31).toUInt32).toInt32) &&& (3 : Int32))), .val (.ref b185), .unset] [])) _
          refine XS.iconst X190.here hx rfl (hb hby at_81) ?_
          show Steps p.tables e below (T190.setTop (mkF m 82 #[.val (.int k0), .val (.int k1), .val (.int k2), .val (.int k3), .val (.int k4), .val (.ref b57), .val (.int k0), .val (.int k1), .val (.ref b185), .val (.int (((k4.toUInt32 >>> ((2 : Int32) &&& 31).toUInt32).toInt32) &&& (3 : Int32))), .val (.ref b185), .unset] [(.int (1 : Int32))])) _
          refine XS.goto X190.here hx rfl (pc0 := 82) (pc' := 86) rfl (hb hby at_82) (by decide) (by decide) ?_
          show Steps p.tables e below (T190.setTop (mkF m 86 #[.val (.int k0), .val (.int k1), .val (.int k2), .val (.int k3), .val (.int k4), .val (.ref b57), .val (.int k0), .val (.int k1), .val (.ref b185), .val (.int (((k4.toUInt32 >>> ((2 : Int32) &&& 31).toUInt32).toInt32) &&& (3 : Int32))), .val (.ref b185), .unset] [(.int (1 : Int32))])) _
          refine XS.istore X190.here hx rfl (hb hby at_86) rfl (l' := #[.val (.int k0), .val (.int k1), .val (.int k2), .val (.int k3), .val (.int k4), .val (.ref b57), .val (.int k0), .val (.int k1), .val (.ref b185), .val (.int (((k4.toUInt32 >>> ((2 : Int32) &&& 31).toUInt32).toInt32) &&& (3 : Int32))), .val (.ref b185), .val (.int (1 : Int32))]) rfl ?_
          show Steps p.tables e below (T190.setTop (mkF m 88 #[.val (.int k0), .val (.int k1), .val (.int k2), .val (.int k3), .val (.int k4), .val (.ref b57), .val (.int k0), .val (.int k1), .val (.ref b185), .val (.int (((k4.toUInt32 >>> ((2 : Int32) &&& 31).toUInt32).toInt32) &&& (3 : Int32))), .val (.ref b185), .val (.int (1 : Int32))] [])) _
          refine XS.goto X190.here hx rfl (pc0 := 88) (pc' := 131) rfl (hb hby at_88) (by decide) (by decide) ?_
          show Steps p.tables e below (T190.setTop (mkF m 131 #[.val (.int k0), .val (.int k1), .val (.int k2), .val (.int k3), .val (.int k4), .val (.ref b57), .val (.int k0), .val (.int k1), .val (.ref b185), .val (.int (((k4.toUInt32 >>> ((2 : Int32) &&& 31).toUInt32).toInt32) &&& (3 : Int32))), .val (.ref b185), .val (.int (1 : Int32))] [])) _
          refine XS.aload X190.here hx rfl (hb hby at_131) rfl rfl ?_
          show Steps p.tables e below (T190.setTop (mkF m 133 #[.val (.int k0), .val (.int k1), .val (.int k2), .val (.int k3), .val (.int k4), .val (.ref b57), .val (.int k0), .val (.int k1), .val (.ref b185), .val (.int (((k4.toUInt32 >>> ((2 : Int32) &&& 31).toUInt32).toInt32) &&& (3 : Int32))), .val (.ref b185), .val (.int (1 : Int32))] [(.ref b57)])) _
          refine XS.aload X190.here hx rfl (hb hby at_133) rfl rfl ?_
          show Steps p.tables e below (T190.setTop (mkF m 135 #[.val (.int k0), .val (.int k1), .val (.int k2), .val (.int k3), .val (.int k4), .val (.ref b57), .val (.int k0), .val (.int k1), .val (.ref b185), .val (.int (((k4.toUInt32 >>> ((2 : Int32) &&& 31).toUInt32).toInt32) &&& (3 : Int32))), .val (.ref b185), .val (.int (1 : Int32))] [(.ref b185), (.ref b57)])) _
          refine st198.trans ?_
          show Steps p.tables e below (T198.setTop (mkF m 138 #[.val (.int k0), .val (.int k1), .val (.int k2), .val (.int k3), .val (.int k4), .val (.ref b57), .val (.int k0), .val (.int k1), .val (.ref b185), .val (.int (((k4.toUInt32 >>> ((2 : Int32) &&& 31).toUInt32).toInt32) &&& (3 : Int32))), .val (.ref b185), .val (.int (1 : Int32))] [(.int (1 : Int32))])) _
          refine XS.iload X198.here hx rfl (hb hby at_138) rfl ?_
          show Steps p.tables e below (T198.setTop (mkF m 140 #[.val (.int k0), .val (.int k1), .val (.int k2), .val (.int k3), .val (.int k4), .val (.ref b57), .val (.int k0), .val (.int k1), .val (.ref b185), .val (.int (((k4.toUInt32 >>> ((2 : Int32) &&& 31).toUInt32).toInt32) &&& (3 : Int32))), .val (.ref b185), .val (.int (1 : Int32))] [(.int (1 : Int32)), (.int (1 : Int32))])) _
          refine XS.icmpNo X198.here hx rfl (hb hby at_140) rfl (teq (rfl : (1 : Int32) = (1 : Int32))).2 ?_
          show Steps p.tables e below (T198.setTop (mkF m 143 #[.val (.int k0), .val (.int k1), .val (.int k2), .val (.int k3), .val (.int k4), .val (.ref b57), .val (.int k0), .val (.int k1), .val (.ref b185), .val (.int (((k4.toUInt32 >>> ((2 : Int32) &&& 31).toUInt32).toInt32) &&& (3 : Int32))), .val (.ref b185), .val (.int (1 : Int32))] [])) _
          refine XS.iconst X198.here hx rfl (hb hby at_143) ?_
          show Steps p.tables e below (T198.setTop (mkF m 144 #[.val (.int k0), .val (.int k1), .val (.int k2), .val (.int k3), .val (.int k4), .val (.ref b57), .val (.int k0), .val (.int k1), .val (.ref b185), .val (.int (((k4.toUInt32 >>> ((2 : Int32) &&& 31).toUInt32).toInt32) &&& (3 : Int32))), .val (.ref b185), .val (.int (1 : Int32))] [(.int (1 : Int32))])) _
          refine XS.goto X198.here hx rfl (pc0 := 144) (pc' := 148) rfl (hb hby at_144) (by decide) (by decide) ?_
          show Steps p.tables e below (T198.setTop (mkF m 148 #[.val (.int k0), .val (.int k1), .val (.int k2), .val (.int k3), .val (.int k4), .val (.ref b57), .val (.int k0), .val (.int k1), .val (.ref b185), .val (.int (((k4.toUInt32 >>> ((2 : Int32) &&& 31).toUInt32).toInt32) &&& (3 : Int32))), .val (.ref b185), .val (.int (1 : Int32))] [(.int (1 : Int32))])) _
          exact k_)
        obtain ⟨fs, hr, hrun, hended, hW, hsame⟩ := X198.leave (v := some (.int (1 : Int32))) (fun h => by rw [Bd.returns] at h; cases h)
        refine ⟨_, _, pre199 _ ?_, hrun, hended, _, _, rfl, ?_, ⟨_, rfl⟩, hW, hsame.mono (by decide) (by decide)⟩
        · show Steps p.tables e below (T198.setTop (mkF m 148 #[.val (.int k0), .val (.int k1), .val (.int k2), .val (.int k3), .val (.int k4), .val (.ref b57), .val (.int k0), .val (.int k1), .val (.ref b185), .val (.int (((k4.toUInt32 >>> ((2 : Int32) &&& 31).toUInt32).toInt32) &&& (3 : Int32))), .val (.ref b185), .val (.int (1 : Int32))] [(.int (1 : Int32))])) _
          exact retN X198 hx (t := .boolean) Bd.returns (by simp) (hb hby at_148) hr
        · show Q_0 Z k0 k1 k2 k3 k4 w_cache cl_cache bx h0 n0 _ T198.heap _
          rw [e198]
          exact ⟨rfl, N198⟩
      · have pre200 : ∀ t_, Steps p.tables e below (T190.setTop (mkF m 94 #[.val (.int k0), .val (.int k1), .val (.int k2), .val (.int k3), .val (.int k4), .val (.ref b57), .val (.int k0), .val (.int k1), .val (.ref b185), .val (.int (((k4.toUInt32 >>> ((2 : Int32) &&& 31).toUInt32).toInt32) &&& (3 : Int32))), .unset, .unset] [(.int (1 : Int32)), (.int (((k4.toUInt32 >>> ((2 : Int32) &&& 31).toUInt32).toInt32) &&& (3 : Int32)))])) t_ → Steps p.tables e below (s₁.setTop (entryFrame m #[(.int k0), (.int k1), (.int k2), (.int k3), (.int k4)] maxLocals)) t_ := fun t_ k_ => pre196 t_ (by
          show Steps p.tables e below (T190.setTop (mkF m 62 #[.val (.int k0), .val (.int k1), .val (.int k2), .val (.int k3), .val (.int k4), .val (.ref b57), .val (.int k0), .val (.int k1), .val (.ref b185), .val (.int (((k4.toUInt32 >>> ((2 : Int32) &&& 31).toUInt32).toInt32) &&& (3 : Int32))), .unset, .unset] [(.int (((k4.toUInt32 >>> ((2 : Int32) &&& 31).toUInt32).toInt32) &&& (3 : Int32)))])) _
          refine XS.ifYes X190.here hx rfl (pc0 := 62) (pc' := 91) rfl (hb hby at_62) rfl ((if0 _ _).trans (feq hc62_197).2) (by decide) (by decide) ?_
          show Steps p.tables e below (T190.setTop (mkF m 91 #[.val (.int k0), .val (.int k1), .val (.int k2), .val (.int k3), .val (.int k4), .val (.ref b57), .val (.int k0), .val (.int k1), .val (.ref b185), .val (.int (((k4.toUInt32 >>> ((2 : Int32) &&& 31).toUInt32).toInt32) &&& (3 : Int32))), .unset, .unset] [])) _
          refine XS.iload X190.here hx rfl (hb hby at_91) rfl ?_
          show Steps p.tables e below (T190.setTop (mkF m 93 #[.val (.int k0), .val (.int k1), .val (.int k2), .val (.int k3), .val (.int k4), .val (.ref b57), .val (.int k0), .val (.int k1), .val (.ref b185), .val (.int (((k4.toUInt32 >>> ((2 : Int32) &&& 31).toUInt32).toInt32) &&& (3 : Int32))), .unset, .unset] [(.int (((k4.toUInt32 >>> ((2 : Int32) &&& 31).toUInt32).toInt32) &&& (3 : Int32)))])) _
          refine XS.iconst X190.here hx rfl (hb hby at_93) ?_
          show Steps p.tables e below (T190.setTop (mkF m 94 #[.val (.int k0), .val (.int k1), .val (.int k2), .val (.int k3), .val (.int k4), .val (.ref b57), .val (.int k0), .val (.int k1), .val (.ref b185), .val (.int (((k4.toUInt32 >>> ((2 : Int32) &&& 31).toUInt32).toInt32) &&& (3 : Int32))), .unset, .unset] [(.int (1 : Int32)), (.int (((k4.toUInt32 >>> ((2 : Int32) &&& 31).toUInt32).toInt32) &&& (3 : Int32)))])) _
          exact k_)
        by_cases hc94_201 : (((k4.toUInt32 >>> ((2 : Int32) &&& 31).toUInt32).toInt32) &&& (3 : Int32)) = (1 : Int32)
        · obtain ⟨cq202, kq202, q202a, q202b, q202c⟩ := isOf hZ rfl c192
          obtain ⟨v202, _, ⟨T202, L202, k202, n202⟩, -, X202, ⟨Lc202, hQ202, l202, y202, z202⟩, st202⟩ := X190.virtualBack hx (y := (⟨"com/example/fissure/fissure/games/breakable/Hex", "equals", "(Ljava/lang/Object;)Z"⟩ : MethodName)) (z := (⟨"com/example/fissure/fissure/games/breakable/Hex", "equals", "(Ljava/lang/Object;)Z"⟩ : MethodName)) hown (mvT hZ (hw _ (List.mem_of_getElem? (i := 13) rfl))) (mvT hZ (hw _ (List.mem_of_getElem? (i := 14) rfl))) (notFace_of_selects (args := #[]) (mvT hZ (hw _ (List.mem_of_getElem? (i := 16) rfl)))) (mvT hZ (hw _ (List.mem_of_getElem? (i := 16) rfl))) (mvT hZ (hw _ (List.mem_of_getElem? (i := 15) rfl))) (by decide) (backOf (W := 0) (rm_eqN l Z a0 hw [] b57 T190.heap n0 Zs191 ) hZ (hw _ (List.mem_of_getElem? (i := 17) rfl)) (hw _ (List.mem_of_getElem? (i := 2) rfl)) (by decide) (by decide)) q202a q202c (g := (mkF m 135 #[.val (.int k0), .val (.int k1), .val (.int k2), .val (.int k3), .val (.int k4), .val (.ref b57), .val (.int k0), .val (.int k1), .val (.ref b185), .val (.int (((k4.toUInt32 >>> ((2 : Int32) &&& 31).toUInt32).toInt32) &&& (3 : Int32))), .val .null, .val (.int (0 : Int32))] [.null, (.ref b57)])) rfl (by rw [hml]; rfl) (Steps.refl _) (argsL := [.null]) (rest := []) (lenOf pd_3 rfl) rfl (by show 2 * 0 + _ ≤ _; exact Nat.le_of_eq rfl) (hb hby at_135) (fun _ _ => ⟨rfl, rfl, (by decide : 2 + 0 ≤ _), (by decide : 4 + 0 ≤ _)⟩)
          dsimp only [Pt.U, Pt.locs, Pt.cells, Pt.slots] at X202 l202 y202 z202 st202 hQ202
          subst l202 y202 z202
          obtain ⟨hv202, N202q, e202⟩ := hQ202
          have N202 := Fr.app N190 N202q
          subst hv202
          have pre203 : ∀ t_, Steps p.tables e below (T202.setTop (mkF m 148 #[.val (.int k0), .val (.int k1), .val (.int k2), .val (.int k3), .val (.int k4), .val (.ref b57), .val (.int k0), .val (.int k1), .val (.ref b185), .val (.int (((k4.toUInt32 >>> ((2 : Int32) &&& 31).toUInt32).toInt32) &&& (3 : Int32))), .val .null, .val (.int (0 : Int32))] [(.int (1 : Int32))])) t_ → Steps p.tables e below (s₁.setTop (entryFrame m #[(.int k0), (.int k1), (.int k2), (.int k3), (.int k4)] maxLocals)) t_ := fun t_ k_ => pre200 t_ (by
            show Steps p.tables e below (T190.setTop (mkF m 94 #[.val (.int k0), .val (.int k1), .val (.int k2), .val (.int k3), .val (.int k4), .val (.ref b57), .val (.int k0), .val (.int k1), .val (.ref b185), .val (.int (((k4.toUInt32 >>> ((2 : Int32) &&& 31).toUInt32).toInt32) &&& (3 : Int32))), .unset, .unset] [(.int (1 : Int32)), (.int (((k4.toUInt32 >>> ((2 : Int32) &&& 31).toUInt32).toInt32) &&& (3 : Int32)))])) _
            refine XS.icmpNo X190.here hx rfl (hb hby at_94) rfl (teq hc94_201).2 ?_
            show Steps p.tables e below (T190.setTop (mkF m 97 #[.val (.int k0), .val (.int k1), .val (.int k2), .val (.int k3), .val (.int k4), .val (.ref b57), .val (.int k0), .val (.int k1), .val (.ref b185), .val (.int (((k4.toUInt32 >>> ((2 : Int32) &&& 31).toUInt32).toInt32) &&& (3 : Int32))), .unset, .unset] [])) _
            refine XS.aconstNull X190.here hx rfl (hb hby at_97) ?_
            show Steps p.tables e below (T190.setTop (mkF m 98 #[.val (.int k0), .val (.int k1), .val (.int k2), .val (.int k3), .val (.int k4), .val (.ref b57), .val (.int k0), .val (.int k1), .val (.ref b185), .val (.int (((k4.toUInt32 >>> ((2 : Int32) &&& 31).toUInt32).toInt32) &&& (3 : Int32))), .unset, .unset] [.null])) _
            refine XS.astore X190.here hx rfl (hb hby at_98) rfl rfl (l' := #[.val (.int k0), .val (.int k1), .val (.int k2), .val (.int k3), .val (.int k4), .val (.ref b57), .val (.int k0), .val (.int k1), .val (.ref b185), .val (.int (((k4.toUInt32 >>> ((2 : Int32) &&& 31).toUInt32).toInt32) &&& (3 : Int32))), .val .null, .unset]) rfl ?_
            show Steps p.tables e below (T190.setTop (mkF m 100 #[.val (.int k0), .val (.int k1), .val (.int k2), .val (.int k3), .val (.int k4), .val (.ref b57), .val (.int k0), .val (.int k1), .val (.ref b185), .val (.int (((k4.toUInt32 >>> ((2 : Int32) &&& 31).toUInt32).toInt32) &&& (3 : Int32))), .val .null, .unset] [])) _
            refine XS.iconst X190.here hx rfl (hb hby at_100) ?_
            show Steps p.tables e below (T190.setTop (mkF m 101 #[.val (.int k0), .val (.int k1), .val (.int k2), .val (.int k3), .val (.int k4), .val (.ref b57), .val (.int k0), .val (.int k1), .val (.ref b185), .val (.int (((k4.toUInt32 >>> ((2 : Int32) &&& 31).toUInt32).toInt32) &&& (3 : Int32))), .val .null, .unset] [(.int (0 : Int32))])) _
            refine XS.istore X190.here hx rfl (hb hby at_101) rfl (l' := #[.val (.int k0), .val (.int k1), .val (.int k2), .val (.int k3), .val (.int k4), .val (.ref b57), .val (.int k0), .val (.int k1), .val (.ref b185), .val (.int (((k4.toUInt32 >>> ((2 : Int32) &&& 31).toUInt32).toInt32) &&& (3 : Int32))), .val .null, .val (.int (0 : Int32))]) rfl ?_
            show Steps p.tables e below (T190.setTop (mkF m 103 #[.val (.int k0), .val (.int k1), .val (.int k2), .val (.int k3), .val (.int k4), .val (.ref b57), .val (.int k0), .val (.int k1), .val (.ref b185), .val (.int (((k4.toUInt32 >>> ((2 : Int32) &&& 31).toUInt32).toInt32) &&& (3 : Int32))), .val .null, .val (.int (0 : Int32))] [])) _
            refine XS.goto X190.here hx rfl (pc0 := 103) (pc' := 131) rfl (hb hby at_103) (by decide) (by decide) ?_
            show Steps p.tables e below (T190.setTop (mkF m 131 #[.val (.int k0), .val (.int k1), .val (.int k2), .val (.int k3), .val (.int k4), .val (.ref b57), .val (.int k0), .val (.int k1), .val (.ref b185), .val (.int (((k4.toUInt32 >>> ((2 : Int32) &&& 31).toUInt32).toInt32) &&& (3 : Int32))), .val .null, .val (.int (0 : Int32))] [])) _
            refine XS.aload X190.here hx rfl (hb hby at_131) rfl rfl ?_
            show Steps p.tables e below (T190.setTop (mkF m 133 #[.val (.int k0), .val (.int k1), .val (.int k2), .val (.int k3), .val (.int k4), .val (.ref b57), .val (.int k0), .val (.int k1), .val (.ref b185), .val (.int (((k4.toUInt32 >>> ((2 : Int32) &&& 31).toUInt32).toInt32) &&& (3 : Int32))), .val .null, .val (.int (0 : Int32))] [(.ref b57)])) _
            refine XS.aload X190.here hx rfl (hb hby at_133) rfl rfl ?_
            show Steps p.tables e below (T190.setTop (mkF m 135 #[.val (.int k0), .val (.int k1), .val (.int k2), .val (.int k3), .val (.int k4), .val (.ref b57), .val (.int k0), .val (.int k1), .val (.ref b185), .val (.int (((k4.toUInt32 >>> ((2 : Int32) &&& 31).toUInt32).toInt32) &&& (3 : Int32))), .val .null, .val (.int (0 : Int32))] [.null, (.ref b57)])) _
            refine st202.trans ?_
            show Steps p.tables e below (T202.setTop (mkF m 138 #[.val (.int k0), .val (.int k1), .val (.int k2), .val (.int k3), .val (.int k4), .val (.ref b57), .val (.int k0), .val (.int k1), .val (.ref b185), .val (.int (((k4.toUInt32 >>> ((2 : Int32) &&& 31).toUInt32).toInt32) &&& (3 : Int32))), .val .null, .val (.int (0 : Int32))] [(.int (0 : Int32))])) _
            refine XS.iload X202.here hx rfl (hb hby at_138) rfl ?_
            show Steps p.tables e below (T202.setTop (mkF m 140 #[.val (.int k0), .val (.int k1), .val (.int k2), .val (.int k3), .val (.int k4), .val (.ref b57), .val (.int k0), .val (.int k1), .val (.ref b185), .val (.int (((k4.toUInt32 >>> ((2 : Int32) &&& 31).toUInt32).toInt32) &&& (3 : Int32))), .val .null, .val (.int (0 : Int32))] [(.int (0 : Int32)), (.int (0 : Int32))])) _
            refine XS.icmpNo X202.here hx rfl (hb hby at_140) rfl (teq (rfl : (0 : Int32) = (0 : Int32))).2 ?_
            show Steps p.tables e below (T202.setTop (mkF m 143 #[.val (.int k0), .val (.int k1), .val (.int k2), .val (.int k3), .val (.int k4), .val (.ref b57), .val (.int k0), .val (.int k1), .val (.ref b185), .val (.int (((k4.toUInt32 >>> ((2 : Int32) &&& 31).toUInt32).toInt32) &&& (3 : Int32))), .val .null, .val (.int (0 : Int32))] [])) _
            refine XS.iconst X202.here hx rfl (hb hby at_143) ?_
            show Steps p.tables e below (T202.setTop (mkF m 144 #[.val (.int k0), .val (.int k1), .val (.int k2), .val (.int k3), .val (.int k4), .val (.ref b57), .val (.int k0), .val (.int k1), .val (.ref b185), .val (.int (((k4.toUInt32 >>> ((2 : Int32) &&& 31).toUInt32).toInt32) &&& (3 : Int32))), .val .null, .val (.int (0 : Int32))] [(.int (1 : Int32))])) _
            refine XS.goto X202.here hx rfl (pc0 := 144) (pc' := 148) rfl (hb hby at_144) (by decide) (by decide) ?_
            show Steps p.tables e below (T202.setTop (mkF m 148 #[.val (.int k0), .val (.int k1), .val (.int k2), .val (.int k3), .val (.int k4), .val (.ref b57), .val (.int k0), .val (.int k1), .val (.ref b185), .val (.int (((k4.toUInt32 >>> ((2 : Int32) &&& 31).toUInt32).toInt32) &&& (3 : Int32))), .val .null, .val (.int (0 : Int32))] [(.int (1 : Int32))])) _
            exact k_)
          obtain ⟨fs, hr, hrun, hended, hW, hsame⟩ := X202.leave (v := some (.int (1 : Int32))) (fun h => by rw [Bd.returns] at h; cases h)
          refine ⟨_, _, pre203 _ ?_, hrun, hended, _, _, rfl, ?_, ⟨_, rfl⟩, hW, hsame.mono (by decide) (by decide)⟩
          · show Steps p.tables e below (T202.setTop (mkF m 148 #[.val (.int k0), .val (.int k1), .val (.int k2), .val (.int k3), .val (.int k4), .val (.ref b57), .val (.int k0), .val (.int k1), .val (.ref b185), .val (.int (((k4.toUInt32 >>> ((2 : Int32) &&& 31).toUInt32).toInt32) &&& (3 : Int32))), .val .null, .val (.int (0 : Int32))] [(.int (1 : Int32))])) _
            exact retN X202 hx (t := .boolean) Bd.returns (by simp) (hb hby at_148) hr
          · show Q_0 Z k0 k1 k2 k3 k4 w_cache cl_cache bx h0 n0 _ T202.heap _
            rw [e202]
            exact ⟨rfl, N202⟩
        · have pre204 : ∀ t_, Steps p.tables e below (T190.setTop (mkF m 109 #[.val (.int k0), .val (.int k1), .val (.int k2), .val (.int k3), .val (.int k4), .val (.ref b57), .val (.int k0), .val (.int k1), .val (.ref b185), .val (.int (((k4.toUInt32 >>> ((2 : Int32) &&& 31).toUInt32).toInt32) &&& (3 : Int32))), .unset, .unset] [(.int (2 : Int32)), (.int (((k4.toUInt32 >>> ((2 : Int32) &&& 31).toUInt32).toInt32) &&& (3 : Int32)))])) t_ → Steps p.tables e below (s₁.setTop (entryFrame m #[(.int k0), (.int k1), (.int k2), (.int k3), (.int k4)] maxLocals)) t_ := fun t_ k_ => pre200 t_ (by
            show Steps p.tables e below (T190.setTop (mkF m 94 #[.val (.int k0), .val (.int k1), .val (.int k2), .val (.int k3), .val (.int k4), .val (.ref b57), .val (.int k0), .val (.int k1), .val (.ref b185), .val (.int (((k4.toUInt32 >>> ((2 : Int32) &&& 31).toUInt32).toInt32) &&& (3 : Int32))), .unset, .unset] [(.int (1 : Int32)), (.int (((k4.toUInt32 >>> ((2 : Int32) &&& 31).toUInt32).toInt32) &&& (3 : Int32)))])) _
            refine XS.icmpYes X190.here hx rfl (pc0 := 94) (pc' := 106) rfl (hb hby at_94) rfl (feq hc94_201).2 (by decide) (by decide) ?_
            show Steps p.tables e below (T190.setTop (mkF m 106 #[.val (.int k0), .val (.int k1), .val (.int k2), .val (.int k3), .val (.int k4), .val (.ref b57), .val (.int k0), .val (.int k1), .val (.ref b185), .val (.int (((k4.toUInt32 >>> ((2 : Int32) &&& 31).toUInt32).toInt32) &&& (3 : Int32))), .unset, .unset] [])) _
            refine XS.iload X190.here hx rfl (hb hby at_106) rfl ?_
            show Steps p.tables e below (T190.setTop (mkF m 108 #[.val (.int k0), .val (.int k1), .val (.int k2), .val (.int k3), .val (.int k4), .val (.ref b57), .val (.int k0), .val (.int k1), .val (.ref b185), .val (.int (((k4.toUInt32 >>> ((2 : Int32) &&& 31).toUInt32).toInt32) &&& (3 : Int32))), .unset, .unset] [(.int (((k4.toUInt32 >>> ((2 : Int32) &&& 31).toUInt32).toInt32) &&& (3 : Int32)))])) _
            refine XS.iconst X190.here hx rfl (hb hby at_108) ?_
            show Steps p.tables e below (T190.setTop (mkF m 109 #[.val (.int k0), .val (.int k1), .val (.int k2), .val (.int k3), .val (.int k4), .val (.ref b57), .val (.int k0), .val (.int k1), .val (.ref b185), .val (.int (((k4.toUInt32 >>> ((2 : Int32) &&& 31).toUInt32).toInt32) &&& (3 : Int32))), .unset, .unset] [(.int (2 : Int32)), (.int (((k4.toUInt32 >>> ((2 : Int32) &&& 31).toUInt32).toInt32) &&& (3 : Int32)))])) _
            exact k_)
          by_cases hc109_205 : (((k4.toUInt32 >>> ((2 : Int32) &&& 31).toUInt32).toInt32) &&& (3 : Int32)) = (2 : Int32)
          · obtain ⟨v206, _, ⟨T206, L206, k206, n206⟩, -, X206, ⟨Lc206, hQ206, l206, y206, z206⟩, st206⟩ := Jvm.LawKit.callS X190 hx (y := (⟨"java/lang/Integer", "valueOf", "(I)Ljava/lang/Integer;"⟩ : MethodName)) hown (mvT hZ (hw _ (List.mem_of_getElem? (i := 20) rfl))) (mvT hZ (hw _ (List.mem_of_getElem? (i := 21) rfl))) (mvT hZ (hw _ (List.mem_of_getElem? (i := 22) rfl))) (mvT hZ (hw _ (List.mem_of_getElem? (i := 23) rfl))) (by decide) (backOf (W := 0) (rm_valueOf l Z a0 hw [] k0 w_cache cl_cache bx T190.heap n0 Zs191 (S_high.ext O191) (S_cache.ext O191) Bx (own_ext_trans Oz O191)) hZ (hw _ (List.mem_of_getElem? (i := 23) rfl)) (hw _ (List.mem_of_getElem? (i := 22) rfl)) (by decide) (by decide)) (g := (mkF m 113 #[.val (.int k0), .val (.int k1), .val (.int k2), .val (.int k3), .val (.int k4), .val (.ref b57), .val (.int k0), .val (.int k1), .val (.ref b185), .val (.int (((k4.toUInt32 >>> ((2 : Int32) &&& 31).toUInt32).toInt32) &&& (3 : Int32))), .unset, .unset] [(.int k0)])) rfl (by rw [hml]; rfl) (argsL := [(.int k0)]) (rest := []) (lenOf pd_4 rfl) rfl (by show 2 * 0 + _ ≤ _; exact Nat.le_of_eq rfl) (hb hby at_113) (fun _ _ => ⟨rfl, rfl, (by decide : 2 + 1 ≤ _), (by decide : 4 + 1 ≤ _)⟩)
            dsimp only [Pt.U, Pt.locs, Pt.cells, Pt.slots] at X206 l206 y206 z206 st206 hQ206
            subst l206 y206 z206
            obtain ⟨⟨r206, hv206, Er206⟩, N206q, M206⟩ := hQ206
            have N206 := Fr.app N190 N206q
            subst hv206
            have O207 := own_ext_trans O191 M206
            have Zs207 := Nat.le_trans Zs191 (M206).1
            have c208 : Exa Z T206.heap b57 "com/example/fissure/fissure/games/breakable/Hex" := c192.ext M206
            have c209 : Fld Z T206.heap b57 "com/example/fissure/fissure/games/breakable/Hex" "column" "I" (.int k0) := c193.ext M206
            have c210 : Fld Z T206.heap b57 "com/example/fissure/fissure/games/breakable/Hex" "row" "I" (.int k1) := c194.ext M206
            have c211 : Exa Z T206.heap b185 "com/example/fissure/fissure/games/breakable/Hex" := E190x.ext M206
            have c212 : Fld Z T206.heap b185 "com/example/fissure/fissure/games/breakable/Hex" "column" "I" (.int k0) := F190_column.ext M206
            have c213 : Fld Z T206.heap b185 "com/example/fissure/fissure/games/breakable/Hex" "row" "I" (.int k1) := F190_row.ext M206
            obtain ⟨cq214, kq214, q214a, q214b, q214c⟩ := isOf hZ rfl c208
            obtain ⟨v214, _, ⟨T214, L214, k214, n214⟩, -, X214, ⟨Lc214, hQ214, l214, y214, z214⟩, st214⟩ := X206.virtualBack hx (y := (⟨"com/example/fissure/fissure/games/breakable/Hex", "equals", "(Ljava/lang/Object;)Z"⟩ : MethodName)) (z := (⟨"com/example/fissure/fissure/games/breakable/Hex", "equals", "(Ljava/lang/Object;)Z"⟩ : MethodName)) hown (mvT hZ (hw _ (List.mem_of_getElem? (i := 13) rfl))) (mvT hZ (hw _ (List.mem_of_getElem? (i := 14) rfl))) (notFace_of_selects (args := #[]) (mvT hZ (hw _ (List.mem_of_getElem? (i := 16) rfl)))) (mvT hZ (hw _ (List.mem_of_getElem? (i := 16) rfl))) (mvT hZ (hw _ (List.mem_of_getElem? (i := 15) rfl))) (by decide) (backOf (W := 0) (rm_eqI l Z a0 hw [] b57 r206 T206.heap n0 Zs207 Er206) hZ (hw _ (List.mem_of_getElem? (i := 17) rfl)) (hw _ (List.mem_of_getElem? (i := 2) rfl)) (by decide) (by decide)) q214a q214c (g := (mkF m 135 #[.val (.int k0), .val (.int k1), .val (.int k2), .val (.int k3), .val (.int k4), .val (.ref b57), .val (.int k0), .val (.int k1), .val (.ref b185), .val (.int (((k4.toUInt32 >>> ((2 : Int32) &&& 31).toUInt32).toInt32) &&& (3 : Int32))), .val (.ref r206), .val (.int (0 : Int32))] [(.ref r206), (.ref b57)])) rfl (by rw [hml]; rfl) (Steps.refl _) (argsL := [(.ref r206)]) (rest := []) (lenOf pd_3 rfl) rfl (by show 2 * 0 + _ ≤ _; exact Nat.le_of_eq rfl) (hb hby at_135) (fun _ _ => ⟨rfl, rfl, (by decide : 3 + 0 ≤ _), (by decide : 5 + 0 ≤ _)⟩)
            dsimp only [Pt.U, Pt.locs, Pt.cells, Pt.slots] at X214 l214 y214 z214 st214 hQ214
            subst l214 y214 z214
            obtain ⟨hv214, N214q, e214⟩ := hQ214
            have N214 := Fr.app N206 N214q
            subst hv214
            have pre215 : ∀ t_, Steps p.tables e below (T214.setTop (mkF m 148 #[.val (.int k0), .val (.int k1), .val (.int k2), .val (.int k3), .val (.int k4), .val (.ref b57), .val (.int k0), .val (.int k1), .val (.ref b185), .val (.int (((k4.toUInt32 >>> ((2 : Int32) &&& 31).toUInt32).toInt32) &&& (3 : Int32))), .val (.ref r206), .val (.int (0 : Int32))] [(.int (1 : Int32))])) t_ → Steps p.tables e below (s₁.setTop (entryFrame m #[(.int k0), (.int k1), (.int k2), (.int k3), (.int k4)] maxLocals)) t_ := fun t_ k_ => pre204 t_ (by
              show Steps p.tables e below (T190.setTop (mkF m 109 #[.val (.int k0), .val (.int k1), .val (.int k2), .val (.int k3), .val (.int k4), .val (.ref b57), .val (.int k0), .val (.int k1), .val (.ref b185), .val (.int (((k4.toUInt32 >>> ((2 : Int32) &&& 31).toUInt32).toInt32) &&& (3 : Int32))), .unset, .unset] [(.int (2 : Int32)), (.int (((k4.toUInt32 >>> ((2 : Int32) &&& 31).toUInt32).toInt32) &&& (3 : Int32)))])) _
              refine XS.icmpNo X190.here hx rfl (hb hby at_109) rfl (teq hc109_205).2 ?_
              show Steps p.tables e below (T190.setTop (mkF m 112 #[.val (.int k0), .val (.int k1), .val (.int k2), .val (.int k3), .val (.int k4), .val (.ref b57), .val (.int k0), .val (.int k1), .val (.ref b185), .val (.int (((k4.toUInt32 >>> ((2 : Int32) &&& 31).toUInt32).toInt32) &&& (3 : Int32))), .unset, .unset] [])) _
              refine XS.iloadN X190.here hx rfl (hb hby at_112) rfl ?_
              show Steps p.tables e below (T190.setTop (mkF m 113 #[.val (.int k0), .val (.int k1), .val (.int k2), .val (.int k3), .val (.int k4), .val (.ref b57), .val (.int k0), .val (.int k1), .val (.ref b185), .val (.int (((k4.toUInt32 >>> ((2 : Int32) &&& 31).toUInt32).toInt32) &&& (3 : Int32))), .unset, .unset] [(.int k0)])) _
              refine st206 _ ?_
              show Steps p.tables e below (T206.setTop (mkF m 116 #[.val (.int k0), .val (.int k1), .val (.int k2), .val (.int k3), .val (.int k4), .val (.ref b57), .val (.int k0), .val (.int k1), .val (.ref b185), .val (.int (((k4.toUInt32 >>> ((2 : Int32) &&& 31).toUInt32).toInt32) &&& (3 : Int32))), .unset, .unset] [(.ref r206)])) _
              refine XS.astore X206.here hx rfl (hb hby at_116) rfl rfl (l' := #[.val (.int k0), .val (.int k1), .val (.int k2), .val (.int k3), .val (.int k4), .val (.ref b57), .val (.int k0), .val (.int k1), .val (.ref b185), .val (.int (((k4.toUInt32 >>> ((2 : Int32) &&& 31).toUInt32).toInt32) &&& (3 : Int32))), .val (.ref r206), .unset]) rfl ?_
              show Steps p.tables e below (T206.setTop (mkF m 118 #[.val (.int k0), .val (.int k1), .val (.int k2), .val (.int k3), .val (.int k4), .val (.ref b57), .val (.int k0), .val (.int k1), .val (.ref b185), .val (.int (((k4.toUInt32 >>> ((2 : Int32) &&& 31).toUInt32).toInt32) &&& (3 : Int32))), .val (.ref r206), .unset] [])) _
              refine XS.iconst X206.here hx rfl (hb hby at_118) ?_
              show Steps p.tables e below (T206.setTop (mkF m 119 #[.val (.int k0), .val (.int k1), .val (.int k2), .val (.int k3), .val (.int k4), .val (.ref b57), .val (.int k0), .val (.int k1), .val (.ref b185), .val (.int (((k4.toUInt32 >>> ((2 : Int32) &&& 31).toUInt32).toInt32) &&& (3 : Int32))), .val (.ref r206), .unset] [(.int (0 : Int32))])) _
              refine XS.istore X206.here hx rfl (hb hby at_119) rfl (l' := #[.val (.int k0), .val (.int k1), .val (.int k2), .val (.int k3), .val (.int k4), .val (.ref b57), .val (.int k0), .val (.int k1), .val (.ref b185), .val (.int (((k4.toUInt32 >>> ((2 : Int32) &&& 31).toUInt32).toInt32) &&& (3 : Int32))), .val (.ref r206), .val (.int (0 : Int32))]) rfl ?_
              show Steps p.tables e below (T206.setTop (mkF m 121 #[.val (.int k0), .val (.int k1), .val (.int k2), .val (.int k3), .val (.int k4), .val (.ref b57), .val (.int k0), .val (.int k1), .val (.ref b185), .val (.int (((k4.toUInt32 >>> ((2 : Int32) &&& 31).toUInt32).toInt32) &&& (3 : Int32))), .val (.ref r206), .val (.int (0 : Int32))] [])) _
              refine XS.goto X206.here hx rfl (pc0 := 121) (pc' := 131) rfl (hb hby at_121) (by decide) (by decide) ?_
              show Steps p.tables e below (T206.setTop (mkF m 131 #[.val (.int k0), .val (.int k1), .val (.int k2), .val (.int k3), .val (.int k4), .val (.ref b57), .val (.int k0), .val (.int k1), .val (.ref b185), .val (.int (((k4.toUInt32 >>> ((2 : Int32) &&& 31).toUInt32).toInt32) &&& (3 : Int32))), .val (.ref r206), .val (.int (0 : Int32))] [])) _
              refine XS.aload X206.here hx rfl (hb hby at_131) rfl rfl ?_
              show Steps p.tables e below (T206.setTop (mkF m 133 #[.val (.int k0), .val (.int k1), .val (.int k2), .val (.int k3), .val (.int k4), .val (.ref b57), .val (.int k0), .val (.int k1), .val (.ref b185), .val (.int (((k4.toUInt32 >>> ((2 : Int32) &&& 31).toUInt32).toInt32) &&& (3 : Int32))), .val (.ref r206), .val (.int (0 : Int32))] [(.ref b57)])) _
              refine XS.aload X206.here hx rfl (hb hby at_133) rfl rfl ?_
              show Steps p.tables e below (T206.setTop (mkF m 135 #[.val (.int k0), .val (.int k1), .val (.int k2), .val (.int k3), .val (.int k4), .val (.ref b57), .val (.int k0), .val (.int k1), .val (.ref b185), .val (.int (((k4.toUInt32 >>> ((2 : Int32) &&& 31).toUInt32).toInt32) &&& (3 : Int32))), .val (.ref r206), .val (.int (0 : Int32))] [(.ref r206), (.ref b57)])) _
              refine st214.trans ?_
              show Steps p.tables e below (T214.setTop (mkF m 138 #[.val (.int k0), .val (.int k1), .val (.int k2), .val (.int k3), .val (.int k4), .val (.ref b57), .val (.int k0), .val (.int k1), .val (.ref b185), .val (.int (((k4.toUInt32 >>> ((2 : Int32) &&& 31).toUInt32).toInt32) &&& (3 : Int32))), .val (.ref r206), .val (.int (0 : Int32))] [(.int (0 : Int32))])) _
              refine XS.iload X214.here hx rfl (hb hby at_138) rfl ?_
              show Steps p.tables e below (T214.setTop (mkF m 140 #[.val (.int k0), .val (.int k1), .val (.int k2), .val (.int k3), .val (.int k4), .val (.ref b57), .val (.int k0), .val (.int k1), .val (.ref b185), .val (.int (((k4.toUInt32 >>> ((2 : Int32) &&& 31).toUInt32).toInt32) &&& (3 : Int32))), .val (.ref r206), .val (.int (0 : Int32))] [(.int (0 : Int32)), (.int (0 : Int32))])) _
              refine XS.icmpNo X214.here hx rfl (hb hby at_140) rfl (teq (rfl : (0 : Int32) = (0 : Int32))).2 ?_
              show Steps p.tables e below (T214.setTop (mkF m 143 #[.val (.int k0), .val (.int k1), .val (.int k2), .val (.int k3), .val (.int k4), .val (.ref b57), .val (.int k0), .val (.int k1), .val (.ref b185), .val (.int (((k4.toUInt32 >>> ((2 : Int32) &&& 31).toUInt32).toInt32) &&& (3 : Int32))), .val (.ref r206), .val (.int (0 : Int32))] [])) _
              refine XS.iconst X214.here hx rfl (hb hby at_143) ?_
              show Steps p.tables e below (T214.setTop (mkF m 144 #[.val (.int k0), .val (.int k1), .val (.int k2), .val (.int k3), .val (.int k4), .val (.ref b57), .val (.int k0), .val (.int k1), .val (.ref b185), .val (.int (((k4.toUInt32 >>> ((2 : Int32) &&& 31).toUInt32).toInt32) &&& (3 : Int32))), .val (.ref r206), .val (.int (0 : Int32))] [(.int (1 : Int32))])) _
              refine XS.goto X214.here hx rfl (pc0 := 144) (pc' := 148) rfl (hb hby at_144) (by decide) (by decide) ?_
              show Steps p.tables e below (T214.setTop (mkF m 148 #[.val (.int k0), .val (.int k1), .val (.int k2), .val (.int k3), .val (.int k4), .val (.ref b57), .val (.int k0), .val (.int k1), .val (.ref b185), .val (.int (((k4.toUInt32 >>> ((2 : Int32) &&& 31).toUInt32).toInt32) &&& (3 : Int32))), .val (.ref r206), .val (.int (0 : Int32))] [(.int (1 : Int32))])) _
              exact k_)
            obtain ⟨fs, hr, hrun, hended, hW, hsame⟩ := X214.leave (v := some (.int (1 : Int32))) (fun h => by rw [Bd.returns] at h; cases h)
            refine ⟨_, _, pre215 _ ?_, hrun, hended, _, _, rfl, ?_, ⟨_, rfl⟩, hW, hsame.mono (by decide) (by decide)⟩
            · show Steps p.tables e below (T214.setTop (mkF m 148 #[.val (.int k0), .val (.int k1), .val (.int k2), .val (.int k3), .val (.int k4), .val (.ref b57), .val (.int k0), .val (.int k1), .val (.ref b185), .val (.int (((k4.toUInt32 >>> ((2 : Int32) &&& 31).toUInt32).toInt32) &&& (3 : Int32))), .val (.ref r206), .val (.int (0 : Int32))] [(.int (1 : Int32))])) _
              exact retN X214 hx (t := .boolean) Bd.returns (by simp) (hb hby at_148) hr
            · show Q_0 Z k0 k1 k2 k3 k4 w_cache cl_cache bx h0 n0 _ T214.heap _
              rw [e214]
              exact ⟨rfl, N214⟩
          · obtain ⟨cq216, kq216, q216a, q216b, q216c⟩ := isOf hZ rfl c192
            obtain ⟨v216, _, ⟨T216, L216, k216, n216⟩, -, X216, ⟨Lc216, hQ216, l216, y216, z216⟩, st216⟩ := X190.virtualBack hx (y := (⟨"com/example/fissure/fissure/games/breakable/Hex", "equals", "(Ljava/lang/Object;)Z"⟩ : MethodName)) (z := (⟨"com/example/fissure/fissure/games/breakable/Hex", "equals", "(Ljava/lang/Object;)Z"⟩ : MethodName)) hown (mvT hZ (hw _ (List.mem_of_getElem? (i := 13) rfl))) (mvT hZ (hw _ (List.mem_of_getElem? (i := 14) rfl))) (notFace_of_selects (args := #[]) (mvT hZ (hw _ (List.mem_of_getElem? (i := 16) rfl)))) (mvT hZ (hw _ (List.mem_of_getElem? (i := 16) rfl))) (mvT hZ (hw _ (List.mem_of_getElem? (i := 15) rfl))) (by decide) (backOf (W := 0) (rm_eqC l Z a0 hw [] b57 b57 k0 k1 k0 k1 T190.heap n0 Zs191 c192 c193 c194 c193 c194) hZ (hw _ (List.mem_of_getElem? (i := 17) rfl)) (hw _ (List.mem_of_getElem? (i := 2) rfl)) (by decide) (by decide)) q216a q216c (g := (mkF m 135 #[.val (.int k0), .val (.int k1), .val (.int k2), .val (.int k3), .val (.int k4), .val (.ref b57), .val (.int k0), .val (.int k1), .val (.ref b185), .val (.int (((k4.toUInt32 >>> ((2 : Int32) &&& 31).toUInt32).toInt32) &&& (3 : Int32))), .val (.ref b57), .val (.int (1 : Int32))] [(.ref b57), (.ref b57)])) rfl (by rw [hml]; rfl) (Steps.refl _) (argsL := [(.ref b57)]) (rest := []) (lenOf pd_3 rfl) rfl (by show 2 * 0 + _ ≤ _; exact Nat.le_of_eq rfl) (hb hby at_135) (fun _ _ => ⟨rfl, rfl, (by decide : 2 + 0 ≤ _), (by decide : 4 + 0 ≤ _)⟩)
            dsimp only [Pt.U, Pt.locs, Pt.cells, Pt.slots] at X216 l216 y216 z216 st216 hQ216
            subst l216 y216 z216
            obtain ⟨hv216, N216q, e216⟩ := hQ216
            have N216 := Fr.app N190 N216q
            have hw216 : v216 = some (.int (1 : Int32)) := hv216.trans (congrArg (fun z => some (Value.int z)) (own_self _ _))
            subst hw216
            have pre217 : ∀ t_, Steps p.tables e below (T216.setTop (mkF m 148 #[.val (.int k0), .val (.int k1), .val (.int k2), .val (.int k3), .val (.int k4), .val (.ref b57), .val (.int k0), .val (.int k1), .val (.ref b185), .val (.int (((k4.toUInt32 >>> ((2 : Int32) &&& 31).toUInt32).toInt32) &&& (3 : Int32))), .val (.ref b57), .val (.int (1 : Int32))] [(.int (1 : Int32))])) t_ → Steps p.tables e below (s₁.setTop (entryFrame m #[(.int k0), (.int k1), (.int k2), (.int k3), (.int k4)] maxLocals)) t_ := fun t_ k_ => pre204 t_ (by
              show Steps p.tables e below (T190.setTop (mkF m 109 #[.val (.int k0), .val (.int k1), .val (.int k2), .val (.int k3), .val (.int k4), .val (.ref b57), .val (.int k0), .val (.int k1), .val (.ref b185), .val (.int (((k4.toUInt32 >>> ((2 : Int32) &&& 31).toUInt32).toInt32) &&& (3 : Int32))), .unset, .unset] [(.int (2 : Int32)), (.int (((k4.toUInt32 >>> ((2 : Int32) &&& 31).toUInt32).toInt32) &&& (3 : Int32)))])) _
              refine XS.icmpYes X190.here hx rfl (pc0 := 109) (pc' := 124) rfl (hb hby at_109) rfl (feq hc109_205).2 (by decide) (by decide) ?_
              show Steps p.tables e below (T190.setTop (mkF m 124 #[.val (.int k0), .val (.int k1), .val (.int k2), .val (.int k3), .val (.int k4), .val (.ref b57), .val (.int k0), .val (.int k1), .val (.ref b185), .val (.int (((k4.toUInt32 >>> ((2 : Int32) &&& 31).toUInt32).toInt32) &&& (3 : Int32))), .unset, .unset] [])) _
              refine XS.aload X190.here hx rfl (hb hby at_124) rfl rfl ?_
              show Steps p.tables e below (T190.setTop (mkF m 126 #[.val (.int k0), .val (.int k1), .val (.int k2), .val (.int k3), .val (.int k4), .val (.ref b57), .val (.int k0), .val (.int k1), .val (.ref b185), .val (.int (((k4.toUInt32 >>> ((2 : Int32) &&& 31).toUInt32).toInt32) &&& (3 : Int32))), .unset, .unset] [(.ref b57)])) _
              refine XS.astore X190.here hx rfl (hb hby at_126) rfl rfl (l' := #[.val (.int k0), .val (.int k1), .val (.int k2), .val (.int k3), .val (.int k4), .val (.ref b57), .val (.int k0), .val (.int k1), .val (.ref b185), .val (.int (((k4.toUInt32 >>> ((2 : Int32) &&& 31).toUInt32).toInt32) &&& (3 : Int32))), .val (.ref b57), .unset]) rfl ?_
              show Steps p.tables e below (T190.setTop (mkF m 128 #[.val (.int k0), .val (.int k1), .val (.int k2), .val (.int k3), .val (.int k4), .val (.ref b57), .val (.int k0), .val (.int k1), .val (.ref b185), .val (.int (((k4.toUInt32 >>> ((2 : Int32) &&& 31).toUInt32).toInt32) &&& (3 : Int32))), .val (.ref b57), .unset] [])) _
              refine XS.iconst X190.here hx rfl (hb hby at_128) ?_
              show Steps p.tables e below (T190.setTop (mkF m 129 #[.val (.int k0), .val (.int k1), .val (.int k2), .val (.int k3), .val (.int k4), .val (.ref b57), .val (.int k0), .val (.int k1), .val (.ref b185), .val (.int (((k4.toUInt32 >>> ((2 : Int32) &&& 31).toUInt32).toInt32) &&& (3 : Int32))), .val (.ref b57), .unset] [(.int (1 : Int32))])) _
              refine XS.istore X190.here hx rfl (hb hby at_129) rfl (l' := #[.val (.int k0), .val (.int k1), .val (.int k2), .val (.int k3), .val (.int k4), .val (.ref b57), .val (.int k0), .val (.int k1), .val (.ref b185), .val (.int (((k4.toUInt32 >>> ((2 : Int32) &&& 31).toUInt32).toInt32) &&& (3 : Int32))), .val (.ref b57), .val (.int (1 : Int32))]) rfl ?_
              show Steps p.tables e below (T190.setTop (mkF m 131 #[.val (.int k0), .val (.int k1), .val (.int k2), .val (.int k3), .val (.int k4), .val (.ref b57), .val (.int k0), .val (.int k1), .val (.ref b185), .val (.int (((k4.toUInt32 >>> ((2 : Int32) &&& 31).toUInt32).toInt32) &&& (3 : Int32))), .val (.ref b57), .val (.int (1 : Int32))] [])) _
              refine XS.aload X190.here hx rfl (hb hby at_131) rfl rfl ?_
              show Steps p.tables e below (T190.setTop (mkF m 133 #[.val (.int k0), .val (.int k1), .val (.int k2), .val (.int k3), .val (.int k4), .val (.ref b57), .val (.int k0), .val (.int k1), .val (.ref b185), .val (.int (((k4.toUInt32 >>> ((2 : Int32) &&& 31).toUInt32).toInt32) &&& (3 : Int32))), .val (.ref b57), .val (.int (1 : Int32))] [(.ref b57)])) _
              refine XS.aload X190.here hx rfl (hb hby at_133) rfl rfl ?_
              show Steps p.tables e below (T190.setTop (mkF m 135 #[.val (.int k0), .val (.int k1), .val (.int k2), .val (.int k3), .val (.int k4), .val (.ref b57), .val (.int k0), .val (.int k1), .val (.ref b185), .val (.int (((k4.toUInt32 >>> ((2 : Int32) &&& 31).toUInt32).toInt32) &&& (3 : Int32))), .val (.ref b57), .val (.int (1 : Int32))] [(.ref b57), (.ref b57)])) _
              refine st216.trans ?_
              show Steps p.tables e below (T216.setTop (mkF m 138 #[.val (.int k0), .val (.int k1), .val (.int k2), .val (.int k3), .val (.int k4), .val (.ref b57), .val (.int k0), .val (.int k1), .val (.ref b185), .val (.int (((k4.toUInt32 >>> ((2 : Int32) &&& 31).toUInt32).toInt32) &&& (3 : Int32))), .val (.ref b57), .val (.int (1 : Int32))] [(.int (1 : Int32))])) _
              refine XS.iload X216.here hx rfl (hb hby at_138) rfl ?_
              show Steps p.tables e below (T216.setTop (mkF m 140 #[.val (.int k0), .val (.int k1), .val (.int k2), .val (.int k3), .val (.int k4), .val (.ref b57), .val (.int k0), .val (.int k1), .val (.ref b185), .val (.int (((k4.toUInt32 >>> ((2 : Int32) &&& 31).toUInt32).toInt32) &&& (3 : Int32))), .val (.ref b57), .val (.int (1 : Int32))] [(.int (1 : Int32)), (.int (1 : Int32))])) _
              refine XS.icmpNo X216.here hx rfl (hb hby at_140) rfl (teq (rfl : (1 : Int32) = (1 : Int32))).2 ?_
              show Steps p.tables e below (T216.setTop (mkF m 143 #[.val (.int k0), .val (.int k1), .val (.int k2), .val (.int k3), .val (.int k4), .val (.ref b57), .val (.int k0), .val (.int k1), .val (.ref b185), .val (.int (((k4.toUInt32 >>> ((2 : Int32) &&& 31).toUInt32).toInt32) &&& (3 : Int32))), .val (.ref b57), .val (.int (1 : Int32))] [])) _
              refine XS.iconst X216.here hx rfl (hb hby at_143) ?_
              show Steps p.tables e below (T216.setTop (mkF m 144 #[.val (.int k0), .val (.int k1), .val (.int k2), .val (.int k3), .val (.int k4), .val (.ref b57), .val (.int k0), .val (.int k1), .val (.ref b185), .val (.int (((k4.toUInt32 >>> ((2 : Int32) &&& 31).toUInt32).toInt32) &&& (3 : Int32))), .val (.ref b57), .val (.int (1 : Int32))] [(.int (1 : Int32))])) _
              refine XS.goto X216.here hx rfl (pc0 := 144) (pc' := 148) rfl (hb hby at_144) (by decide) (by decide) ?_
              show Steps p.tables e below (T216.setTop (mkF m 148 #[.val (.int k0), .val (.int k1), .val (.int k2), .val (.int k3), .val (.int k4), .val (.ref b57), .val (.int k0), .val (.int k1), .val (.ref b185), .val (.int (((k4.toUInt32 >>> ((2 : Int32) &&& 31).toUInt32).toInt32) &&& (3 : Int32))), .val (.ref b57), .val (.int (1 : Int32))] [(.int (1 : Int32))])) _
              exact k_)
            obtain ⟨fs, hr, hrun, hended, hW, hsame⟩ := X216.leave (v := some (.int (1 : Int32))) (fun h => by rw [Bd.returns] at h; cases h)
            refine ⟨_, _, pre217 _ ?_, hrun, hended, _, _, rfl, ?_, ⟨_, rfl⟩, hW, hsame.mono (by decide) (by decide)⟩
            · show Steps p.tables e below (T216.setTop (mkF m 148 #[.val (.int k0), .val (.int k1), .val (.int k2), .val (.int k3), .val (.int k4), .val (.ref b57), .val (.int k0), .val (.int k1), .val (.ref b185), .val (.int (((k4.toUInt32 >>> ((2 : Int32) &&& 31).toUInt32).toInt32) &&& (3 : Int32))), .val (.ref b57), .val (.int (1 : Int32))] [(.int (1 : Int32))])) _
              exact retN X216 hx (t := .boolean) Bd.returns (by simp) (hb hby at_148) hr
            · show Q_0 Z k0 k1 k2 k3 k4 w_cache cl_cache bx h0 n0 _ T216.heap _
              rw [e216]
              exact ⟨rfl, N216⟩
set_option maxRecDepth 65536 in
set_option maxHeartbeats 40000000 in
theorem comes_1 {Post : Tables → Env → Array Value → State → Outcome → State → Prop} (hpost : ∀ tb e args s v u, (limb_1_1.after args s (.returned v) u = true ∧ limb_1_2.after args s (.returned v) u = true ∧ True) → FrameEnd s (.returned v) u (Jvm.fieldLocs frame_1_writes args s ++ Jvm.arrayLocs frame_1_arrays args s ++ Jvm.staticLocs frame_1_statics s) 16 128 → Post tb e args s (.returned v) u) :
    ArmFor flags0 classFile x code maxLocals ret World_1 tables_1 room_1 Calls_1 rest_1 Pre_1 Post := by
  intro l hfl _ _ p e ha hc hk s m args below hf hA hF happ hP
  obtain ⟨hcalls, hrest, hpre⟩ := hP
  obtain ⟨-, -, -, hnamed, -, -, -, hat⟩ := (Spec.applies_iff hf).mp happ
  obtain ⟨hg, hn⟩ := and_e (Cond.before_iff.mp (show (Jvm.Cond.and given_1 narrow_1).before args s = true from hpre))
  obtain ⟨hcount, hg0⟩ := and_e hg
  obtain ⟨hi0, hg1⟩ := and_e hg0
  obtain ⟨hi1, hg2⟩ := and_e hg1
  obtain ⟨hi2, hg3⟩ := and_e hg2
  obtain ⟨hi3, hg4⟩ := and_e hg3
  obtain ⟨w0, w1, w2, w3, w4, rfl⟩ : ∃ w0 w1 w2 w3 w4 : Value, args = #[w0, w1, w2, w3, w4] := by
    have hs : args.size = 5 := by simpa [Cond.value, given_1] using hcount
    obtain ⟨L⟩ := args
    match L, hs with
    | [w0, w1, w2, w3, w4], _ => exact ⟨w0, w1, w2, w3, w4, rfl⟩
  have hw := fun d (hd : d ∈ tables_1) => atoms_spec (ws := Jvm.Cond.code x code maxLocals ret :: tables_1) hat d (List.mem_cons_of_mem _ hd)
  have hfit : Fit s := fun {y c} hc i hi => by
    obtain ⟨ha, rfl⟩ := Array.getElem?_eq_some_iff.mp hc
    have q := List.all_eq_true.mp ((Array.all_eq_true_iff_forall_mem.mp hF) _ (Array.getElem_mem ha)) i (List.mem_range.mpr hi)
    simpa [Array.getElem?_eq_getElem hi] using q
  obtain ⟨i0, ei0⟩ := is_v hi0
  obtain rfl : w0 = (.int i0) := Option.some.inj ei0
  obtain ⟨i1, ei1⟩ := is_v hi1
  obtain rfl : w1 = (.int i1) := Option.some.inj ei1
  obtain ⟨i2, ei2⟩ := is_v hi2
  obtain rfl : w2 = (.int i2) := Option.some.inj ei2
  obtain ⟨i3, ei3⟩ := is_v hi3
  obtain rfl : w3 = (.int i3) := Option.some.inj ei3
  obtain ⟨i4, ei4⟩ := is_v hg4
  obtain rfl : w4 = (.int i4) := Option.some.inj ei4
  obtain ⟨hsets, hown0⟩ := atoms_of _ (rest_1_c_eq ▸ (show rest_1_c.before _ s = true from hrest))
  have hsv := fun d (hd : d ∈ jdkStatics_1) => Cond.before_iff.mp (hsets d hd)
  have ev_high := eqv_i (F := .int (127 : Int32)) rfl (hsv _ (List.mem_of_getElem? (i := 3) rfl))
  have S_high : Sta s s.heap "java/lang/Integer$IntegerCache" "high" "I" (.int (127 : Int32)) := Sta.start ev_high (Or.inl (hsets _ (List.mem_of_getElem? (i := 1) rfl)))
  obtain ⟨w_cache, ev_cache, S_cache, cl_cache, Ar_cache⟩ := own_staA (Z := s) (C := "java/lang/Integer$IntegerCache") (hw _ (List.mem_of_getElem? (i := 25) rfl)) (hsets _ (List.mem_of_getElem? (i := 2) rfl)) (hsv _ (List.mem_of_getElem? (i := 4) rfl))
  have Z_cache : cl_cache.slots.size = 256 := own_len ev_cache Ar_cache (hsv _ (List.mem_of_getElem? (i := 6) rfl)) (by decide)
  have Bx := Bxs.start (F := .sub (.index 0) (.int (128 : Int32))) (z := (256 : Int32)) (val := fun j => .int (j - (128 : Int32))) (fun idx => (ev_cache : _)) Ar_cache (by rw [Z_cache]; decide) (by rw [Z_cache]; decide) (by decide) (hsv _ (List.mem_of_getElem? (i := 7) rfl)) (fun X j hj h => eqv_i (own_sub hj) h)
  obtain ⟨n, o, h1, h2, h3, _, L, rfl, ⟨rfl, N⟩, hq⟩ := rm_0 l s _ hw tables_1 i0 i1 i2 i3 i4 w_cache cl_cache _ s.heap s.heap.size (Nat.le_refl _) S_high S_cache Bx (own_ext_refl _) p e ha hc hk s m _ below hf ((Spec.applies_iff_loose hf).mp happ).1 ⟨rfl, State.Warmed39.refl s, rfl⟩ trivial
  refine ⟨n, _, h1, h2, h3, hpost _ _ _ _ _ _ ⟨Cond.after_iff.mpr rfl, Cond.after_iff.mpr (eq_i res_at (Term.int_eval (1)) rfl), trivial⟩ ⟨hq.1, hq.2.1, (hq.2.2.sift fun y hy => Or.inr (N y hy)).mono (by decide) (by decide)⟩⟩
theorem main_1_1 : Claimed_1_1 := comes_1 fun _ _ _ _ _ _ h hF => ⟨h.1, hF⟩
theorem main_1_2 : Claimed_1_2 := comes_1 fun _ _ _ _ _ _ h hF => ⟨h.2.1, hF⟩
end Jvm.Pilot.@@N@@
namespace Jvm.Pilot.@@N@@
open Jvm Jvm.ClassFile Sem Op Lib Jvm.Free Jvm.Stand Jvm.Pilot.@@N@@.Jvm.D
/-! MADE BY PROGRAM (witnessworld.py) out of the Statement's table words and the real class files: 16 classes; the members and pool entries that the words name. The judged class is class 1, her method 1. -/
namespace start1
open Jvm.ClassFile
def u (s : String) : CpInfo := .utf8 (stringToUtf16 s)
/-- a pool by its gaps: so many unusable entries, then the entry; so many at the end -/
def gap : Nat → List CpInfo → List CpInfo
  | 0, r => r
  | n + 1, r => .unusable :: gap n r
def poolList (es : List (Nat × CpInfo)) (last : Nat) : List CpInfo := es.foldr (fun e r => gap e.1 (e.2 :: r)) (gap last [])
def pool (es : List (Nat × CpInfo)) (last : Nat) : Array CpInfo := ⟨poolList es last⟩
def fileOf (pool : Array CpInfo) (this : Nat) (attrs : Array Attribute := #[]) (ms : Array MethodInfo := #[]) (fl : Nat := 33) (sup : Nat := 0) (ifs : Array Nat := #[]) (fds : Array FieldInfo := #[]) : ClassFile where
  minorVersion := 0
  majorVersion := 65
  constantPool := pool
  accessFlags := fl
  thisClass := this
  superClass := sup
  interfaces := ifs
  fields := fds
  methods := ms
  attributes := attrs
def plain (name : String) (sup : Option ClassId) : Class where
  name := name
  kind := .ordinary
  loader := none
  accessFlags := 33
  super := sup
  interfaces := #[]
  cf := none
  fields := #[]
  methods := #[]
  instanceTypes := #[]
  staticTypes := #[]
  resolved := #[]
  callSites := []
  init := .initialized
  statics := none
  mirror := none

def pool0 : Array CpInfo := pool [(5, u "<init>"), (0, u "()V"), (1, .class_ 10), (1, u "java/lang/Object")] 113

def k0c0 : Code := { maxStack := 0, maxLocals := 1, code := object_method_1_code, exceptionTable := #[], attributes := #[] }
def k0m0 : Method := { name := "<init>", desc := "()V", sig := { parameters := [], returnType := none }, accessFlags := 1, code := some k0c0 }
/-- java/lang/Object -/
def k0 : Class := { plain "java/lang/Object" none with
  accessFlags := 33
  interfaces := #[]
  cf := some (fileOf pool0 8 #[] #[{ accessFlags := 1, nameIndex := 5, descriptorIndex := 6, attributes := #[] }] 33 0 #[] #[])
  fields := #[]
  methods := #[k0m0]
  instanceTypes := #[]
  staticTypes := #[]
  resolved := Array.replicate 124 none
  statics := none }

def pool1 : Array CpInfo := pool [(2, .class_ 4), (1, u "java/lang/Object"), (0, u "<init>"), (0, u "()V"), (0, .class_ 8), (0, u "com/example/fissure/fissure/games/breakable/Hex"), (0, .methodref 7 10), (0, .nameAndType 5 11), (0, u "(II)V"), (0, .methodref 13 14), (0, .class_ 15), (0, .nameAndType 16 17), (0, u "java/lang/Integer"), (0, u "valueOf"), (0, u "(I)Ljava/lang/Integer;"), (0, .methodref 7 19), (0, .nameAndType 20 21), (0, u "equals"), (0, u "(Ljava/lang/Object;)Z"), (0, .class_ 23), (0, u "com/example/fissure/fissure/games/breakable/HexEqualsPinLaw"), (2, u "law"), (0, u "(IIIII)Z")] 3

def k1m0 : Method := { name := "<init>", desc := "()V", sig := { parameters := [], returnType := none }, accessFlags := 1, code := none }
def k1c1 : Code := { maxStack := 4, maxLocals := 12, code := code, exceptionTable := #[], attributes := #[] }
def k1m1 : Method := { name := "law", desc := "(IIIII)Z", sig := { parameters := [.int, .int, .int, .int, .int], returnType := some .boolean }, accessFlags := 9, code := some k1c1 }
/-- com/example/fissure/fissure/games/breakable/HexEqualsPinLaw -/
def k1 : Class := { plain "com/example/fissure/fissure/games/breakable/HexEqualsPinLaw" (some 0) with
  accessFlags := 49
  interfaces := #[]
  cf := some (fileOf pool1 22 #[] #[{ accessFlags := 1, nameIndex := 5, descriptorIndex := 6, attributes := #[] }, { accessFlags := 9, nameIndex := 26, descriptorIndex := 27, attributes := #[] }] 49 2 #[] #[])
  fields := #[]
  methods := #[k1m0, k1m1]
  instanceTypes := #[]
  staticTypes := #[]
  resolved := Array.replicate 31 none
  statics := none }

def pool2 : Array CpInfo := pool [(1, .class_ 2), (0, u "java/lang/Comparable"), (0, .class_ 4), (0, u "java/lang/Object")] 7

/-- java/lang/Comparable -/
def k2 : Class := { plain "java/lang/Comparable" (some 0) with
  accessFlags := 1537
  interfaces := #[]
  cf := some (fileOf pool2 1 #[] #[] 1537 3 #[] #[])
  fields := #[]
  methods := #[]
  instanceTypes := #[]
  staticTypes := #[]
  resolved := Array.replicate 12 none
  statics := none }

def pool3 : Array CpInfo := pool [(1, .methodref 2 3), (0, .class_ 4), (0, .nameAndType 5 6), (0, u "java/lang/Object"), (0, u "<init>"), (0, u "()V"), (0, .fieldref 8 9), (0, .class_ 10), (0, .nameAndType 11 12), (0, u "com/example/fissure/fissure/games/breakable/Hex"), (0, u "column"), (0, u "I"), (0, .fieldref 8 14), (0, .nameAndType 15 12), (0, u "row"), (23, u "(II)V"), (24, .class_ 65), (0, u "java/lang/Comparable"), (0, u "MOST"), (8, u "equals"), (0, u "(Ljava/lang/Object;)Z")] 9

def k3c0 : Code := { maxStack := 2, maxLocals := 3, code := prog_26_method_1_code, exceptionTable := #[], attributes := #[] }
def k3m0 : Method := { name := "<init>", desc := "(II)V", sig := { parameters := [.int, .int], returnType := none }, accessFlags := 0, code := some k3c0 }
def k3c1 : Code := { maxStack := 2, maxLocals := 3, code := prog_26_method_6_code, exceptionTable := #[], attributes := #[] }
def k3m1 : Method := { name := "equals", desc := "(Ljava/lang/Object;)Z", sig := { parameters := [(.object "java/lang/Object")], returnType := some .boolean }, accessFlags := 1, code := some k3c1 }
/-- com/example/fissure/fissure/games/breakable/Hex -/
def k3 : Class := { plain "com/example/fissure/fissure/games/breakable/Hex" (some 0) with
  accessFlags := 32
  interfaces := #[2]
  cf := some (fileOf pool3 8 #[] #[{ accessFlags := 0, nameIndex := 5, descriptorIndex := 39, attributes := #[] }, { accessFlags := 1, nameIndex := 75, descriptorIndex := 76, attributes := #[] }] 32 2 #[64] #[{ accessFlags := 24, nameIndex := 66, descriptorIndex := 12, attributes := #[] }, { accessFlags := 18, nameIndex := 11, descriptorIndex := 12, attributes := #[] }, { accessFlags := 18, nameIndex := 15, descriptorIndex := 12, attributes := #[] }])
  fields := #[{ name := "MOST", type := .int, accessFlags := 24, slot := 0, constantValue := 0 }, { name := "column", type := .int, accessFlags := 18, slot := 0, constantValue := 0 }, { name := "row", type := .int, accessFlags := 18, slot := 1, constantValue := 0 }]
  methods := #[k3m0, k3m1]
  instanceTypes := #[.int, .int]
  staticTypes := #[.int]
  resolved := Array.replicate 86 none
  statics := none }

def pool4 : Array CpInfo := pool [(1, .class_ 2), (0, u "java/io/Serializable"), (0, .class_ 4), (0, u "java/lang/Object")] 2

/-- java/io/Serializable -/
def k4 : Class := { plain "java/io/Serializable" (some 0) with
  accessFlags := 1537
  interfaces := #[]
  cf := some (fileOf pool4 1 #[] #[] 1537 3 #[] #[])
  fields := #[]
  methods := #[]
  instanceTypes := #[]
  staticTypes := #[]
  resolved := Array.replicate 7 none
  statics := none }

def pool5 : Array CpInfo := pool [(1, .methodref 2 3), (0, .class_ 4), (0, .nameAndType 5 6), (0, u "java/lang/Object"), (0, u "<init>"), (0, u "()V"), (1, .class_ 10), (1, u "java/lang/Number"), (2, .class_ 14), (0, u "java/io/Serializable"), (0, u "serialVersionUID"), (0, u "J")] 20

def k5c0 : Code := { maxStack := 1, maxLocals := 1, code := jdk_18_method_1_code, exceptionTable := #[], attributes := #[] }
def k5m0 : Method := { name := "<init>", desc := "()V", sig := { parameters := [], returnType := none }, accessFlags := 1, code := some k5c0 }
/-- java/lang/Number -/
def k5 : Class := { plain "java/lang/Number" (some 0) with
  accessFlags := 1057
  interfaces := #[4]
  cf := some (fileOf pool5 8 #[] #[{ accessFlags := 1, nameIndex := 5, descriptorIndex := 6, attributes := #[] }] 1057 2 #[13] #[{ accessFlags := 26, nameIndex := 15, descriptorIndex := 16, attributes := #[] }])
  fields := #[{ name := "serialVersionUID", type := .long, accessFlags := 26, slot := 0, constantValue := 0 }]
  methods := #[k5m0]
  instanceTypes := #[]
  staticTypes := #[.long]
  resolved := Array.replicate 37 none
  statics := none }

def pool6 : Array CpInfo := pool [(1, .class_ 2), (0, u "java/lang/constant/Constable"), (0, .class_ 4), (0, u "java/lang/Object")] 6

/-- java/lang/constant/Constable -/
def k6 : Class := { plain "java/lang/constant/Constable" (some 0) with
  accessFlags := 1537
  interfaces := #[]
  cf := some (fileOf pool6 1 #[] #[] 1537 3 #[] #[])
  fields := #[]
  methods := #[]
  instanceTypes := #[]
  staticTypes := #[]
  resolved := Array.replicate 11 none
  statics := none }

def pool7 : Array CpInfo := pool [(1, .class_ 2), (0, u "java/lang/constant/ConstantDesc"), (0, .class_ 4), (0, u "java/lang/Object")] 32

/-- java/lang/constant/ConstantDesc -/
def k7 : Class := { plain "java/lang/constant/ConstantDesc" (some 0) with
  accessFlags := 1537
  interfaces := #[]
  cf := some (fileOf pool7 1 #[] #[] 1537 3 #[] #[])
  fields := #[]
  methods := #[]
  instanceTypes := #[]
  staticTypes := #[]
  resolved := Array.replicate 37 none
  statics := none }

def pool8 : Array CpInfo := pool [(1, .class_ 2), (0, u "java/lang/Integer"), (16, u "digits"), (0, u "[C"), (46, u "<init>"), (17, u "DigitOnes"), (0, u "[B"), (2, u "DigitTens"), (10, .nameAndType 67 101), (0, u "()V"), (85, u "valueOf"), (0, u "(I)Ljava/lang/Integer;"), (0, .class_ 190), (0, u "java/lang/Integer$IntegerCache"), (0, .fieldref 189 192), (0, .nameAndType 193 194), (0, u "high"), (0, u "I"), (0, .fieldref 189 196), (0, .nameAndType 197 198), (0, u "cache"), (0, u "[Ljava/lang/Integer;"), (0, .methodref 1 200), (0, .nameAndType 67 201), (0, u "(I)V"), (0, .methodref 203 100), (0, .class_ 204), (0, u "java/lang/Number"), (0, .fieldref 1 206), (0, .nameAndType 207 194), (0, u "value"), (94, u "TYPE"), (0, u "Ljava/lang/Class;"), (0, .class_ 305), (0, u "java/lang/Comparable"), (0, .class_ 307), (0, u "java/lang/constant/Constable"), (0, .class_ 309), (0, u "java/lang/constant/ConstantDesc"), (0, u "MIN_VALUE"), (1, u "MAX_VALUE"), (3, u "SIZE"), (1, u "BYTES"), (1, u "serialVersionUID"), (0, u "J")] 131

def k8c0 : Code := { maxStack := 3, maxLocals := 1, code := jdk_33_method_22_code, exceptionTable := #[], attributes := #[] }
def k8m0 : Method := { name := "valueOf", desc := "(I)Ljava/lang/Integer;", sig := { parameters := [.int], returnType := some (.object "java/lang/Integer") }, accessFlags := 9, code := some k8c0 }
def k8c1 : Code := { maxStack := 2, maxLocals := 2, code := jdk_33_method_23_code, exceptionTable := #[], attributes := #[] }
def k8m1 : Method := { name := "<init>", desc := "(I)V", sig := { parameters := [.int], returnType := none }, accessFlags := 1, code := some k8c1 }
/-- java/lang/Integer -/
def k8 : Class := { plain "java/lang/Integer" (some 5) with
  accessFlags := 49
  interfaces := #[2, 6, 7]
  cf := some (fileOf pool8 1 #[.nestMembers #[189]] #[{ accessFlags := 9, nameIndex := 187, descriptorIndex := 188, attributes := #[] }, { accessFlags := 1, nameIndex := 67, descriptorIndex := 201, attributes := #[] }] 49 203 #[304, 306, 308] #[{ accessFlags := 25, nameIndex := 310, descriptorIndex := 194, attributes := #[] }, { accessFlags := 25, nameIndex := 312, descriptorIndex := 194, attributes := #[] }, { accessFlags := 25, nameIndex := 302, descriptorIndex := 303, attributes := #[] }, { accessFlags := 24, nameIndex := 19, descriptorIndex := 20, attributes := #[] }, { accessFlags := 24, nameIndex := 89, descriptorIndex := 86, attributes := #[] }, { accessFlags := 24, nameIndex := 85, descriptorIndex := 86, attributes := #[] }, { accessFlags := 18, nameIndex := 207, descriptorIndex := 194, attributes := #[] }, { accessFlags := 25, nameIndex := 316, descriptorIndex := 194, attributes := #[] }, { accessFlags := 25, nameIndex := 318, descriptorIndex := 194, attributes := #[] }, { accessFlags := 26, nameIndex := 320, descriptorIndex := 321, attributes := #[] }])
  fields := #[{ name := "MIN_VALUE", type := .int, accessFlags := 25, slot := 0, constantValue := 0 }, { name := "MAX_VALUE", type := .int, accessFlags := 25, slot := 1, constantValue := 0 }, { name := "TYPE", type := (.object "java/lang/Class"), accessFlags := 25, slot := 2, constantValue := 0 }, { name := "digits", type := (.array .char), accessFlags := 24, slot := 3, constantValue := 0 }, { name := "DigitTens", type := (.array .byte), accessFlags := 24, slot := 4, constantValue := 0 }, { name := "DigitOnes", type := (.array .byte), accessFlags := 24, slot := 5, constantValue := 0 }, { name := "value", type := .int, accessFlags := 18, slot := 0, constantValue := 0 }, { name := "SIZE", type := .int, accessFlags := 25, slot := 6, constantValue := 0 }, { name := "BYTES", type := .int, accessFlags := 25, slot := 7, constantValue := 0 }, { name := "serialVersionUID", type := .long, accessFlags := 26, slot := 8, constantValue := 0 }]
  methods := #[k8m0, k8m1]
  instanceTypes := #[.int]
  staticTypes := #[.int, .int, (.object "java/lang/Class"), (.array .char), (.array .byte), (.array .byte), .int, .int, .long]
  resolved := Array.replicate 453 none
  statics := none }

def pool9 : Array CpInfo := pool [(2, .class_ 4), (1, u "java/lang/Object"), (0, u "<init>"), (0, u "()V"), (0, .class_ 8), (0, u "java/lang/Integer"), (7, .class_ 18), (1, u "java/lang/Integer$IntegerCache"), (0, u "$assertionsDisabled"), (0, u "Z"), (26, u "high"), (0, u "I"), (8, u "archivedCache"), (0, u "[Ljava/lang/Integer;"), (12, u "cache"), (0, u "low")] 27

def k9m0 : Method := { name := "<init>", desc := "()V", sig := { parameters := [], returnType := none }, accessFlags := 2, code := none }
/-- java/lang/Integer$IntegerCache -/
def k9 : Class := { plain "java/lang/Integer$IntegerCache" (some 0) with
  accessFlags := 48
  interfaces := #[]
  cf := some (fileOf pool9 16 #[.nestHost 7] #[{ accessFlags := 2, nameIndex := 5, descriptorIndex := 6, attributes := #[] }] 48 2 #[] #[{ accessFlags := 24, nameIndex := 72, descriptorIndex := 48, attributes := #[] }, { accessFlags := 24, nameIndex := 47, descriptorIndex := 48, attributes := #[] }, { accessFlags := 24, nameIndex := 71, descriptorIndex := 58, attributes := #[] }, { accessFlags := 8, nameIndex := 57, descriptorIndex := 58, attributes := #[] }, { accessFlags := 4120, nameIndex := 19, descriptorIndex := 20, attributes := #[] }])
  fields := #[{ name := "low", type := .int, accessFlags := 24, slot := 0, constantValue := 0 }, { name := "high", type := .int, accessFlags := 24, slot := 1, constantValue := 0 }, { name := "cache", type := (.array (.object "java/lang/Integer")), accessFlags := 24, slot := 2, constantValue := 0 }, { name := "archivedCache", type := (.array (.object "java/lang/Integer")), accessFlags := 8, slot := 3, constantValue := 0 }, { name := "$assertionsDisabled", type := .boolean, accessFlags := 4120, slot := 4, constantValue := 0 }]
  methods := #[k9m0]
  instanceTypes := #[]
  staticTypes := #[.int, .int, (.array (.object "java/lang/Integer")), (.array (.object "java/lang/Integer")), .boolean]
  resolved := Array.replicate 100 none
  statics := some 0 }

def pool10 : Array CpInfo := pool [(1, u "java/lang/Cloneable"), (0, .class_ 1), (0, u "java/lang/Object"), (0, .class_ 3)] 3

/-- java/lang/Cloneable -/
def k10 : Class := { plain "java/lang/Cloneable" (some 0) with
  accessFlags := 1537
  interfaces := #[]
  cf := some (fileOf pool10 2 #[] #[] 1537 4 #[] #[])
  fields := #[]
  methods := #[]
  instanceTypes := #[]
  staticTypes := #[]
  resolved := Array.replicate 8 none
  statics := none }

/-- the primitive byte -/
def k11 : Class := { plain "byte" none with kind := .primitive 'B', accessFlags := 0x411 }
/-- [B -/
def k12 : Class := { plain "[B" (some 0) with kind := .array 11 .byte, interfaces := #[10, 4], accessFlags := 1041 }

/-- the primitive int -/
def k13 : Class := { plain "int" none with kind := .primitive 'I', accessFlags := 0x411 }
/-- [I -/
def k14 : Class := { plain "[I" (some 0) with kind := .array 13 .int, interfaces := #[10, 4], accessFlags := 1041 }

/-- [Ljava/lang/Integer; -/
def k15 : Class := { plain "[Ljava/lang/Integer;" (some 0) with kind := .array 8 (.object "java/lang/Integer"), interfaces := #[10, 4], accessFlags := 1041 }

def heap : Heap := #[{ cls := 9, slots := #[.int 0, .int 127, .ref 1, .null, .int 0], vm := .statics 9 },
  { cls := 15, slots := #[.ref 2, .ref 3, .ref 4, .ref 5, .ref 6, .ref 7, .ref 8, .ref 9, .ref 10, .ref 11, .ref 12, .ref 13, .ref 14, .ref 15, .ref 16, .ref 17, .ref 18, .ref 19, .ref 20, .ref 21, .ref 22, .ref 23, .ref 24, .ref 25, .ref 26, .ref 27, .ref 28, .ref 29, .ref 30, .ref 31, .ref 32, .ref 33, .ref 34, .ref 35, .ref 36, .ref 37, .ref 38, .ref 39, .ref 40, .ref 41, .ref 42, .ref 43, .ref 44, .ref 45, .ref 46, .ref 47, .ref 48, .ref 49, .ref 50, .ref 51, .ref 52, .ref 53, .ref 54, .ref 55, .ref 56, .ref 57, .ref 58, .ref 59, .ref 60, .ref 61, .ref 62, .ref 63, .ref 64, .ref 65, .ref 66, .ref 67, .ref 68, .ref 69, .ref 70, .ref 71, .ref 72, .ref 73, .ref 74, .ref 75, .ref 76, .ref 77, .ref 78, .ref 79, .ref 80, .ref 81, .ref 82, .ref 83, .ref 84, .ref 85, .ref 86, .ref 87, .ref 88, .ref 89, .ref 90, .ref 91, .ref 92, .ref 93, .ref 94, .ref 95, .ref 96, .ref 97, .ref 98, .ref 99, .ref 100, .ref 101, .ref 102, .ref 103, .ref 104, .ref 105, .ref 106, .ref 107, .ref 108, .ref 109, .ref 110, .ref 111, .ref 112, .ref 113, .ref 114, .ref 115, .ref 116, .ref 117, .ref 118, .ref 119, .ref 120, .ref 121, .ref 122, .ref 123, .ref 124, .ref 125, .ref 126, .ref 127, .ref 128, .ref 129, .ref 130, .ref 131, .ref 132, .ref 133, .ref 134, .ref 135, .ref 136, .ref 137, .ref 138, .ref 139, .ref 140, .ref 141, .ref 142, .ref 143, .ref 144, .ref 145, .ref 146, .ref 147, .ref 148, .ref 149, .ref 150, .ref 151, .ref 152, .ref 153, .ref 154, .ref 155, .ref 156, .ref 157, .ref 158, .ref 159, .ref 160, .ref 161, .ref 162, .ref 163, .ref 164, .ref 165, .ref 166, .ref 167, .ref 168, .ref 169, .ref 170, .ref 171, .ref 172, .ref 173, .ref 174, .ref 175, .ref 176, .ref 177, .ref 178, .ref 179, .ref 180, .ref 181, .ref 182, .ref 183, .ref 184, .ref 185, .ref 186, .ref 187, .ref 188, .ref 189, .ref 190, .ref 191, .ref 192, .ref 193, .ref 194, .ref 195, .ref 196, .ref 197, .ref 198, .ref 199, .ref 200, .ref 201, .ref 202, .ref 203, .ref 204, .ref 205, .ref 206, .ref 207, .ref 208, .ref 209, .ref 210, .ref 211, .ref 212, .ref 213, .ref 214, .ref 215, .ref 216, .ref 217, .ref 218, .ref 219, .ref 220, .ref 221, .ref 222, .ref 223, .ref 224, .ref 225, .ref 226, .ref 227, .ref 228, .ref 229, .ref 230, .ref 231, .ref 232, .ref 233, .ref 234, .ref 235, .ref 236, .ref 237, .ref 238, .ref 239, .ref 240, .ref 241, .ref 242, .ref 243, .ref 244, .ref 245, .ref 246, .ref 247, .ref 248, .ref 249, .ref 250, .ref 251, .ref 252, .ref 253, .ref 254, .ref 255, .ref 256, .ref 257], vm := .none },
  { cls := 8, slots := #[.int (-128)], vm := .none },
  { cls := 8, slots := #[.int (-127)], vm := .none },
  { cls := 8, slots := #[.int (-126)], vm := .none },
  { cls := 8, slots := #[.int (-125)], vm := .none },
  { cls := 8, slots := #[.int (-124)], vm := .none },
  { cls := 8, slots := #[.int (-123)], vm := .none },
  { cls := 8, slots := #[.int (-122)], vm := .none },
  { cls := 8, slots := #[.int (-121)], vm := .none },
  { cls := 8, slots := #[.int (-120)], vm := .none },
  { cls := 8, slots := #[.int (-119)], vm := .none },
  { cls := 8, slots := #[.int (-118)], vm := .none },
  { cls := 8, slots := #[.int (-117)], vm := .none },
  { cls := 8, slots := #[.int (-116)], vm := .none },
  { cls := 8, slots := #[.int (-115)], vm := .none },
  { cls := 8, slots := #[.int (-114)], vm := .none },
  { cls := 8, slots := #[.int (-113)], vm := .none },
  { cls := 8, slots := #[.int (-112)], vm := .none },
  { cls := 8, slots := #[.int (-111)], vm := .none },
  { cls := 8, slots := #[.int (-110)], vm := .none },
  { cls := 8, slots := #[.int (-109)], vm := .none },
  { cls := 8, slots := #[.int (-108)], vm := .none },
  { cls := 8, slots := #[.int (-107)], vm := .none },
  { cls := 8, slots := #[.int (-106)], vm := .none },
  { cls := 8, slots := #[.int (-105)], vm := .none },
  { cls := 8, slots := #[.int (-104)], vm := .none },
  { cls := 8, slots := #[.int (-103)], vm := .none },
  { cls := 8, slots := #[.int (-102)], vm := .none },
  { cls := 8, slots := #[.int (-101)], vm := .none },
  { cls := 8, slots := #[.int (-100)], vm := .none },
  { cls := 8, slots := #[.int (-99)], vm := .none },
  { cls := 8, slots := #[.int (-98)], vm := .none },
  { cls := 8, slots := #[.int (-97)], vm := .none },
  { cls := 8, slots := #[.int (-96)], vm := .none },
  { cls := 8, slots := #[.int (-95)], vm := .none },
  { cls := 8, slots := #[.int (-94)], vm := .none },
  { cls := 8, slots := #[.int (-93)], vm := .none },
  { cls := 8, slots := #[.int (-92)], vm := .none },
  { cls := 8, slots := #[.int (-91)], vm := .none },
  { cls := 8, slots := #[.int (-90)], vm := .none },
  { cls := 8, slots := #[.int (-89)], vm := .none },
  { cls := 8, slots := #[.int (-88)], vm := .none },
  { cls := 8, slots := #[.int (-87)], vm := .none },
  { cls := 8, slots := #[.int (-86)], vm := .none },
  { cls := 8, slots := #[.int (-85)], vm := .none },
  { cls := 8, slots := #[.int (-84)], vm := .none },
  { cls := 8, slots := #[.int (-83)], vm := .none },
  { cls := 8, slots := #[.int (-82)], vm := .none },
  { cls := 8, slots := #[.int (-81)], vm := .none },
  { cls := 8, slots := #[.int (-80)], vm := .none },
  { cls := 8, slots := #[.int (-79)], vm := .none },
  { cls := 8, slots := #[.int (-78)], vm := .none },
  { cls := 8, slots := #[.int (-77)], vm := .none },
  { cls := 8, slots := #[.int (-76)], vm := .none },
  { cls := 8, slots := #[.int (-75)], vm := .none },
  { cls := 8, slots := #[.int (-74)], vm := .none },
  { cls := 8, slots := #[.int (-73)], vm := .none },
  { cls := 8, slots := #[.int (-72)], vm := .none },
  { cls := 8, slots := #[.int (-71)], vm := .none },
  { cls := 8, slots := #[.int (-70)], vm := .none },
  { cls := 8, slots := #[.int (-69)], vm := .none },
  { cls := 8, slots := #[.int (-68)], vm := .none },
  { cls := 8, slots := #[.int (-67)], vm := .none },
  { cls := 8, slots := #[.int (-66)], vm := .none },
  { cls := 8, slots := #[.int (-65)], vm := .none },
  { cls := 8, slots := #[.int (-64)], vm := .none },
  { cls := 8, slots := #[.int (-63)], vm := .none },
  { cls := 8, slots := #[.int (-62)], vm := .none },
  { cls := 8, slots := #[.int (-61)], vm := .none },
  { cls := 8, slots := #[.int (-60)], vm := .none },
  { cls := 8, slots := #[.int (-59)], vm := .none },
  { cls := 8, slots := #[.int (-58)], vm := .none },
  { cls := 8, slots := #[.int (-57)], vm := .none },
  { cls := 8, slots := #[.int (-56)], vm := .none },
  { cls := 8, slots := #[.int (-55)], vm := .none },
  { cls := 8, slots := #[.int (-54)], vm := .none },
  { cls := 8, slots := #[.int (-53)], vm := .none },
  { cls := 8, slots := #[.int (-52)], vm := .none },
  { cls := 8, slots := #[.int (-51)], vm := .none },
  { cls := 8, slots := #[.int (-50)], vm := .none },
  { cls := 8, slots := #[.int (-49)], vm := .none },
  { cls := 8, slots := #[.int (-48)], vm := .none },
  { cls := 8, slots := #[.int (-47)], vm := .none },
  { cls := 8, slots := #[.int (-46)], vm := .none },
  { cls := 8, slots := #[.int (-45)], vm := .none },
  { cls := 8, slots := #[.int (-44)], vm := .none },
  { cls := 8, slots := #[.int (-43)], vm := .none },
  { cls := 8, slots := #[.int (-42)], vm := .none },
  { cls := 8, slots := #[.int (-41)], vm := .none },
  { cls := 8, slots := #[.int (-40)], vm := .none },
  { cls := 8, slots := #[.int (-39)], vm := .none },
  { cls := 8, slots := #[.int (-38)], vm := .none },
  { cls := 8, slots := #[.int (-37)], vm := .none },
  { cls := 8, slots := #[.int (-36)], vm := .none },
  { cls := 8, slots := #[.int (-35)], vm := .none },
  { cls := 8, slots := #[.int (-34)], vm := .none },
  { cls := 8, slots := #[.int (-33)], vm := .none },
  { cls := 8, slots := #[.int (-32)], vm := .none },
  { cls := 8, slots := #[.int (-31)], vm := .none },
  { cls := 8, slots := #[.int (-30)], vm := .none },
  { cls := 8, slots := #[.int (-29)], vm := .none },
  { cls := 8, slots := #[.int (-28)], vm := .none },
  { cls := 8, slots := #[.int (-27)], vm := .none },
  { cls := 8, slots := #[.int (-26)], vm := .none },
  { cls := 8, slots := #[.int (-25)], vm := .none },
  { cls := 8, slots := #[.int (-24)], vm := .none },
  { cls := 8, slots := #[.int (-23)], vm := .none },
  { cls := 8, slots := #[.int (-22)], vm := .none },
  { cls := 8, slots := #[.int (-21)], vm := .none },
  { cls := 8, slots := #[.int (-20)], vm := .none },
  { cls := 8, slots := #[.int (-19)], vm := .none },
  { cls := 8, slots := #[.int (-18)], vm := .none },
  { cls := 8, slots := #[.int (-17)], vm := .none },
  { cls := 8, slots := #[.int (-16)], vm := .none },
  { cls := 8, slots := #[.int (-15)], vm := .none },
  { cls := 8, slots := #[.int (-14)], vm := .none },
  { cls := 8, slots := #[.int (-13)], vm := .none },
  { cls := 8, slots := #[.int (-12)], vm := .none },
  { cls := 8, slots := #[.int (-11)], vm := .none },
  { cls := 8, slots := #[.int (-10)], vm := .none },
  { cls := 8, slots := #[.int (-9)], vm := .none },
  { cls := 8, slots := #[.int (-8)], vm := .none },
  { cls := 8, slots := #[.int (-7)], vm := .none },
  { cls := 8, slots := #[.int (-6)], vm := .none },
  { cls := 8, slots := #[.int (-5)], vm := .none },
  { cls := 8, slots := #[.int (-4)], vm := .none },
  { cls := 8, slots := #[.int (-3)], vm := .none },
  { cls := 8, slots := #[.int (-2)], vm := .none },
  { cls := 8, slots := #[.int (-1)], vm := .none },
  { cls := 8, slots := #[.int 0], vm := .none },
  { cls := 8, slots := #[.int 1], vm := .none },
  { cls := 8, slots := #[.int 2], vm := .none },
  { cls := 8, slots := #[.int 3], vm := .none },
  { cls := 8, slots := #[.int 4], vm := .none },
  { cls := 8, slots := #[.int 5], vm := .none },
  { cls := 8, slots := #[.int 6], vm := .none },
  { cls := 8, slots := #[.int 7], vm := .none },
  { cls := 8, slots := #[.int 8], vm := .none },
  { cls := 8, slots := #[.int 9], vm := .none },
  { cls := 8, slots := #[.int 10], vm := .none },
  { cls := 8, slots := #[.int 11], vm := .none },
  { cls := 8, slots := #[.int 12], vm := .none },
  { cls := 8, slots := #[.int 13], vm := .none },
  { cls := 8, slots := #[.int 14], vm := .none },
  { cls := 8, slots := #[.int 15], vm := .none },
  { cls := 8, slots := #[.int 16], vm := .none },
  { cls := 8, slots := #[.int 17], vm := .none },
  { cls := 8, slots := #[.int 18], vm := .none },
  { cls := 8, slots := #[.int 19], vm := .none },
  { cls := 8, slots := #[.int 20], vm := .none },
  { cls := 8, slots := #[.int 21], vm := .none },
  { cls := 8, slots := #[.int 22], vm := .none },
  { cls := 8, slots := #[.int 23], vm := .none },
  { cls := 8, slots := #[.int 24], vm := .none },
  { cls := 8, slots := #[.int 25], vm := .none },
  { cls := 8, slots := #[.int 26], vm := .none },
  { cls := 8, slots := #[.int 27], vm := .none },
  { cls := 8, slots := #[.int 28], vm := .none },
  { cls := 8, slots := #[.int 29], vm := .none },
  { cls := 8, slots := #[.int 30], vm := .none },
  { cls := 8, slots := #[.int 31], vm := .none },
  { cls := 8, slots := #[.int 32], vm := .none },
  { cls := 8, slots := #[.int 33], vm := .none },
  { cls := 8, slots := #[.int 34], vm := .none },
  { cls := 8, slots := #[.int 35], vm := .none },
  { cls := 8, slots := #[.int 36], vm := .none },
  { cls := 8, slots := #[.int 37], vm := .none },
  { cls := 8, slots := #[.int 38], vm := .none },
  { cls := 8, slots := #[.int 39], vm := .none },
  { cls := 8, slots := #[.int 40], vm := .none },
  { cls := 8, slots := #[.int 41], vm := .none },
  { cls := 8, slots := #[.int 42], vm := .none },
  { cls := 8, slots := #[.int 43], vm := .none },
  { cls := 8, slots := #[.int 44], vm := .none },
  { cls := 8, slots := #[.int 45], vm := .none },
  { cls := 8, slots := #[.int 46], vm := .none },
  { cls := 8, slots := #[.int 47], vm := .none },
  { cls := 8, slots := #[.int 48], vm := .none },
  { cls := 8, slots := #[.int 49], vm := .none },
  { cls := 8, slots := #[.int 50], vm := .none },
  { cls := 8, slots := #[.int 51], vm := .none },
  { cls := 8, slots := #[.int 52], vm := .none },
  { cls := 8, slots := #[.int 53], vm := .none },
  { cls := 8, slots := #[.int 54], vm := .none },
  { cls := 8, slots := #[.int 55], vm := .none },
  { cls := 8, slots := #[.int 56], vm := .none },
  { cls := 8, slots := #[.int 57], vm := .none },
  { cls := 8, slots := #[.int 58], vm := .none },
  { cls := 8, slots := #[.int 59], vm := .none },
  { cls := 8, slots := #[.int 60], vm := .none },
  { cls := 8, slots := #[.int 61], vm := .none },
  { cls := 8, slots := #[.int 62], vm := .none },
  { cls := 8, slots := #[.int 63], vm := .none },
  { cls := 8, slots := #[.int 64], vm := .none },
  { cls := 8, slots := #[.int 65], vm := .none },
  { cls := 8, slots := #[.int 66], vm := .none },
  { cls := 8, slots := #[.int 67], vm := .none },
  { cls := 8, slots := #[.int 68], vm := .none },
  { cls := 8, slots := #[.int 69], vm := .none },
  { cls := 8, slots := #[.int 70], vm := .none },
  { cls := 8, slots := #[.int 71], vm := .none },
  { cls := 8, slots := #[.int 72], vm := .none },
  { cls := 8, slots := #[.int 73], vm := .none },
  { cls := 8, slots := #[.int 74], vm := .none },
  { cls := 8, slots := #[.int 75], vm := .none },
  { cls := 8, slots := #[.int 76], vm := .none },
  { cls := 8, slots := #[.int 77], vm := .none },
  { cls := 8, slots := #[.int 78], vm := .none },
  { cls := 8, slots := #[.int 79], vm := .none },
  { cls := 8, slots := #[.int 80], vm := .none },
  { cls := 8, slots := #[.int 81], vm := .none },
  { cls := 8, slots := #[.int 82], vm := .none },
  { cls := 8, slots := #[.int 83], vm := .none },
  { cls := 8, slots := #[.int 84], vm := .none },
  { cls := 8, slots := #[.int 85], vm := .none },
  { cls := 8, slots := #[.int 86], vm := .none },
  { cls := 8, slots := #[.int 87], vm := .none },
  { cls := 8, slots := #[.int 88], vm := .none },
  { cls := 8, slots := #[.int 89], vm := .none },
  { cls := 8, slots := #[.int 90], vm := .none },
  { cls := 8, slots := #[.int 91], vm := .none },
  { cls := 8, slots := #[.int 92], vm := .none },
  { cls := 8, slots := #[.int 93], vm := .none },
  { cls := 8, slots := #[.int 94], vm := .none },
  { cls := 8, slots := #[.int 95], vm := .none },
  { cls := 8, slots := #[.int 96], vm := .none },
  { cls := 8, slots := #[.int 97], vm := .none },
  { cls := 8, slots := #[.int 98], vm := .none },
  { cls := 8, slots := #[.int 99], vm := .none },
  { cls := 8, slots := #[.int 100], vm := .none },
  { cls := 8, slots := #[.int 101], vm := .none },
  { cls := 8, slots := #[.int 102], vm := .none },
  { cls := 8, slots := #[.int 103], vm := .none },
  { cls := 8, slots := #[.int 104], vm := .none },
  { cls := 8, slots := #[.int 105], vm := .none },
  { cls := 8, slots := #[.int 106], vm := .none },
  { cls := 8, slots := #[.int 107], vm := .none },
  { cls := 8, slots := #[.int 108], vm := .none },
  { cls := 8, slots := #[.int 109], vm := .none },
  { cls := 8, slots := #[.int 110], vm := .none },
  { cls := 8, slots := #[.int 111], vm := .none },
  { cls := 8, slots := #[.int 112], vm := .none },
  { cls := 8, slots := #[.int 113], vm := .none },
  { cls := 8, slots := #[.int 114], vm := .none },
  { cls := 8, slots := #[.int 115], vm := .none },
  { cls := 8, slots := #[.int 116], vm := .none },
  { cls := 8, slots := #[.int 117], vm := .none },
  { cls := 8, slots := #[.int 118], vm := .none },
  { cls := 8, slots := #[.int 119], vm := .none },
  { cls := 8, slots := #[.int 120], vm := .none },
  { cls := 8, slots := #[.int 121], vm := .none },
  { cls := 8, slots := #[.int 122], vm := .none },
  { cls := 8, slots := #[.int 123], vm := .none },
  { cls := 8, slots := #[.int 124], vm := .none },
  { cls := 8, slots := #[.int 125], vm := .none },
  { cls := 8, slots := #[.int 126], vm := .none },
  { cls := 8, slots := #[.int 127], vm := .none }]
def classes : Array Class := #[k0, k1, k2, k3, k4, k5, k6, k7, k8, k9, k10, k11, k12, k13, k14, k15]
def interned : List (Array UInt16 × Addr) := []
def slotsUsed : Nat := 517
def theMethod : MethodId := ⟨1, 1⟩
def args0 : Array Value := #[.int 5, .int 5, .int 5, .int 5, .int 5]
def aboutOver (below : List Frame) : State where
  vm := { classes := classes, interned := interned.toArray }
  heap := heap
  slotsUsed := slotsUsed
  threads := #[{ frames := .invoking theMethod args0 :: below }]
def below0 : List Frame := [.native { method := ⟨0, 0⟩, args := #[] }]
def about1 : State := aboutOver below0
def p0 : Program := .bare "" "" ""
def e0 : Env := launch0.env 0 0 0
theorem w_frames : about1.frames = Frame.invoking theMethod args0 :: below0 := rfl
set_option maxRecDepth 65536 in
theorem w_args : argsFit about1.vm theMethod args0 = true := by decide +kernel
set_option maxRecDepth 65536 in
theorem w_heap : heapFits about1 = true := by decide +kernel
set_option maxRecDepth 65536 in
theorem w_runnable : about1.curStatus? = some .runnable := by decide +kernel
set_option maxRecDepth 65536 in
theorem w_alone : about1.alone = true := by decide +kernel
set_option maxRecDepth 65536 in
theorem w_named : about1.methodNamed? x = some theMethod := by decide +kernel
set_option maxRecDepth 65536 in
theorem w_hears : about1.hears theMethod below0 = true := by decide +kernel
set_option maxRecDepth 65536 in
theorem w_ripe : about1.ripe theMethod args0 below0 = true := by decide +kernel
theorem w_running : about1.status = .running := rfl
set_option maxRecDepth 65536 in
theorem w_room : about1.hasRoom e0.platform room_1 = true :=
  launch0.hasRoom_least _ room_1 (by decide +kernel) (by decide +kernel) (by decide +kernel) (by decide +kernel) (by decide +kernel) (by decide +kernel)
theorem allAtoms_all (ts : List Jvm.Cond) (a : Array Jvm.Value) (st : Jvm.State) : (allAtoms ts).before a st = ts.all (fun c => c.before a st) := by
  induction ts with
  | nil => rfl
  | cons c t ih =>
    show (Jvm.Cond.and c (allAtoms t)).before a st = _
    rw [Jvm.Cond.before_and, ih, List.all_cons]
def words1 : List Jvm.Cond := Jvm.Cond.code x code maxLocals ret :: tables_1
/-- a 'code' word, met by the world's own term for the bytes: nothing is compared byte by byte -/
theorem code_word {y : MethodName} {bytes : ByteArray} {mx : Nat} {rt : Option FieldType} {a : Array Value} {s : State} {m : MethodId} {meth : Method} {c : Code} (h1 : s.methodNamed? y = some m) (h2 : s.vm.method? m = some meth) (h3 : meth.code = some c) (h4 : c.code = bytes)
    (h5 : (c.maxLocals == mx && c.exceptionTable.isEmpty && decide (c.maxStack ≤ mostOperands) && decide (meth.sig.returnType = rt) && !meth.locks && decide (parseMethodDescriptor y.desc = some meth.sig)) = true) : (Jvm.Cond.code y bytes mx rt).before a s = true := by
  simp only [Bool.and_eq_true, beq_iff_eq, Bool.not_eq_true', decide_eq_true_eq] at h5
  obtain ⟨⟨⟨⟨⟨g1, g2⟩, g3⟩, g4⟩, g5⟩, g6⟩ := h5
  simp [Cond.before, Cond.holds, Cond.value, h1, h2, h3, h4, g1, g2, g3, g4, g5, g6]
def isCode : Jvm.Cond → Bool
  | .code _ _ _ _ => true
  | _ => false
theorem all_split {L : List Jvm.Cond} {P : Jvm.Cond → Bool} (h1 : L.all (fun c => isCode c || P c) = true) (h2 : ∀ c ∈ L.filter isCode, P c = true) : L.all P = true := by
  refine List.all_eq_true.mpr fun c hc => ?_
  have h := List.all_eq_true.mp h1 c hc
  rcases Bool.eq_false_or_eq_true (isCode c) with hi | hi
  · exact h2 c (List.mem_filter.mpr ⟨hc, hi⟩)
  · simpa [hi] using h
set_option maxRecDepth 65536 in
theorem w_c0 : (Jvm.Cond.code x code maxLocals ret).before args0 about1 = true := code_word (m := ⟨1, 1⟩) (meth := k1m1) (c := k1c1) (by decide +kernel) rfl rfl rfl (by decide +kernel)
set_option maxRecDepth 65536 in
theorem w_c1 : (Jvm.Cond.code ({ cls := "com/example/fissure/fissure/games/breakable/Hex", name := "<init>", desc := "(II)V" } : Jvm.MethodName) prog_26_method_1_code (3 : Nat) (Option.none : Option Jvm.ClassFile.FieldType)).before args0 about1 = true := code_word (m := ⟨3, 0⟩) (meth := k3m0) (c := k3c0) (by decide +kernel) rfl rfl rfl (by decide +kernel)
set_option maxRecDepth 65536 in
theorem w_c2 : (Jvm.Cond.code ({ cls := "java/lang/Object", name := "<init>", desc := "()V" } : Jvm.MethodName) object_method_1_code (1 : Nat) (Option.none : Option Jvm.ClassFile.FieldType)).before args0 about1 = true := code_word (m := ⟨0, 0⟩) (meth := k0m0) (c := k0c0) (by decide +kernel) rfl rfl rfl (by decide +kernel)
set_option maxRecDepth 65536 in
theorem w_c3 : (Jvm.Cond.code ({ cls := "com/example/fissure/fissure/games/breakable/Hex", name := "equals", desc := "(Ljava/lang/Object;)Z" } : Jvm.MethodName) prog_26_method_6_code (3 : Nat) (Option.some Jvm.ClassFile.FieldType.boolean)).before args0 about1 = true := code_word (m := ⟨3, 1⟩) (meth := k3m1) (c := k3c1) (by decide +kernel) rfl rfl rfl (by decide +kernel)
set_option maxRecDepth 65536 in
theorem w_c4 : (Jvm.Cond.code ({ cls := "java/lang/Integer", name := "valueOf", desc := "(I)Ljava/lang/Integer;" } : Jvm.MethodName) jdk_33_method_22_code (1 : Nat) (Option.some (Jvm.ClassFile.FieldType.object "java/lang/Integer"))).before args0 about1 = true := code_word (m := ⟨8, 0⟩) (meth := k8m0) (c := k8c0) (by decide +kernel) rfl rfl rfl (by decide +kernel)
set_option maxRecDepth 65536 in
theorem w_c5 : (Jvm.Cond.code ({ cls := "java/lang/Integer", name := "<init>", desc := "(I)V" } : Jvm.MethodName) jdk_33_method_23_code (2 : Nat) (Option.none : Option Jvm.ClassFile.FieldType)).before args0 about1 = true := code_word (m := ⟨8, 1⟩) (meth := k8m1) (c := k8c1) (by decide +kernel) rfl rfl rfl (by decide +kernel)
set_option maxRecDepth 65536 in
theorem w_c6 : (Jvm.Cond.code ({ cls := "java/lang/Number", name := "<init>", desc := "()V" } : Jvm.MethodName) jdk_18_method_1_code (1 : Nat) (Option.none : Option Jvm.ClassFile.FieldType)).before args0 about1 = true := code_word (m := ⟨5, 0⟩) (meth := k5m0) (c := k5c0) (by decide +kernel) rfl rfl rfl (by decide +kernel)
def codes1 : List Jvm.Cond := [Jvm.Cond.code x code maxLocals ret, Jvm.Cond.code ({ cls := "com/example/fissure/fissure/games/breakable/Hex", name := "<init>", desc := "(II)V" } : Jvm.MethodName) prog_26_method_1_code (3 : Nat) (Option.none : Option Jvm.ClassFile.FieldType), Jvm.Cond.code ({ cls := "java/lang/Object", name := "<init>", desc := "()V" } : Jvm.MethodName) object_method_1_code (1 : Nat) (Option.none : Option Jvm.ClassFile.FieldType), Jvm.Cond.code ({ cls := "com/example/fissure/fissure/games/breakable/Hex", name := "equals", desc := "(Ljava/lang/Object;)Z" } : Jvm.MethodName) prog_26_method_6_code (3 : Nat) (Option.some Jvm.ClassFile.FieldType.boolean), Jvm.Cond.code ({ cls := "java/lang/Integer", name := "valueOf", desc := "(I)Ljava/lang/Integer;" } : Jvm.MethodName) jdk_33_method_22_code (1 : Nat) (Option.some (Jvm.ClassFile.FieldType.object "java/lang/Integer")), Jvm.Cond.code ({ cls := "java/lang/Integer", name := "<init>", desc := "(I)V" } : Jvm.MethodName) jdk_33_method_23_code (2 : Nat) (Option.none : Option Jvm.ClassFile.FieldType), Jvm.Cond.code ({ cls := "java/lang/Number", name := "<init>", desc := "()V" } : Jvm.MethodName) jdk_18_method_1_code (1 : Nat) (Option.none : Option Jvm.ClassFile.FieldType)]
set_option maxRecDepth 65536 in
theorem codes_eq : words1.filter isCode = codes1 := rfl
theorem w_codes : ∀ c ∈ words1.filter isCode, c.before args0 about1 = true := by
  rw [codes_eq]
  intro c hc
  simp only [codes1, List.mem_cons, List.not_mem_nil, or_false] at hc
  rcases hc with rfl | rfl | rfl | rfl | rfl | rfl | rfl
  · exact w_c0
  · exact w_c1
  · exact w_c2
  · exact w_c3
  · exact w_c4
  · exact w_c5
  · exact w_c6
set_option maxRecDepth 65536 in
theorem w_t1 : (words1.take 24).all (fun c => isCode c || c.before args0 about1) = true := by decide +kernel
set_option maxRecDepth 65536 in
theorem w_t2 : (words1.drop 24).all (fun c => isCode c || c.before args0 about1) = true := by decide +kernel
theorem w_tables : (allAtoms (Jvm.Cond.code x code maxLocals ret :: tables_1)).before args0 about1 = true := by
  rw [allAtoms_all]
  show words1.all (fun c => c.before args0 about1) = true
  refine all_split ?_ w_codes
  rw [← List.take_append_drop 24 words1, List.all_append, w_t1, w_t2]
  rfl
set_option maxRecDepth 65536 in
theorem w_rest : rest_1_c.before args0 about1 = true := by decide +kernel
set_option maxRecDepth 65536 in
theorem w_case : (Jvm.Cond.and given_1 narrow_1).before args0 about1 = true := by decide +kernel
theorem w_applies : (headSpec (Jvm.Cond.code x code maxLocals ret :: tables_1) room_1).applies x e0.platform about1 = true :=
  (Spec.applies_iff w_frames).mpr ⟨w_running, w_runnable, w_alone, w_named, w_hears, w_ripe, w_room, w_tables⟩
theorem atStart : AtStart classFile x code maxLocals ret World_1 tables_1 room_1 Calls_1 rest_1 Pre_1 launch0 p0 e0 about1 theMethod args0 below0 :=
  ⟨lists_1, trivial, launch0.admits_env _ _ _, launch0.least_env, fairChoices_fair.cas, fairChoices_fair.clock, w_frames, w_args, w_heap, w_applies, trivial, w_rest, w_case⟩
end start1
theorem witness_1 : WitnessClaimed_1 := ⟨start1.p0, start1.e0, start1.about1, start1.theMethod, start1.args0, start1.below0, start1.atStart⟩
end Jvm.Pilot.@@N@@
