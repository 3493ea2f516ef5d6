import JvmDerived
import JvmDerived.Pilot.@@N@@Statement
import JvmDerived.Pilot.@@N@@Code
set_option linter.unusedVariables false
set_option linter.unusedSimpArgs false
namespace Jvm.RoadKit
open Sem ClassFile Op Lib Jvm.Stand Jvm.Free Jvm.LawKit
section New
variable {p : Program} {l : Launch} {e : Env} {R : Room} {s : State} {m : MethodId} {args : Array Value} {below : List Frame} {meth : Method} {c : Code} {T : State} {locs : List Loc} {cells slots : Nat}
theorem retI (X : Stand p l e R s m args below meth c T locs cells slots) (hx : p.tables.exec = Jvm.exec) {pc : Nat} {Ls : Array Slot} {z : Int32} {rest : List Value} (hret : meth.sig.returnType = some .int) (hd : decode c.code pc = .ok (.ireturn, 1)) {fs : List Frame}
    (hl : ∀ (f : JFrame) (acts : List Action), f.method = m → f.locked = none → f.entered = [] → (doReturn e (T.setTop f) acts (some (.int z))).1 = T.setFrames fs) : Steps p.tables e below (T.setTop (mkF m pc Ls (.int z :: rest))) (T.setFrames fs) := by
  have hm' : T.vm.method? m = some meth := X.method'
  have hn : narrow .int (.int z) = .int z := rfl
  show Steps p.tables e below (T.setTop { method := m, pc := pc, locals := Ls, stack := _ :: rest, locked := none }) _
  jvm_step X.here [X.here.top, hx, hd, hm', hret, hn]
  first | (intro acts; rw [hl _ acts rfl rfl rfl]) | rw [hl _ _ rfl rfl rfl]
  exact Steps.refl _
theorem retA (X : Stand p l e R s m args below meth c T locs cells slots) (hx : p.tables.exec = Jvm.exec) {pc : Nat} {Ls : Array Slot} {w : Value} {t : FieldType} {rest : List Value} (hret : meth.sig.returnType = some t) (ht : t.isReference = true) (hw : w.isRef = true) (hn : narrow t w = w) (hd : decode c.code pc = .ok (.areturn, 1)) {fs : List Frame}
    (hl : ∀ (f : JFrame) (acts : List Action), f.method = m → f.locked = none → f.entered = [] → (doReturn e (T.setTop f) acts (some w)).1 = T.setFrames fs) : Steps p.tables e below (T.setTop (mkF m pc Ls (w :: rest))) (T.setFrames fs) :=
  retOut X hx hret hn (Or.inr (Or.inr (Or.inr (Or.inr ⟨rfl, ht, hw⟩)))) hd hl
end New
/-- all that was there is there still: a write to a cell above -/
theorem own_ext_wr {h0 h h' : Heap} {a : Addr} {sl : Nat} {v : Value} (E : Ext h0 h) (W : Wr h h' a sl v) (q : h0.size ≤ a) : Ext h0 h' := by
  refine ⟨Nat.le_trans E.1 (Keep.of_wr W).1, fun x c hc => (Keep.of_wr W).2.1 x c (E.2 x c hc) fun hm => ?_⟩
  cases List.mem_singleton.mp hm
  exact absurd (Array.getElem?_eq_some_iff.mp hc).1 (Nat.not_lt.mpr q)
theorem own_ext_keep {h0 h h' : Heap} {ws : List Addr} (E : Ext h0 h) (K : Keep h h' ws) (q : ∀ x ∈ ws, h0.size ≤ x) : Ext h0 h' :=
  ⟨Nat.le_trans E.1 K.1, fun x c hc => K.2.1 x c (E.2 x c hc) fun hm => absurd (Array.getElem?_eq_some_iff.mp hc).1 (Nat.not_lt.mpr (q x hm))⟩
theorem own_ext_trans {h0 h h' : Heap} (E : Ext h0 h) (E' : Ext h h') : Ext h0 h' := ⟨Nat.le_trans E.1 E'.1, fun x c hc => E'.2 x c (E.2 x c hc)⟩
theorem own_ext_refl (h : Heap) : Ext h h := ⟨Nat.le_refl _, fun _ _ q => q⟩
/-- a static that holds an object of this very class -/
theorem own_sta {Z : State} {a0 : Array Value} {C n d K : String} (wi : (Cond.initialized C).before a0 Z = true) (wl : (Cond.laysStatic C n d).before a0 Z = true) (hx : (Cond.exactly (.static C n d) K).value a0 Z none Z [] = some true) :
    ∃ w, (Term.static C n d).eval a0 Z none [] Z = some (.ref w) ∧ Sta Z Z.heap C n d (.ref w) ∧ Exa Z Z.heap w K := by
  obtain ⟨w, ev⟩ := exa_v hx
  exact ⟨w, ev, Sta.start ev (Or.inr ⟨wi, wl⟩), Exa.start ev hx⟩
/-- a field of an object that a term names, by an 'eq' of ints -/
theorem own_fld {Z : State} {a0 : Array Value} {t : Term} {w : Addr} {C n d : String} {k : Int32} (ev : t.eval a0 Z none [] Z = some (.ref w)) (h : (Cond.eq (.field t C n d) (.int k)).value a0 Z none Z [] = some true) : Fld Z Z.heap w C n d (.int k) :=
  Fld.start ((fld_at ev).symm.trans (eqv_i (F := .int k) rfl h))
end Jvm.RoadKit
namespace Jvm.RoadKit
open Sem ClassFile Op Lib Jvm.Stand Jvm.Free Jvm.LawKit
theorem own_fldR {Z : State} {a0 : Array Value} {t u : Term} {w w' : Addr} {C n d : String} (ev : t.eval a0 Z none [] Z = some (.ref w)) (eu : u.eval a0 Z none [] Z = some (.ref w')) (h : (Cond.eq (.field t C n d) u).value a0 Z none Z [] = some true) : Fld Z Z.heap w C n d (.ref w') := by
  refine Fld.start ((fld_at ev).symm.trans ?_)
  obtain ⟨x, y, hx, hy, -, -⟩ := cmp_v (Or.inl h)
  cases eu.symm.trans hy
  simp only [Cond.value, hx, hy] at h
  cases x <;> simp at h
  rw [hx, h]
theorem own_staA {Z : State} {a0 : Array Value} {C n d : String} {ty : FieldType} (wi : (Cond.initialized C).before a0 Z = true) (wl : (Cond.laysStatic C n d).before a0 Z = true) (hx : (Cond.arrayOf (.static C n d) ty).value a0 Z none Z [] = some true) :
    ∃ w, (Term.static C n d).eval a0 Z none [] Z = some (.ref w) ∧ Sta Z Z.heap C n d (.ref w) ∧ ∃ c, Arr Z Z.heap w c ty := by
  obtain ⟨w, ev⟩ := arr_v hx
  exact ⟨w, ev, Sta.start ev (Or.inr ⟨wi, wl⟩), Arr.start ev hx⟩
theorem own_len {Z : State} {a0 : Array Value} {t : Term} {w : Addr} {c : Cell} {ty : FieldType} {k : Int32} {n : Nat} (ev : t.eval a0 Z none [] Z = some (.ref w)) (A : Arr Z Z.heap w c ty) (h : (Cond.eq (.length t) (.int k)).value a0 Z none Z [] = some true) (hk : k.toInt = n) : c.slots.size = n := by
  have e := eqv_i (F := .int k) rfl h
  have ha : Z.arrayAt? w = some c := Arr.fin (Vm.Alike.refl _) A
  simp only [Term.eval, ev, ha, Option.bind_eq_bind, Option.bind_some] at e
  split at e
  · rename_i hl
    have q : c.slots.size.toInt32 = k := by simpa using e
    have q2 := len_toInt hl
    rw [q, hk] at q2
    omega
  · cases e
theorem own_elem {Z : State} {a0 : Array Value} {t : Term} {w : Addr} {c : Cell} {ty : FieldType} {k : Int32} {n : Nat} {v : Value} (ev : t.eval a0 Z none [] Z = some (.ref w)) (A : Arr Z Z.heap w c ty) (h : (Term.elem t (.int k)).eval a0 Z none [] Z = some v) (hk : k.toNatClampNeg = n) : c.slots[n]? = some v := by
  have q := (elem_in h ev (j := k) rfl A.1).2
  rw [hk] at q; exact q
theorem own_elN {Z : State} {a0 : Array Value} {t : Term} {w : Addr} {c : Cell} {ty : FieldType} {k : Int32} {n : Nat} (ev : t.eval a0 Z none [] Z = some (.ref w)) (A : Arr Z Z.heap w c ty) (h : (Cond.eq (.elem t (.int k)) .null).value a0 Z none Z [] = some true) (hk : k.toNatClampNeg = n) : c.slots[n]? = some .null := own_elem ev A (null_v h) hk
theorem own_elI {Z : State} {a0 : Array Value} {t : Term} {w : Addr} {c : Cell} {ty : FieldType} {k i : Int32} {n : Nat} (ev : t.eval a0 Z none [] Z = some (.ref w)) (A : Arr Z Z.heap w c ty) (h : (Cond.eq (.elem t (.int k)) (.int i)).value a0 Z none Z [] = some true) (hk : k.toNatClampNeg = n) : c.slots[n]? = some (.int i) := own_elem ev A (eqv_i (F := .int i) rfl h) hk
theorem own_elR {Z : State} {a0 : Array Value} {t u : Term} {w w' : Addr} {c : Cell} {ty : FieldType} {k : Int32} {n : Nat} (ev : t.eval a0 Z none [] Z = some (.ref w)) (A : Arr Z Z.heap w c ty) (eu : u.eval a0 Z none [] Z = some (.ref w')) (h : (Cond.eq (.elem t (.int k)) u).value a0 Z none Z [] = some true) (hk : k.toNatClampNeg = n) : c.slots[n]? = some (.ref w') := by
  refine own_elem ev A ?_ hk
  obtain ⟨x, y, hx, hy, -, -⟩ := cmp_v (Or.inl h)
  cases eu.symm.trans hy
  simp only [Cond.value, hx, hy] at h
  cases x <;> simp at h
  rw [hx, h]
end Jvm.RoadKit
namespace Jvm.RoadKit
open Sem ClassFile Op Lib Jvm.Stand Jvm.Free Jvm.LawKit
theorem own_ns_root {Z : State} {a0 : Array Value} {O K : String} {n : Nat} (w : (Cond.noSuperclass O).before a0 Z = true) (wi : (Cond.instantiable K n).before a0 Z = true) (hn : O ≠ K) : NS Z O K := by
  obtain ⟨c, k, h1, h2, h3, -, -⟩ := Cond.noSuperclass_spec w
  obtain ⟨t, kt, g1, -⟩ := Cond.instantiable_spec wi
  have ne := ids_ne h1 g1 hn
  refine ⟨c, t, h1, g1, fun fuel => ?_⟩
  cases fuel with
  | zero => rfl
  | succ f => simp [Vm.isSubclassAux, ne, h2, h3]
/-- an object of a class below others is none of a class K that stands aside -/
theorem own_ns_no {Z : State} {a0 : Array Value} {C S K : String} {n : Nat} (w : (Cond.superclass C S).before a0 Z = true) (wi : (Cond.instantiable K n).before a0 Z = true) (ns : NS Z C K) (hn : C ≠ K) : ∃ c t, Z.vm.findClass C = some c ∧ Z.vm.findClass K = some t ∧ Z.vm.assignable c t = false := by
  obtain ⟨c, t, h0, g0, n3⟩ := ns
  obtain ⟨p, k, kp, h1, h2, h3, h4, h5, -, h7⟩ := Cond.superclass_spec h0 w
  obtain ⟨t', kt, g1, g2, g3, g4, -⟩ := Cond.instantiable_spec wi
  cases g0.symm.trans g1
  have ne := ids_ne h0 g0 hn
  have g5 : kt.isInterface = false := by
    cases hq : kt.isInterface
    · rfl
    · rw [hq] at g4; cases g4
  refine ⟨c, t, h0, g0, ?_⟩
  show Z.vm.assignableAux (255 + 1) c t = false
  simp [Vm.assignableAux, ne, h2, g2, h5, g3, g5, Vm.isSubclass, n3]
end Jvm.RoadKit
namespace Jvm.Pilot.@@N@@
open Jvm Jvm.ClassFile Sem Op Lib Jvm.Free Jvm.Stand Jvm.LawKit Jvm.RoadKit Bundle Jvm.Pilot.@@N@@.Jvm.D
theorem ef_init (m : MethodId) (a : Addr) (i : Int32) (j : Int32) : entryFrame m #[(.ref a), (.int i), (.int j)] 3 = mkF m 0 #[.val (.ref a), .val (.int i), .val (.int j)] [] := by first | (simp [entryFrame, mkF, argsToLocals, Value.category]; done) | rfl
def Q_init (Z : State) (a : Addr) (i : Int32) (j : Int32) (o_x : Value) (o_y : Value) (o_z : Value) (h0 : Heap) (n0 : Nat) (v : Option Value) (h : Heap) (L : List Loc) : Prop := v = none ∧ Fr n0 L ∧ Keep h0 h [a] ∧ Exa Z h a "com/example/fissure/fissure/games/breakable/Cube" ∧ Fld Z h a "com/example/fissure/fissure/games/breakable/Cube" "x" "I" (.int i) ∧ Fld Z h a "com/example/fissure/fissure/games/breakable/Cube" "z" "I" (.int j)
theorem pn_0 : plainName "com/example/fissure/fissure/games/breakable/Cube" = true := by first | (simp [plainName, overriddenIn]; done) | decide +kernel
theorem d1_0 : decode prog_23_method_1_code 0 = .ok (.aload_n 0, 1) := by decide +kernel
theorem d1_1 : decode prog_23_method_1_code 1 = .ok (.invokespecial 1, 3) := by decide +kernel
theorem d1_4 : decode prog_23_method_1_code 4 = .ok (.aload_n 0, 1) := by decide +kernel
theorem d1_5 : decode prog_23_method_1_code 5 = .ok (.iload_n 1, 1) := by decide +kernel
theorem d1_6 : decode prog_23_method_1_code 6 = .ok (.putfield 7, 3) := by decide +kernel
theorem d1_9 : decode prog_23_method_1_code 9 = .ok (.aload_n 0, 1) := by decide +kernel
theorem d1_10 : decode prog_23_method_1_code 10 = .ok (.iload_n 1, 1) := by decide +kernel
theorem d1_11 : decode prog_23_method_1_code 11 = .ok (.ineg, 1) := by decide +kernel
theorem d1_12 : decode prog_23_method_1_code 12 = .ok (.iload_n 2, 1) := by decide +kernel
theorem d1_13 : decode prog_23_method_1_code 13 = .ok (.isub, 1) := by decide +kernel
theorem d1_14 : decode prog_23_method_1_code 14 = .ok (.putfield 13, 3) := by decide +kernel
theorem d1_17 : decode prog_23_method_1_code 17 = .ok (.aload_n 0, 1) := by decide +kernel
theorem d1_18 : decode prog_23_method_1_code 18 = .ok (.iload_n 2, 1) := by decide +kernel
theorem d1_19 : decode prog_23_method_1_code 19 = .ok (.putfield 16, 3) := by decide +kernel
theorem d1_22 : decode prog_23_method_1_code 22 = .ok (.return_, 1) := by decide +kernel
set_option maxRecDepth 65536 in
set_option maxHeartbeats 40000000 in
theorem rm_init (l : Launch) (Z : State) (a0 : Array Value) (hw : ∀ d ∈ tables_1, d.before a0 Z = true) (ws : List Jvm.Cond) (a : Addr) (i : Int32) (j : Int32) (o_x : Value) (o_y : Value) (o_z : Value) (h0 : Heap) (n0 : Nat) (Z0 : n0 ≤ h0.size) (E_a : Exa Z h0 a "com/example/fissure/fissure/games/breakable/Cube") (gg_a : n0 ≤ a) (F_x : Fld Z h0 a "com/example/fissure/fissure/games/breakable/Cube" "x" "I" o_x) (F_y : Fld Z h0 a "com/example/fissure/fissure/games/breakable/Cube" "y" "I" o_y) (F_z : Fld Z h0 a "com/example/fissure/fissure/games/breakable/Cube" "z" "I" o_z) :
    MetFree l (⟨"com/example/fissure/fissure/games/breakable/Cube", "<init>", "(II)V"⟩ : MethodName) (head1 (Jvm.Cond.code (⟨"com/example/fissure/fissure/games/breakable/Cube", "<init>", "(II)V"⟩ : MethodName) prog_23_method_1_code 3 none :: ws) ({ frames := 1, cells := 0, slots := 0, locals := 12 } : Room)) (fun a_ U_ => a_ = #[(.ref a), (.int i), (.int j)] ∧ Z.Warmed39 U_.vm ∧ U_.heap = h0) (fun _ _ _ _ _ => True) (fun _ U_ o_ V_ => ∃ v_ L_, o_ = .returned v_ ∧ Q_init Z a i j o_x o_y o_z h0 n0 v_ V_.heap L_ ∧ FrameEnd U_ o_ V_ L_ ({ frames := 1, cells := 0, slots := 0, locals := 12 } : Room).cells ({ frames := 1, cells := 0, slots := 0, locals := 12 } : Room).slots) := by
  refine MetFree.of_bodySF (plainFor_of_name pn_0) hisR ?_
  intro p e s m args below meth c s₁ Bd hml0 hP hK
  obtain ⟨rfl, hZ, hh⟩ := hP
  have hx := Bd.exec
  have hby := Bd.bytes
  have hml : c.maxLocals = 3 := hml0
  have hown : s.vm.findClass "com/example/fissure/fissure/games/breakable/Cube" = some m.cls := findClass_of_methodNamed Bd.named
  have hnm := (name_of_methodNamed Bd.named Bd.method).1
  have X0 : Stand p l e ({ frames := 1, cells := 0, slots := 0, locals := 12 } : Room) s m #[(.ref a), (.int i), (.int j)] below meth c s₁ [] 0 0 := Stand.of_body Bd
  have e0 : s₁.heap = h0 := by rw [← hh, Bd.state]; rfl
  have N0 := Fr.nil n0
  have pre0 : ∀ t_, Steps p.tables e below (s₁.setTop (mkF m 0 #[.val (.ref a), .val (.int i), .val (.int j)] [])) t_ → Steps p.tables e below (s₁.setTop (entryFrame m #[(.ref a), (.int i), (.int j)] 3)) t_ := fun t_ k_ => castTop (ef_init m a i j) k_
  have O0 := own_ext_refl h0
  have K0 := Keep.refl h0 [a]
  obtain ⟨T1, X1, e1, st1⟩ := initO X0 hx hZ hown (hw _ (List.mem_of_getElem? (i := 6) rfl)) (hw _ (List.mem_of_getElem? (i := 7) rfl)) (hw _ (List.mem_of_getElem? (i := 8) rfl)) e0 (g := (mkF m 1 #[.val (.ref a), .val (.int i), .val (.int j)] [(.ref a)])) rfl (by rw [hml]; rfl) rfl (hb hby d1_1) (by decide) (W := 0) (by show 2 * 0 + _ ≤ _; exact Nat.le_of_eq rfl) (by decide)
  obtain ⟨T2, h2, X2, e2, W2, st2⟩ := putF X1 hx hZ hown (host := "") (Or.inl (hw _ (List.mem_of_getElem? (i := 9) rfl))) Via.refl e1 F_x E_a (Or.inr ⟨(hw _ (List.mem_of_getElem? (i := 10) rfl)), rfl, hnm⟩) (hw _ (List.mem_of_getElem? (i := 1) rfl)) (ty := .int) (by decide) rfl rfl (g := (mkF m 6 #[.val (.ref a), .val (.int i), .val (.int j)] [(.int i), (.ref a)])) rfl rfl (hb hby d1_6)
  have N2 := Fr.snoc X2 N0 gg_a
  have K2 := Keep.wr K0 W2 (Or.inl (List.mem_of_getElem? (i := 0) rfl))
  have Zs2 := Nat.le_trans Z0 (Keep.of_wr W2).1
  have c3 : Exa Z h2 a "com/example/fissure/fissure/games/breakable/Cube" := E_a.wr W2
  have c4 : Fld Z h2 a "com/example/fissure/fissure/games/breakable/Cube" "x" "I" (.int i) := F_x.same W2
  have c5 : Fld Z h2 a "com/example/fissure/fissure/games/breakable/Cube" "y" "I" o_y := F_y.other W2 (Or.inr (slot_ne (Or.inr (hw _ (List.mem_of_getElem? (i := 12) rfl))) (Or.inr (hw _ (List.mem_of_getElem? (i := 10) rfl))) (by decide) (t := .int) (t' := .int) (by decide) (by decide)))
  have c6 : Fld Z h2 a "com/example/fissure/fissure/games/breakable/Cube" "z" "I" o_z := F_z.other W2 (Or.inr (slot_ne (Or.inr (hw _ (List.mem_of_getElem? (i := 14) rfl))) (Or.inr (hw _ (List.mem_of_getElem? (i := 10) rfl))) (by decide) (t := .int) (t' := .int) (by decide) (by decide)))
  obtain ⟨T7, h7, X7, e7, W7, st7⟩ := putF X2 hx hZ hown (host := "") (Or.inl (hw _ (List.mem_of_getElem? (i := 11) rfl))) Via.refl e2 c5 c3 (Or.inr ⟨(hw _ (List.mem_of_getElem? (i := 12) rfl)), rfl, hnm⟩) (hw _ (List.mem_of_getElem? (i := 1) rfl)) (ty := .int) (by decide) rfl rfl (g := (mkF m 14 #[.val (.ref a), .val (.int i), .val (.int j)] [(.int ((-i) - j)), (.ref a)])) rfl rfl (hb hby d1_14)
  have N7 := Fr.snoc X7 N2 gg_a
  have K7 := Keep.wr K2 W7 (Or.inl (List.mem_of_getElem? (i := 0) rfl))
  have Zs7 := Nat.le_trans Zs2 (Keep.of_wr W7).1
  have c8 : Exa Z h7 a "com/example/fissure/fissure/games/breakable/Cube" := c3.wr W7
  have c9 : Fld Z h7 a "com/example/fissure/fissure/games/breakable/Cube" "x" "I" (.int i) := c4.other W7 (Or.inr (slot_ne (Or.inr (hw _ (List.mem_of_getElem? (i := 10) rfl))) (Or.inr (hw _ (List.mem_of_getElem? (i := 12) rfl))) (by decide) (t := .int) (t' := .int) (by decide) (by decide)))
  have c10 : Fld Z h7 a "com/example/fissure/fissure/games/breakable/Cube" "y" "I" (.int ((-i) - j)) := c5.same W7
  have c11 : Fld Z h7 a "com/example/fissure/fissure/games/breakable/Cube" "z" "I" o_z := c6.other W7 (Or.inr (slot_ne (Or.inr (hw _ (List.mem_of_getElem? (i := 14) rfl))) (Or.inr (hw _ (List.mem_of_getElem? (i := 12) rfl))) (by decide) (t := .int) (t' := .int) (by decide) (by decide)))
  obtain ⟨T12, h12, X12, e12, W12, st12⟩ := putF X7 hx hZ hown (host := "") (Or.inl (hw _ (List.mem_of_getElem? (i := 13) rfl))) Via.refl e7 c11 c8 (Or.inr ⟨(hw _ (List.mem_of_getElem? (i := 14) rfl)), rfl, hnm⟩) (hw _ (List.mem_of_getElem? (i := 1) rfl)) (ty := .int) (by decide) rfl rfl (g := (mkF m 19 #[.val (.ref a), .val (.int i), .val (.int j)] [(.int j), (.ref a)])) rfl rfl (hb hby d1_19)
  have N12 := Fr.snoc X12 N7 gg_a
  have K12 := Keep.wr K7 W12 (Or.inl (List.mem_of_getElem? (i := 0) rfl))
  have Zs12 := Nat.le_trans Zs7 (Keep.of_wr W12).1
  have c13 : Exa Z h12 a "com/example/fissure/fissure/games/breakable/Cube" := c8.wr W12
  have c14 : Fld Z h12 a "com/example/fissure/fissure/games/breakable/Cube" "x" "I" (.int i) := c9.other W12 (Or.inr (slot_ne (Or.inr (hw _ (List.mem_of_getElem? (i := 10) rfl))) (Or.inr (hw _ (List.mem_of_getElem? (i := 14) rfl))) (by decide) (t := .int) (t' := .int) (by decide) (by decide)))
  have c15 : Fld Z h12 a "com/example/fissure/fissure/games/breakable/Cube" "y" "I" (.int ((-i) - j)) := c10.other W12 (Or.inr (slot_ne (Or.inr (hw _ (List.mem_of_getElem? (i := 12) rfl))) (Or.inr (hw _ (List.mem_of_getElem? (i := 14) rfl))) (by decide) (t := .int) (t' := .int) (by decide) (by decide)))
  have c16 : Fld Z h12 a "com/example/fissure/fissure/games/breakable/Cube" "z" "I" (.int j) := c11.same W12
  have pre17 : ∀ t_, Steps p.tables e below (T12.setTop (mkF m 22 #[.val (.ref a), .val (.int i), .val (.int j)] [])) t_ → Steps p.tables e below (s₁.setTop (entryFrame m #[(.ref a), (.int i), (.int j)] 3)) t_ := fun t_ k_ => pre0 t_ (by
    show Steps p.tables e below (s₁.setTop (mkF m 0 #[.val (.ref a), .val (.int i), .val (.int j)] [])) _
    refine XS.aloadN X0.here hx rfl (hb hby d1_0) rfl rfl ?_
    show Steps p.tables e below (s₁.setTop (mkF m 1 #[.val (.ref a), .val (.int i), .val (.int j)] [(.ref a)])) _
    refine st1 _ ?_
    show Steps p.tables e below (T1.setTop (mkF m 4 #[.val (.ref a), .val (.int i), .val (.int j)] [])) _
    refine XS.aloadN X1.here hx rfl (hb hby d1_4) rfl rfl ?_
    show Steps p.tables e below (T1.setTop (mkF m 5 #[.val (.ref a), .val (.int i), .val (.int j)] [(.ref a)])) _
    refine XS.iloadN X1.here hx rfl (hb hby d1_5) rfl ?_
    show Steps p.tables e below (T1.setTop (mkF m 6 #[.val (.ref a), .val (.int i), .val (.int j)] [(.int i), (.ref a)])) _
    refine st2 _ ?_
    show Steps p.tables e below (T2.setTop (mkF m 9 #[.val (.ref a), .val (.int i), .val (.int j)] [])) _
    refine XS.aloadN X2.here hx rfl (hb hby d1_9) rfl rfl ?_
    show Steps p.tables e below (T2.setTop (mkF m 10 #[.val (.ref a), .val (.int i), .val (.int j)] [(.ref a)])) _
    refine XS.iloadN X2.here hx rfl (hb hby d1_10) rfl ?_
    show Steps p.tables e below (T2.setTop (mkF m 11 #[.val (.ref a), .val (.int i), .val (.int j)] [(.int i), (.ref a)])) _
    refine XS.ineg X2.here hx rfl (hb hby d1_11) rfl ?_
    show Steps p.tables e below (T2.setTop (mkF m 12 #[.val (.ref a), .val (.int i), .val (.int j)] [(.int (-i)), (.ref a)])) _
    refine XS.iloadN X2.here hx rfl (hb hby d1_12) rfl ?_
    show Steps p.tables e below (T2.setTop (mkF m 13 #[.val (.ref a), .val (.int i), .val (.int j)] [(.int j), (.int (-i)), (.ref a)])) _
    refine XS.isub X2.here hx rfl (hb hby d1_13) rfl ?_
    show Steps p.tables e below (T2.setTop (mkF m 14 #[.val (.ref a), .val (.int i), .val (.int j)] [(.int ((-i) - j)), (.ref a)])) _
    refine st7 _ ?_
    show Steps p.tables e below (T7.setTop (mkF m 17 #[.val (.ref a), .val (.int i), .val (.int j)] [])) _
    refine XS.aloadN X7.here hx rfl (hb hby d1_17) rfl rfl ?_
    show Steps p.tables e below (T7.setTop (mkF m 18 #[.val (.ref a), .val (.int i), .val (.int j)] [(.ref a)])) _
    refine XS.iloadN X7.here hx rfl (hb hby d1_18) rfl ?_
    show Steps p.tables e below (T7.setTop (mkF m 19 #[.val (.ref a), .val (.int i), .val (.int j)] [(.int j), (.ref a)])) _
    refine st12 _ ?_
    show Steps p.tables e below (T12.setTop (mkF m 22 #[.val (.ref a), .val (.int i), .val (.int j)] [])) _
    exact k_)
  obtain ⟨fs, hr, hrun, hended, hW, hsame⟩ := X12.leave (v := none) (fun _ => rfl)
  refine ⟨_, _, pre17 _ ?_, hrun, hended, _, _, rfl, ?_, ⟨_, rfl⟩, hW, hsame.mono (by decide) (by decide)⟩
  · show Steps p.tables e below (T12.setTop (mkF m 22 #[.val (.ref a), .val (.int i), .val (.int j)] [])) _
    exact X12.returnOut hx Bd.returns (hb hby d1_22) hr
  · show Q_init Z a i j o_x o_y o_z h0 n0 _ T12.heap _
    rw [e12]
    exact ⟨rfl, N12, K12, c13, c14, c16⟩
theorem ef_num (m : MethodId) (a : Addr) : entryFrame m #[(.ref a)] 1 = mkF m 0 #[.val (.ref a)] [] := by first | (simp [entryFrame, mkF, argsToLocals, Value.category]; done) | rfl
def Q_num (Z : State) (a : Addr) (h0 : Heap) (n0 : Nat) (v : Option Value) (h : Heap) (L : List Loc) : Prop := v = none ∧ Fr n0 L ∧ h = h0
theorem pn_1 : plainName "java/lang/Number" = true := by first | (simp [plainName, overriddenIn]; done) | decide +kernel
theorem d6_0 : decode jdk_18_method_1_code 0 = .ok (.aload_n 0, 1) := by decide +kernel
theorem d6_1 : decode jdk_18_method_1_code 1 = .ok (.invokespecial 1, 3) := by decide +kernel
theorem d6_4 : decode jdk_18_method_1_code 4 = .ok (.return_, 1) := by decide +kernel
set_option maxRecDepth 65536 in
set_option maxHeartbeats 40000000 in
theorem rm_num (l : Launch) (Z : State) (a0 : Array Value) (hw : ∀ d ∈ tables_1, d.before a0 Z = true) (ws : List Jvm.Cond) (a : Addr) (h0 : Heap) (n0 : Nat) (Z0 : n0 ≤ h0.size) :
    MetFree l (⟨"java/lang/Number", "<init>", "()V"⟩ : MethodName) (head1 (Jvm.Cond.code (⟨"java/lang/Number", "<init>", "()V"⟩ : MethodName) jdk_18_method_1_code 1 none :: ws) ({ frames := 1, cells := 0, slots := 0, locals := 12 } : Room)) (fun a_ U_ => a_ = #[(.ref a)] ∧ Z.Warmed39 U_.vm ∧ U_.heap = h0) (fun _ _ _ _ _ => True) (fun _ U_ o_ V_ => ∃ v_ L_, o_ = .returned v_ ∧ Q_num Z a h0 n0 v_ V_.heap L_ ∧ FrameEnd U_ o_ V_ L_ ({ frames := 1, cells := 0, slots := 0, locals := 12 } : Room).cells ({ frames := 1, cells := 0, slots := 0, locals := 12 } : Room).slots) := by
  refine MetFree.of_bodySF (plainFor_of_name pn_1) hisR ?_
  intro p e s m args below meth c s₁ Bd hml0 hP hK
  obtain ⟨rfl, hZ, hh⟩ := hP
  have hx := Bd.exec
  have hby := Bd.bytes
  have hml : c.maxLocals = 1 := hml0
  have hown : s.vm.findClass "java/lang/Number" = some m.cls := findClass_of_methodNamed Bd.named
  have hnm := (name_of_methodNamed Bd.named Bd.method).1
  have X0 : Stand p l e ({ frames := 1, cells := 0, slots := 0, locals := 12 } : Room) s m #[(.ref a)] below meth c s₁ [] 0 0 := Stand.of_body Bd
  have e0 : s₁.heap = h0 := by rw [← hh, Bd.state]; rfl
  have N0 := Fr.nil n0
  have pre0 : ∀ t_, Steps p.tables e below (s₁.setTop (mkF m 0 #[.val (.ref a)] [])) t_ → Steps p.tables e below (s₁.setTop (entryFrame m #[(.ref a)] 1)) t_ := fun t_ k_ => castTop (ef_num m a) k_
  obtain ⟨T18, X18, e18, st18⟩ := initO X0 hx hZ hown (hw _ (List.mem_of_getElem? (i := 40) rfl)) (hw _ (List.mem_of_getElem? (i := 7) rfl)) (hw _ (List.mem_of_getElem? (i := 8) rfl)) e0 (g := (mkF m 1 #[.val (.ref a)] [(.ref a)])) rfl (by rw [hml]; rfl) rfl (hb hby d6_1) (by decide) (W := 0) (by show 2 * 0 + _ ≤ _; exact Nat.le_of_eq rfl) (by decide)
  have pre19 : ∀ t_, Steps p.tables e below (T18.setTop (mkF m 4 #[.val (.ref a)] [])) t_ → Steps p.tables e below (s₁.setTop (entryFrame m #[(.ref a)] 1)) t_ := fun t_ k_ => pre0 t_ (by
    show Steps p.tables e below (s₁.setTop (mkF m 0 #[.val (.ref a)] [])) _
    refine XS.aloadN X0.here hx rfl (hb hby d6_0) rfl rfl ?_
    show Steps p.tables e below (s₁.setTop (mkF m 1 #[.val (.ref a)] [(.ref a)])) _
    refine st18 _ ?_
    show Steps p.tables e below (T18.setTop (mkF m 4 #[.val (.ref a)] [])) _
    exact k_)
  obtain ⟨fs, hr, hrun, hended, hW, hsame⟩ := X18.leave (v := none) (fun _ => rfl)
  refine ⟨_, _, pre19 _ ?_, hrun, hended, _, _, rfl, ?_, ⟨_, rfl⟩, hW, hsame.mono (by decide) (by decide)⟩
  · show Steps p.tables e below (T18.setTop (mkF m 4 #[.val (.ref a)] [])) _
    exact X18.returnOut hx Bd.returns (hb hby d6_4) hr
  · show Q_num Z a h0 n0 _ T18.heap _
    rw [e18]
    exact ⟨rfl, N0, rfl⟩
theorem ef_iinit (m : MethodId) (a : Addr) (i : Int32) : entryFrame m #[(.ref a), (.int i)] 2 = mkF m 0 #[.val (.ref a), .val (.int i)] [] := by first | (simp [entryFrame, mkF, argsToLocals, Value.category]; done) | rfl
def Q_iinit (Z : State) (a : Addr) (i : Int32) (o_value : Value) (h0 : Heap) (n0 : Nat) (v : Option Value) (h : Heap) (L : List Loc) : Prop := v = none ∧ Fr n0 L ∧ Keep h0 h [a] ∧ Exa Z h a "java/lang/Integer" ∧ Fld Z h a "java/lang/Integer" "value" "I" (.int i)
theorem pn_2 : plainName "java/lang/Integer" = true := by first | (simp [plainName, overriddenIn]; done) | decide +kernel
theorem d5_0 : decode jdk_33_method_23_code 0 = .ok (.aload_n 0, 1) := by decide +kernel
theorem d5_1 : decode jdk_33_method_23_code 1 = .ok (.invokespecial 202, 3) := by decide +kernel
theorem pd_0 : parseMethodDescriptor "()V" = some ⟨[], none⟩ := by decide +kernel
theorem d5_4 : decode jdk_33_method_23_code 4 = .ok (.aload_n 0, 1) := by decide +kernel
theorem d5_5 : decode jdk_33_method_23_code 5 = .ok (.iload_n 1, 1) := by decide +kernel
theorem d5_6 : decode jdk_33_method_23_code 6 = .ok (.putfield 205, 3) := by decide +kernel
theorem d5_9 : decode jdk_33_method_23_code 9 = .ok (.return_, 1) := by decide +kernel
set_option maxRecDepth 65536 in
set_option maxHeartbeats 40000000 in
theorem rm_iinit (l : Launch) (Z : State) (a0 : Array Value) (hw : ∀ d ∈ tables_1, d.before a0 Z = true) (ws : List Jvm.Cond) (a : Addr) (i : Int32) (o_value : Value) (h0 : Heap) (n0 : Nat) (Z0 : n0 ≤ h0.size) (E_a : Exa Z h0 a "java/lang/Integer") (gg_a : n0 ≤ a) (F_value : Fld Z h0 a "java/lang/Integer" "value" "I" o_value) :
    MetFree l (⟨"java/lang/Integer", "<init>", "(I)V"⟩ : MethodName) (head1 (Jvm.Cond.code (⟨"java/lang/Integer", "<init>", "(I)V"⟩ : MethodName) jdk_33_method_23_code 2 none :: ws) ({ frames := 2, cells := 0, slots := 0, locals := 24 } : Room)) (fun a_ U_ => a_ = #[(.ref a), (.int i)] ∧ Z.Warmed39 U_.vm ∧ U_.heap = h0) (fun _ _ _ _ _ => True) (fun _ U_ o_ V_ => ∃ v_ L_, o_ = .returned v_ ∧ Q_iinit Z a i o_value h0 n0 v_ V_.heap L_ ∧ FrameEnd U_ o_ V_ L_ ({ frames := 2, cells := 0, slots := 0, locals := 24 } : Room).cells ({ frames := 2, cells := 0, slots := 0, locals := 24 } : Room).slots) := by
  refine MetFree.of_bodySF (plainFor_of_name pn_2) hisR ?_
  intro p e s m args below meth c s₁ Bd hml0 hP hK
  obtain ⟨rfl, hZ, hh⟩ := hP
  have hx := Bd.exec
  have hby := Bd.bytes
  have hml : c.maxLocals = 2 := hml0
  have hown : s.vm.findClass "java/lang/Integer" = some m.cls := findClass_of_methodNamed Bd.named
  have hnm := (name_of_methodNamed Bd.named Bd.method).1
  have X0 : Stand p l e ({ frames := 2, cells := 0, slots := 0, locals := 24 } : Room) s m #[(.ref a), (.int i)] below meth c s₁ [] 0 0 := Stand.of_body Bd
  have e0 : s₁.heap = h0 := by rw [← hh, Bd.state]; rfl
  have N0 := Fr.nil n0
  have pre0 : ∀ t_, Steps p.tables e below (s₁.setTop (mkF m 0 #[.val (.ref a), .val (.int i)] [])) t_ → Steps p.tables e below (s₁.setTop (entryFrame m #[(.ref a), (.int i)] 2)) t_ := fun t_ k_ => castTop (ef_iinit m a i) k_
  have O0 := own_ext_refl h0
  have K0 := Keep.refl h0 [a]
  obtain ⟨v20, _, ⟨T20, L20, k20, n20⟩, -, X20, ⟨Lc20, hQ20, l20, y20, z20⟩, st20⟩ := X0.specialBack hx (y := (⟨"java/lang/Number", "<init>", "()V"⟩ : MethodName)) rfl hown (mvT hZ (hw _ (List.mem_of_getElem? (i := 34) rfl))) (mvT hZ (hw _ (List.mem_of_getElem? (i := 35) rfl))) (mvT hZ (hw _ (List.mem_of_getElem? (i := 39) rfl))) (by decide) (backOf (W := 0) (rm_num l Z a0 hw [] a h0 n0 Z0 ) hZ (hw _ (List.mem_of_getElem? (i := 39) rfl)) (hw _ (List.mem_of_getElem? (i := 38) rfl)) (by decide) (by decide)) (g := (mkF m 1 #[.val (.ref a), .val (.int i)] [(.ref a)])) rfl (by rw [hml]; rfl) (Steps.refl _) (a := a) (argsL := []) (rest := []) (lenOf pd_0 rfl) rfl (by show 2 * 0 + _ ≤ _; exact Nat.le_of_eq rfl) (hb hby d5_1) (fun _ _ => ⟨rfl, e0, (by decide : 0 + 0 ≤ _), (by decide : 0 + 0 ≤ _)⟩)
  dsimp only [Pt.U, Pt.locs, Pt.cells, Pt.slots] at X20 l20 y20 z20 st20 hQ20
  subst l20 y20 z20
  obtain ⟨hv20, N20q, e20⟩ := hQ20
  have N20 := Fr.app N0 N20q
  subst hv20
  obtain ⟨T21, h21, X21, e21, W21, st21⟩ := putF X20 hx hZ hown (host := "") (Or.inl (hw _ (List.mem_of_getElem? (i := 41) rfl))) Via.refl e20 F_value E_a (Or.inr ⟨(hw _ (List.mem_of_getElem? (i := 42) rfl)), rfl, hnm⟩) (hw _ (List.mem_of_getElem? (i := 29) rfl)) (ty := .int) (by decide) rfl rfl (g := (mkF m 6 #[.val (.ref a), .val (.int i)] [(.int i), (.ref a)])) rfl rfl (hb hby d5_6)
  have N21 := Fr.snoc X21 N20 gg_a
  have K21 := Keep.wr K0 W21 (Or.inl (List.mem_of_getElem? (i := 0) rfl))
  have Zs21 := Nat.le_trans Z0 (Keep.of_wr W21).1
  have c22 : Exa Z h21 a "java/lang/Integer" := E_a.wr W21
  have c23 : Fld Z h21 a "java/lang/Integer" "value" "I" (.int i) := F_value.same W21
  have pre24 : ∀ t_, Steps p.tables e below (T21.setTop (mkF m 9 #[.val (.ref a), .val (.int i)] [])) t_ → Steps p.tables e below (s₁.setTop (entryFrame m #[(.ref a), (.int i)] 2)) t_ := fun t_ k_ => pre0 t_ (by
    show Steps p.tables e below (s₁.setTop (mkF m 0 #[.val (.ref a), .val (.int i)] [])) _
    refine XS.aloadN X0.here hx rfl (hb hby d5_0) rfl rfl ?_
    show Steps p.tables e below (s₁.setTop (mkF m 1 #[.val (.ref a), .val (.int i)] [(.ref a)])) _
    refine st20.trans ?_
    show Steps p.tables e below (T20.setTop (mkF m 4 #[.val (.ref a), .val (.int i)] [])) _
    refine XS.aloadN X20.here hx rfl (hb hby d5_4) rfl rfl ?_
    show Steps p.tables e below (T20.setTop (mkF m 5 #[.val (.ref a), .val (.int i)] [(.ref a)])) _
    refine XS.iloadN X20.here hx rfl (hb hby d5_5) rfl ?_
    show Steps p.tables e below (T20.setTop (mkF m 6 #[.val (.ref a), .val (.int i)] [(.int i), (.ref a)])) _
    refine st21 _ ?_
    show Steps p.tables e below (T21.setTop (mkF m 9 #[.val (.ref a), .val (.int i)] [])) _
    exact k_)
  obtain ⟨fs, hr, hrun, hended, hW, hsame⟩ := X21.leave (v := none) (fun _ => rfl)
  refine ⟨_, _, pre24 _ ?_, hrun, hended, _, _, rfl, ?_, ⟨_, rfl⟩, hW, hsame.mono (by decide) (by decide)⟩
  · show Steps p.tables e below (T21.setTop (mkF m 9 #[.val (.ref a), .val (.int i)] [])) _
    exact X21.returnOut hx Bd.returns (hb hby d5_9) hr
  · show Q_iinit Z a i o_value h0 n0 _ T21.heap _
    rw [e21]
    exact ⟨rfl, N21, K21, c22, c23⟩
theorem own_cache_in (i : Int32) (h0 : ¬ i < (-128 : Int32)) (h1 : ¬ (127 : Int32) < i) : ¬ (i + (128 : Int32)) < (0 : Int32) ∧ (i + (128 : Int32)) < (256 : Int32) := by
  rw [Int32.lt_iff_toInt_lt] at h0 h1
  rw [Int32.lt_iff_toInt_lt, Int32.lt_iff_toInt_lt]
  have q := c_iadd i (128 : Int32)
  have e1 : (-128 : Int32).toInt = -128 := by decide
  have e2 : (127 : Int32).toInt = 127 := by decide
  have e3 : (128 : Int32).toInt = 128 := by decide
  have e4 : (0 : Int32).toInt = 0 := by decide
  have e5 : (256 : Int32).toInt = 256 := by decide
  have r := rng32 (i + (128 : Int32))
  rw [e1] at h0; rw [e2] at h1; rw [e3] at q; rw [e4, e5]
  omega
theorem own_sub {Z : State} {args : Array Value} {j : Int32} (hj : ¬ j < 0) : (Term.sub (.index 0) (.int (128 : Int32))).eval args Z none [j.toNatClampNeg] Z = some (.int (j - (128 : Int32))) := by
  have q := idx_at (args := args) (s := Z) (first := Z) (o := none) hj
  simp only [Term.eval] at q ⊢
  rw [q]; rfl
theorem ef_valueOf (m : MethodId) (i : Int32) : entryFrame m #[(.int i)] 1 = mkF m 0 #[.val (.int i)] [] := by first | (simp [entryFrame, mkF, argsToLocals, Value.category]; done) | rfl
def Q_valueOf (Z : State) (i : Int32) (w_cache : Addr) (cl_cache : Cell) (bx : Int32 → Value) (h0 : Heap) (n0 : Nat) (v : Option Value) (h : Heap) (L : List Loc) : Prop := (∃ r : Addr, v = some (.ref r) ∧ Exa Z h r "java/lang/Integer") ∧ Fr n0 L ∧ Ext h0 h
theorem d4_0 : decode jdk_33_method_22_code 0 = .ok (.iload_n 0, 1) := by decide +kernel
theorem d4_1 : decode jdk_33_method_22_code 1 = .ok (.bipush (-128), 2) := by decide +kernel
theorem d4_3 : decode jdk_33_method_22_code 3 = .ok (.if_icmp .lt 20, 3) := by decide +kernel
theorem d4_23 : decode jdk_33_method_22_code 23 = .ok (.new 1, 3) := by decide +kernel
theorem d4_26 : decode jdk_33_method_22_code 26 = .ok (.dup, 1) := by decide +kernel
theorem d4_27 : decode jdk_33_method_22_code 27 = .ok (.iload_n 0, 1) := by decide +kernel
theorem d4_28 : decode jdk_33_method_22_code 28 = .ok (.invokespecial 199, 3) := by decide +kernel
theorem pd_1 : parseMethodDescriptor "(I)V" = some ⟨[.int], none⟩ := by decide +kernel
theorem d4_31 : decode jdk_33_method_22_code 31 = .ok (.areturn, 1) := by decide +kernel
theorem d4_6 : decode jdk_33_method_22_code 6 = .ok (.iload_n 0, 1) := by decide +kernel
theorem d4_7 : decode jdk_33_method_22_code 7 = .ok (.getstatic 191, 3) := by decide +kernel
theorem d4_10 : decode jdk_33_method_22_code 10 = .ok (.if_icmp .gt 13, 3) := by decide +kernel
theorem d4_13 : decode jdk_33_method_22_code 13 = .ok (.getstatic 195, 3) := by decide +kernel
theorem d4_16 : decode jdk_33_method_22_code 16 = .ok (.iload_n 0, 1) := by decide +kernel
theorem d4_17 : decode jdk_33_method_22_code 17 = .ok (.sipush 128, 3) := by decide +kernel
theorem d4_20 : decode jdk_33_method_22_code 20 = .ok (.iadd, 1) := by decide +kernel
theorem d4_21 : decode jdk_33_method_22_code 21 = .ok (.aaload, 1) := by decide +kernel
theorem d4_22 : decode jdk_33_method_22_code 22 = .ok (.areturn, 1) := by decide +kernel
set_option maxRecDepth 65536 in
set_option maxHeartbeats 40000000 in
theorem rm_valueOf (l : Launch) (Z : State) (a0 : Array Value) (hw : ∀ d ∈ tables_1, d.before a0 Z = true) (ws : List Jvm.Cond) (i : Int32) (w_cache : Addr) (cl_cache : Cell) (bx : Int32 → Value) (h0 : Heap) (n0 : Nat) (Z0 : n0 ≤ h0.size) (S_high : Sta Z h0 "java/lang/Integer$IntegerCache" "high" "I" (.int (127 : Int32))) (S_cache : Sta Z h0 "java/lang/Integer$IntegerCache" "cache" "[Ljava/lang/Integer;" (.ref w_cache)) (Bx : Bxs Z w_cache cl_cache "java/lang/Integer" "I" (256 : Int32) bx) (Oz : Ext Z.heap h0) :
    MetFree l (⟨"java/lang/Integer", "valueOf", "(I)Ljava/lang/Integer;"⟩ : MethodName) (head1 (Jvm.Cond.code (⟨"java/lang/Integer", "valueOf", "(I)Ljava/lang/Integer;"⟩ : MethodName) jdk_33_method_22_code 1 (some (.object "java/lang/Integer")) :: ws) ({ frames := 3, cells := 1, slots := 1, locals := 38 } : Room)) (fun a_ U_ => a_ = #[(.int i)] ∧ Z.Warmed39 U_.vm ∧ U_.heap = h0) (fun _ _ _ _ _ => True) (fun _ U_ o_ V_ => ∃ v_ L_, o_ = .returned v_ ∧ Q_valueOf Z i w_cache cl_cache bx h0 n0 v_ V_.heap L_ ∧ FrameEnd U_ o_ V_ L_ ({ frames := 3, cells := 1, slots := 1, locals := 38 } : Room).cells ({ frames := 3, cells := 1, slots := 1, locals := 38 } : Room).slots) := by
  refine MetFree.of_bodySF (plainFor_of_name pn_2) hisR ?_
  intro p e s m args below meth c s₁ Bd hml0 hP hK
  obtain ⟨rfl, hZ, hh⟩ := hP
  have hx := Bd.exec
  have hby := Bd.bytes
  have hml : c.maxLocals = 1 := hml0
  have hown : s.vm.findClass "java/lang/Integer" = some m.cls := findClass_of_methodNamed Bd.named
  have hnm := (name_of_methodNamed Bd.named Bd.method).1
  have X0 : Stand p l e ({ frames := 3, cells := 1, slots := 1, locals := 38 } : Room) s m #[(.int i)] below meth c s₁ [] 0 0 := Stand.of_body Bd
  have e0 : s₁.heap = h0 := by rw [← hh, Bd.state]; rfl
  have N0 := Fr.nil n0
  have pre0 : ∀ t_, Steps p.tables e below (s₁.setTop (mkF m 0 #[.val (.int i)] [])) t_ → Steps p.tables e below (s₁.setTop (entryFrame m #[(.int i)] 1)) t_ := fun t_ k_ => castTop (ef_valueOf m i) k_
  have O0 := own_ext_refl h0
  have pre25 : ∀ t_, Steps p.tables e below (s₁.setTop (mkF m 3 #[.val (.int i)] [(.int (-128 : Int32)), (.int i)])) t_ → Steps p.tables e below (s₁.setTop (entryFrame m #[(.int i)] 1)) t_ := fun t_ k_ => pre0 t_ (by
    show Steps p.tables e below (s₁.setTop (mkF m 0 #[.val (.int i)] [])) _
    refine XS.iloadN X0.here hx rfl (hb hby d4_0) rfl ?_
    show Steps p.tables e below (s₁.setTop (mkF m 1 #[.val (.int i)] [(.int i)])) _
    refine XS.bipush X0.here hx rfl (hb hby d4_1) ?_
    show Steps p.tables e below (s₁.setTop (mkF m 3 #[.val (.int i)] [(.int (-128 : Int32)), (.int i)])) _
    exact k_)
  by_cases hc3_26 : i < (-128 : Int32)
  · obtain ⟨T27, h27, X27, e27, E27, A27, D27, -, st27⟩ := newO X0 hx hZ hown (hw _ (List.mem_of_getElem? (i := 28) rfl)) (hw _ (List.mem_of_getElem? (i := 29) rfl)) (hw _ (List.mem_of_getElem? (i := 24) rfl)) e0 (g := (mkF m 23 #[.val (.int i)] [])) rfl (hb hby d4_23) (by decide) (by decide)
    obtain ⟨b27, g27⟩ : ∃ z, z = h0.size := ⟨_, rfl⟩
    rw [← g27] at A27 D27 st27
    have gg_b27 : n0 ≤ b27 := Nat.le_trans Z0 (Nat.le_of_eq g27.symm)
    have sz_b27 : h0.size ≤ b27 := Nat.le_trans O0.1 (Nat.le_of_eq g27.symm)
    have O28 := own_ext_trans O0 E27
    have Zs28 := Nat.le_trans Z0 (E27).1
    have c29 : Sta Z h27 "java/lang/Integer$IntegerCache" "high" "I" (.int (127 : Int32)) := S_high.ext E27
    have c30 : Sta Z h27 "java/lang/Integer$IntegerCache" "cache" "[Ljava/lang/Integer;" (.ref w_cache) := S_cache.ext E27
    have F27_value : Fld Z h27 b27 "java/lang/Integer" "value" "I" (.int (0 : Int32)) := D27 (Or.inr (hw _ (List.mem_of_getElem? (i := 42) rfl))) (ty := .int) (by decide)
    obtain ⟨v31, _, ⟨T31, L31, k31, n31⟩, -, X31, ⟨Lc31, hQ31, l31, y31, z31⟩, st31⟩ := X27.specialBack hx (y := (⟨"java/lang/Integer", "<init>", "(I)V"⟩ : MethodName)) rfl hown (mvT hZ (hw _ (List.mem_of_getElem? (i := 30) rfl))) (mvT hZ (hw _ (List.mem_of_getElem? (i := 31) rfl))) (mvT hZ (hw _ (List.mem_of_getElem? (i := 33) rfl))) (by decide) (backOf (W := 1) (rm_iinit l Z a0 hw [] b27 i (.int (0 : Int32)) h27 n0 Zs28 A27 gg_b27 F27_value) hZ (hw _ (List.mem_of_getElem? (i := 33) rfl)) (hw _ (List.mem_of_getElem? (i := 24) rfl)) (by decide) (by decide)) (g := (mkF m 28 #[.val (.int i)] [(.int i), (.ref b27), (.ref b27)])) rfl (by rw [hml]; rfl) (Steps.refl _) (a := b27) (argsL := [(.int i)]) (rest := [(.ref b27)]) (lenOf pd_1 rfl) rfl (by show 2 * 0 + _ ≤ _; exact Nat.le_of_eq rfl) (hb hby d4_28) (fun _ _ => ⟨rfl, e27, (by decide : 1 + 0 ≤ _), (by decide : 1 + 0 ≤ _)⟩)
    dsimp only [Pt.U, Pt.locs, Pt.cells, Pt.slots] at X31 l31 y31 z31 st31 hQ31
    subst l31 y31 z31
    obtain ⟨hv31, N31q, M31⟩ := hQ31
    have N31 := Fr.app N0 N31q
    subst hv31
    obtain ⟨K31k, E31x, F31_value⟩ := M31
    have O32 := own_ext_keep O28 K31k (allS sz_b27 all0)
    have Zs32 := Nat.le_trans Zs28 K31k.1
    have c33 : Exa Z T31.heap b27 "java/lang/Integer" := A27.keep K31k
    have pre34 : ∀ t_, Steps p.tables e below (T31.setTop (mkF m 31 #[.val (.int i)] [(.ref b27)])) t_ → Steps p.tables e below (s₁.setTop (entryFrame m #[(.int i)] 1)) t_ := fun t_ k_ => pre25 t_ (by
      show Steps p.tables e below (s₁.setTop (mkF m 3 #[.val (.int i)] [(.int (-128 : Int32)), (.int i)])) _
      refine XS.icmpYes X0.here hx rfl (pc0 := 3) (pc' := 23) rfl (hb hby d4_3) rfl (tlt hc3_26).1 (by decide) (by decide) ?_
      show Steps p.tables e below (s₁.setTop (mkF m 23 #[.val (.int i)] [])) _
      refine st27 _ ?_
      show Steps p.tables e below (T27.setTop (mkF m 26 #[.val (.int i)] [(.ref b27)])) _
      refine XS.dup X27.here hx rfl (hb hby d4_26) rfl rfl ?_
      show Steps p.tables e below (T27.setTop (mkF m 27 #[.val (.int i)] [(.ref b27), (.ref b27)])) _
      refine XS.iloadN X27.here hx rfl (hb hby d4_27) rfl ?_
      show Steps p.tables e below (T27.setTop (mkF m 28 #[.val (.int i)] [(.int i), (.ref b27), (.ref b27)])) _
      refine st31.trans ?_
      show Steps p.tables e below (T31.setTop (mkF m 31 #[.val (.int i)] [(.ref b27)])) _
      exact k_)
    obtain ⟨fs, hr, hrun, hended, hW, hsame⟩ := X31.leave (v := some (.ref b27)) (fun h => by rw [Bd.returns] at h; cases h)
    refine ⟨_, _, pre34 _ ?_, hrun, hended, _, _, rfl, ?_, ⟨_, rfl⟩, hW, hsame.mono (by decide) (by decide)⟩
    · show Steps p.tables e below (T31.setTop (mkF m 31 #[.val (.int i)] [(.ref b27)])) _
      exact retA X31 hx Bd.returns rfl rfl rfl (hb hby d4_31) hr
    · show Q_valueOf Z i w_cache cl_cache bx h0 n0 _ T31.heap _
      exact ⟨⟨b27, rfl, E31x⟩, N31, O32⟩
  · obtain ⟨T35, X35, e35, st35⟩ := getS2 X0 hx hZ hown (host := "") (Or.inl (hw _ (List.mem_of_getElem? (i := 26) rfl))) Via.refl e0 S_high (g := (mkF m 7 #[.val (.int i)] [(.int i)])) rfl (hb hby d4_7)
    have pre36 : ∀ t_, Steps p.tables e below (T35.setTop (mkF m 10 #[.val (.int i)] [(.int (127 : Int32)), (.int i)])) t_ → Steps p.tables e below (s₁.setTop (entryFrame m #[(.int i)] 1)) t_ := fun t_ k_ => pre25 t_ (by
      show Steps p.tables e below (s₁.setTop (mkF m 3 #[.val (.int i)] [(.int (-128 : Int32)), (.int i)])) _
      refine XS.icmpNo X0.here hx rfl (hb hby d4_3) rfl (flt hc3_26).1 ?_
      show Steps p.tables e below (s₁.setTop (mkF m 6 #[.val (.int i)] [])) _
      refine XS.iloadN X0.here hx rfl (hb hby d4_6) rfl ?_
      show Steps p.tables e below (s₁.setTop (mkF m 7 #[.val (.int i)] [(.int i)])) _
      refine st35 _ ?_
      show Steps p.tables e below (T35.setTop (mkF m 10 #[.val (.int i)] [(.int (127 : Int32)), (.int i)])) _
      exact k_)
    by_cases hc10_37 : (127 : Int32) < i
    · obtain ⟨T38, h38, X38, e38, E38, A38, D38, -, st38⟩ := newO X35 hx hZ hown (hw _ (List.mem_of_getElem? (i := 28) rfl)) (hw _ (List.mem_of_getElem? (i := 29) rfl)) (hw _ (List.mem_of_getElem? (i := 24) rfl)) e35 (g := (mkF m 23 #[.val (.int i)] [])) rfl (hb hby d4_23) (by decide) (by decide)
      obtain ⟨b38, g38⟩ : ∃ z, z = h0.size := ⟨_, rfl⟩
      rw [← g38] at A38 D38 st38
      have gg_b38 : n0 ≤ b38 := Nat.le_trans Z0 (Nat.le_of_eq g38.symm)
      have sz_b38 : h0.size ≤ b38 := Nat.le_trans O0.1 (Nat.le_of_eq g38.symm)
      have O39 := own_ext_trans O0 E38
      have Zs39 := Nat.le_trans Z0 (E38).1
      have c40 : Sta Z h38 "java/lang/Integer$IntegerCache" "high" "I" (.int (127 : Int32)) := S_high.ext E38
      have c41 : Sta Z h38 "java/lang/Integer$IntegerCache" "cache" "[Ljava/lang/Integer;" (.ref w_cache) := S_cache.ext E38
      have F38_value : Fld Z h38 b38 "java/lang/Integer" "value" "I" (.int (0 : Int32)) := D38 (Or.inr (hw _ (List.mem_of_getElem? (i := 42) rfl))) (ty := .int) (by decide)
      obtain ⟨v42, _, ⟨T42, L42, k42, n42⟩, -, X42, ⟨Lc42, hQ42, l42, y42, z42⟩, st42⟩ := X38.specialBack hx (y := (⟨"java/lang/Integer", "<init>", "(I)V"⟩ : MethodName)) rfl hown (mvT hZ (hw _ (List.mem_of_getElem? (i := 30) rfl))) (mvT hZ (hw _ (List.mem_of_getElem? (i := 31) rfl))) (mvT hZ (hw _ (List.mem_of_getElem? (i := 33) rfl))) (by decide) (backOf (W := 1) (rm_iinit l Z a0 hw [] b38 i (.int (0 : Int32)) h38 n0 Zs39 A38 gg_b38 F38_value) hZ (hw _ (List.mem_of_getElem? (i := 33) rfl)) (hw _ (List.mem_of_getElem? (i := 24) rfl)) (by decide) (by decide)) (g := (mkF m 28 #[.val (.int i)] [(.int i), (.ref b38), (.ref b38)])) rfl (by rw [hml]; rfl) (Steps.refl _) (a := b38) (argsL := [(.int i)]) (rest := [(.ref b38)]) (lenOf pd_1 rfl) rfl (by show 2 * 0 + _ ≤ _; exact Nat.le_of_eq rfl) (hb hby d4_28) (fun _ _ => ⟨rfl, e38, (by decide : 1 + 0 ≤ _), (by decide : 1 + 0 ≤ _)⟩)
      dsimp only [Pt.U, Pt.locs, Pt.cells, Pt.slots] at X42 l42 y42 z42 st42 hQ42
      subst l42 y42 z42
      obtain ⟨hv42, N42q, M42⟩ := hQ42
      have N42 := Fr.app N0 N42q
      subst hv42
      obtain ⟨K42k, E42x, F42_value⟩ := M42
      have O43 := own_ext_keep O39 K42k (allS sz_b38 all0)
      have Zs43 := Nat.le_trans Zs39 K42k.1
      have c44 : Exa Z T42.heap b38 "java/lang/Integer" := A38.keep K42k
      have pre45 : ∀ t_, Steps p.tables e below (T42.setTop (mkF m 31 #[.val (.int i)] [(.ref b38)])) t_ → Steps p.tables e below (s₁.setTop (entryFrame m #[(.int i)] 1)) t_ := fun t_ k_ => pre36 t_ (by
        show Steps p.tables e below (T35.setTop (mkF m 10 #[.val (.int i)] [(.int (127 : Int32)), (.int i)])) _
        refine XS.icmpYes X35.here hx rfl (pc0 := 10) (pc' := 23) rfl (hb hby d4_10) rfl (tlt hc10_37).2.2.1 (by decide) (by decide) ?_
        show Steps p.tables e below (T35.setTop (mkF m 23 #[.val (.int i)] [])) _
        refine st38 _ ?_
        show Steps p.tables e below (T38.setTop (mkF m 26 #[.val (.int i)] [(.ref b38)])) _
        refine XS.dup X38.here hx rfl (hb hby d4_26) rfl rfl ?_
        show Steps p.tables e below (T38.setTop (mkF m 27 #[.val (.int i)] [(.ref b38), (.ref b38)])) _
        refine XS.iloadN X38.here hx rfl (hb hby d4_27) rfl ?_
        show Steps p.tables e below (T38.setTop (mkF m 28 #[.val (.int i)] [(.int i), (.ref b38), (.ref b38)])) _
        refine st42.trans ?_
        show Steps p.tables e below (T42.setTop (mkF m 31 #[.val (.int i)] [(.ref b38)])) _
        exact k_)
      obtain ⟨fs, hr, hrun, hended, hW, hsame⟩ := X42.leave (v := some (.ref b38)) (fun h => by rw [Bd.returns] at h; cases h)
      refine ⟨_, _, pre45 _ ?_, hrun, hended, _, _, rfl, ?_, ⟨_, rfl⟩, hW, hsame.mono (by decide) (by decide)⟩
      · show Steps p.tables e below (T42.setTop (mkF m 31 #[.val (.int i)] [(.ref b38)])) _
        exact retA X42 hx Bd.returns rfl rfl rfl (hb hby d4_31) hr
      · show Q_valueOf Z i w_cache cl_cache bx h0 n0 _ T42.heap _
        exact ⟨⟨b38, rfl, E42x⟩, N42, O43⟩
    · obtain ⟨T46, X46, e46, st46⟩ := getS2 X35 hx hZ hown (host := "") (Or.inl (hw _ (List.mem_of_getElem? (i := 46) rfl))) Via.refl e35 S_cache (g := (mkF m 13 #[.val (.int i)] [])) rfl (hb hby d4_13)
      have hin := own_cache_in i hc3_26 hc10_37
      obtain ⟨bo, hat, Ebo, -⟩ := Bx.2.2.2 (i + (128 : Int32)) (inb_of Bx.2.1 hin)
      have Ab := Bx.1.ext Oz
      have pre47 : ∀ t_, Steps p.tables e below (T46.setTop (mkF m 22 #[.val (.int i)] [(.ref bo)])) t_ → Steps p.tables e below (s₁.setTop (entryFrame m #[(.int i)] 1)) t_ := fun t_ k_ => pre36 t_ (by
        show Steps p.tables e below (T35.setTop (mkF m 10 #[.val (.int i)] [(.int (127 : Int32)), (.int i)])) _
        refine XS.icmpNo X35.here hx rfl (hb hby d4_10) rfl (flt hc10_37).2.2.1 ?_
        show Steps p.tables e below (T35.setTop (mkF m 13 #[.val (.int i)] [])) _
        refine st46 _ ?_
        show Steps p.tables e below (T46.setTop (mkF m 16 #[.val (.int i)] [(.ref w_cache)])) _
        refine XS.iloadN X46.here hx rfl (hb hby d4_16) rfl ?_
        show Steps p.tables e below (T46.setTop (mkF m 17 #[.val (.int i)] [(.int i), (.ref w_cache)])) _
        refine XS.sipush X46.here hx rfl (hb hby d4_17) ?_
        show Steps p.tables e below (T46.setTop (mkF m 20 #[.val (.int i)] [(.int (128 : Int32)), (.int i), (.ref w_cache)])) _
        refine XS.iadd X46.here hx rfl (hb hby d4_20) rfl ?_
        show Steps p.tables e below (T46.setTop (mkF m 21 #[.val (.int i)] [(.int (i + (128 : Int32))), (.ref w_cache)])) _
        refine X46.aaload hx (j := (i + (128 : Int32))) (v := (.ref bo)) (by rw [e46]; exact Ab.1) (State.isArrayOf_alike hZ.alike Ab.2.1) rfl Ab.2.2 (inb_of Bx.2.1 hin) hat (g := (mkF m 21 #[.val (.int i)] [(.int (i + (128 : Int32))), (.ref w_cache)])) rfl rfl (hb hby d4_21) _ ?_
        show Steps p.tables e below (T46.setTop (mkF m 22 #[.val (.int i)] [(.ref bo)])) _
        exact k_)
      obtain ⟨fs, hr, hrun, hended, hW, hsame⟩ := X46.leave (v := some (.ref bo)) (fun h => by rw [Bd.returns] at h; cases h)
      refine ⟨_, _, pre47 _ ?_, hrun, hended, _, _, rfl, ?_, ⟨_, rfl⟩, hW, hsame.mono (by decide) (by decide)⟩
      · show Steps p.tables e below (T46.setTop (mkF m 22 #[.val (.int i)] [(.ref bo)])) _
        exact retA X46 hx Bd.returns rfl rfl rfl (hb hby d4_22) hr
      · show Q_valueOf Z i w_cache cl_cache bx h0 n0 _ T46.heap _
        rw [e46]
        exact ⟨⟨bo, rfl, (Ebo.ext Oz)⟩, N0, O0⟩
def own_eq (ax az ox oz : Int32) : Int32 := if ox = ax then (if oz = az then (1 : Int32) else (0 : Int32)) else (0 : Int32)
theorem ef_eqC (m : MethodId) (a : Addr) (o : Addr) : entryFrame m #[(.ref a), (.ref o)] 3 = mkF m 0 #[.val (.ref a), .val (.ref o), .unset] [] := by first | (simp [entryFrame, mkF, argsToLocals, Value.category]; done) | rfl
def Q_eqC (Z : State) (a : Addr) (o : Addr) (ax : Int32) (az : Int32) (ox : Int32) (oz : Int32) (h0 : Heap) (n0 : Nat) (v : Option Value) (h : Heap) (L : List Loc) : Prop := v = some (.int (own_eq ax az ox oz)) ∧ Fr n0 L ∧ h = h0
theorem d3_0 : decode prog_23_method_8_code 0 = .ok (.aload_n 1, 1) := by decide +kernel
theorem d3_1 : decode prog_23_method_8_code 1 = .ok (.instanceof 8, 3) := by decide +kernel
theorem d3_4 : decode prog_23_method_8_code 4 = .ok (.ifCond .eq 34, 3) := by decide +kernel
theorem d3_7 : decode prog_23_method_8_code 7 = .ok (.aload_n 1, 1) := by decide +kernel
theorem d3_8 : decode prog_23_method_8_code 8 = .ok (.checkcast 8, 3) := by decide +kernel
theorem d3_11 : decode prog_23_method_8_code 11 = .ok (.astore_n 2, 1) := by decide +kernel
theorem d3_12 : decode prog_23_method_8_code 12 = .ok (.aload_n 2, 1) := by decide +kernel
theorem d3_13 : decode prog_23_method_8_code 13 = .ok (.getfield 7, 3) := by decide +kernel
theorem d3_16 : decode prog_23_method_8_code 16 = .ok (.aload_n 0, 1) := by decide +kernel
theorem d3_17 : decode prog_23_method_8_code 17 = .ok (.getfield 7, 3) := by decide +kernel
theorem d3_20 : decode prog_23_method_8_code 20 = .ok (.if_icmp .ne 18, 3) := by decide +kernel
theorem d3_23 : decode prog_23_method_8_code 23 = .ok (.aload_n 2, 1) := by decide +kernel
theorem d3_24 : decode prog_23_method_8_code 24 = .ok (.getfield 16, 3) := by decide +kernel
theorem d3_27 : decode prog_23_method_8_code 27 = .ok (.aload_n 0, 1) := by decide +kernel
theorem d3_28 : decode prog_23_method_8_code 28 = .ok (.getfield 16, 3) := by decide +kernel
theorem d3_31 : decode prog_23_method_8_code 31 = .ok (.if_icmp .ne 7, 3) := by decide +kernel
theorem d3_34 : decode prog_23_method_8_code 34 = .ok (.iconst 1, 1) := by decide +kernel
theorem d3_35 : decode prog_23_method_8_code 35 = .ok (.goto 4, 3) := by decide +kernel
theorem d3_39 : decode prog_23_method_8_code 39 = .ok (.ireturn, 1) := by decide +kernel
theorem d3_38 : decode prog_23_method_8_code 38 = .ok (.iconst 0, 1) := by decide +kernel
set_option maxRecDepth 65536 in
set_option maxHeartbeats 40000000 in
theorem rm_eqC (l : Launch) (Z : State) (a0 : Array Value) (hw : ∀ d ∈ tables_1, d.before a0 Z = true) (ws : List Jvm.Cond) (a : Addr) (o : Addr) (ax : Int32) (az : Int32) (ox : Int32) (oz : Int32) (h0 : Heap) (n0 : Nat) (Z0 : n0 ≤ h0.size) (E_o : Exa Z h0 o "com/example/fissure/fissure/games/breakable/Cube") (F_a_x : Fld Z h0 a "com/example/fissure/fissure/games/breakable/Cube" "x" "I" (.int ax)) (F_a_z : Fld Z h0 a "com/example/fissure/fissure/games/breakable/Cube" "z" "I" (.int az)) (F_o_x : Fld Z h0 o "com/example/fissure/fissure/games/breakable/Cube" "x" "I" (.int ox)) (F_o_z : Fld Z h0 o "com/example/fissure/fissure/games/breakable/Cube" "z" "I" (.int oz)) :
    MetFree l (⟨"com/example/fissure/fissure/games/breakable/Cube", "equals", "(Ljava/lang/Object;)Z"⟩ : MethodName) (head1 (Jvm.Cond.code (⟨"com/example/fissure/fissure/games/breakable/Cube", "equals", "(Ljava/lang/Object;)Z"⟩ : MethodName) prog_23_method_8_code 3 (some .boolean) :: ws) ({ frames := 0, cells := 0, slots := 0, locals := 0 } : Room)) (fun a_ U_ => a_ = #[(.ref a), (.ref o)] ∧ Z.Warmed39 U_.vm ∧ U_.heap = h0) (fun _ _ _ _ _ => True) (fun _ U_ o_ V_ => ∃ v_ L_, o_ = .returned v_ ∧ Q_eqC Z a o ax az ox oz h0 n0 v_ V_.heap L_ ∧ FrameEnd U_ o_ V_ L_ ({ frames := 0, cells := 0, slots := 0, locals := 0 } : Room).cells ({ frames := 0, cells := 0, slots := 0, locals := 0 } : Room).slots) := by
  refine MetFree.of_bodySF (plainFor_of_name pn_0) hisR ?_
  intro p e s m args below meth c s₁ Bd hml0 hP hK
  obtain ⟨rfl, hZ, hh⟩ := hP
  have hx := Bd.exec
  have hby := Bd.bytes
  have hml : c.maxLocals = 3 := hml0
  have hown : s.vm.findClass "com/example/fissure/fissure/games/breakable/Cube" = some m.cls := findClass_of_methodNamed Bd.named
  have hnm := (name_of_methodNamed Bd.named Bd.method).1
  have X0 : Stand p l e ({ frames := 0, cells := 0, slots := 0, locals := 0 } : Room) s m #[(.ref a), (.ref o)] below meth c s₁ [] 0 0 := Stand.of_body Bd
  have e0 : s₁.heap = h0 := by rw [← hh, Bd.state]; rfl
  have N0 := Fr.nil n0
  have pre0 : ∀ t_, Steps p.tables e below (s₁.setTop (mkF m 0 #[.val (.ref a), .val (.ref o), .unset] [])) t_ → Steps p.tables e below (s₁.setTop (entryFrame m #[(.ref a), (.ref o)] 3)) t_ := fun t_ k_ => castTop (ef_eqC m a o) k_
  have O0 := own_ext_refl h0
  obtain ⟨T48, X48, e48, st48⟩ := instY X0 hx hZ hown (hw _ (List.mem_of_getElem? (i := 20) rfl)) e0 (Ins.self E_o) (g := (mkF m 1 #[.val (.ref a), .val (.ref o), .unset] [(.ref o)])) rfl rfl (hb hby d3_1)
  obtain ⟨T49, X49, e49, st49⟩ := castY X48 hx hZ hown (hw _ (List.mem_of_getElem? (i := 20) rfl)) e48 (Ins.self E_o) (g := (mkF m 8 #[.val (.ref a), .val (.ref o), .unset] [(.ref o)])) rfl rfl (hb hby d3_8)
  obtain ⟨T50, X50, e50, st50⟩ := getF X49 hx hZ hown (host := "") (Or.inl (hw _ (List.mem_of_getElem? (i := 9) rfl))) Via.refl e49 F_o_x (g := (mkF m 13 #[.val (.ref a), .val (.ref o), .val (.ref o)] [(.ref o)])) rfl rfl (hb hby d3_13)
  obtain ⟨T51, X51, e51, st51⟩ := getF X50 hx hZ hown (host := "") (Or.inl (hw _ (List.mem_of_getElem? (i := 9) rfl))) Via.refl e50 F_a_x (g := (mkF m 17 #[.val (.ref a), .val (.ref o), .val (.ref o)] [(.ref a), (.int ox)])) rfl rfl (hb hby d3_17)
  have pre52 : ∀ t_, Steps p.tables e below (T51.setTop (mkF m 20 #[.val (.ref a), .val (.ref o), .val (.ref o)] [(.int ax), (.int ox)])) t_ → Steps p.tables e below (s₁.setTop (entryFrame m #[(.ref a), (.ref o)] 3)) t_ := fun t_ k_ => pre0 t_ (by
    show Steps p.tables e below (s₁.setTop (mkF m 0 #[.val (.ref a), .val (.ref o), .unset] [])) _
    refine XS.aloadN X0.here hx rfl (hb hby d3_0) rfl rfl ?_
    show Steps p.tables e below (s₁.setTop (mkF m 1 #[.val (.ref a), .val (.ref o), .unset] [(.ref o)])) _
    refine st48 _ ?_
    show Steps p.tables e below (T48.setTop (mkF m 4 #[.val (.ref a), .val (.ref o), .unset] [(.int (1 : Int32))])) _
    refine XS.ifNo X48.here hx rfl (hb hby d3_4) rfl ((if0 _ _).trans (feq (by decide : ¬ ((1 : Int32) = (0 : Int32)))).1) ?_
    show Steps p.tables e below (T48.setTop (mkF m 7 #[.val (.ref a), .val (.ref o), .unset] [])) _
    refine XS.aloadN X48.here hx rfl (hb hby d3_7) rfl rfl ?_
    show Steps p.tables e below (T48.setTop (mkF m 8 #[.val (.ref a), .val (.ref o), .unset] [(.ref o)])) _
    refine st49 _ ?_
    show Steps p.tables e below (T49.setTop (mkF m 11 #[.val (.ref a), .val (.ref o), .unset] [(.ref o)])) _
    refine XS.astoreN X49.here hx rfl (hb hby d3_11) rfl rfl (l' := #[.val (.ref a), .val (.ref o), .val (.ref o)]) rfl ?_
    show Steps p.tables e below (T49.setTop (mkF m 12 #[.val (.ref a), .val (.ref o), .val (.ref o)] [])) _
    refine XS.aloadN X49.here hx rfl (hb hby d3_12) rfl rfl ?_
    show Steps p.tables e below (T49.setTop (mkF m 13 #[.val (.ref a), .val (.ref o), .val (.ref o)] [(.ref o)])) _
    refine st50 _ ?_
    show Steps p.tables e below (T50.setTop (mkF m 16 #[.val (.ref a), .val (.ref o), .val (.ref o)] [(.int ox)])) _
    refine XS.aloadN X50.here hx rfl (hb hby d3_16) rfl rfl ?_
    show Steps p.tables e below (T50.setTop (mkF m 17 #[.val (.ref a), .val (.ref o), .val (.ref o)] [(.ref a), (.int ox)])) _
    refine st51 _ ?_
    show Steps p.tables e below (T51.setTop (mkF m 20 #[.val (.ref a), .val (.ref o), .val (.ref o)] [(.int ax), (.int ox)])) _
    exact k_)
  by_cases hc20_53 : ox = ax
  · obtain ⟨T54, X54, e54, st54⟩ := getF X51 hx hZ hown (host := "") (Or.inl (hw _ (List.mem_of_getElem? (i := 13) rfl))) Via.refl e51 F_o_z (g := (mkF m 24 #[.val (.ref a), .val (.ref o), .val (.ref o)] [(.ref o)])) rfl rfl (hb hby d3_24)
    obtain ⟨T55, X55, e55, st55⟩ := getF X54 hx hZ hown (host := "") (Or.inl (hw _ (List.mem_of_getElem? (i := 13) rfl))) Via.refl e54 F_a_z (g := (mkF m 28 #[.val (.ref a), .val (.ref o), .val (.ref o)] [(.ref a), (.int oz)])) rfl rfl (hb hby d3_28)
    have pre56 : ∀ t_, Steps p.tables e below (T55.setTop (mkF m 31 #[.val (.ref a), .val (.ref o), .val (.ref o)] [(.int az), (.int oz)])) t_ → Steps p.tables e below (s₁.setTop (entryFrame m #[(.ref a), (.ref o)] 3)) t_ := fun t_ k_ => pre52 t_ (by
      show Steps p.tables e below (T51.setTop (mkF m 20 #[.val (.ref a), .val (.ref o), .val (.ref o)] [(.int ax), (.int ox)])) _
      refine XS.icmpNo X51.here hx rfl (hb hby d3_20) rfl (teq hc20_53).2 ?_
      show Steps p.tables e below (T51.setTop (mkF m 23 #[.val (.ref a), .val (.ref o), .val (.ref o)] [])) _
      refine XS.aloadN X51.here hx rfl (hb hby d3_23) rfl rfl ?_
      show Steps p.tables e below (T51.setTop (mkF m 24 #[.val (.ref a), .val (.ref o), .val (.ref o)] [(.ref o)])) _
      refine st54 _ ?_
      show Steps p.tables e below (T54.setTop (mkF m 27 #[.val (.ref a), .val (.ref o), .val (.ref o)] [(.int oz)])) _
      refine XS.aloadN X54.here hx rfl (hb hby d3_27) rfl rfl ?_
      show Steps p.tables e below (T54.setTop (mkF m 28 #[.val (.ref a), .val (.ref o), .val (.ref o)] [(.ref a), (.int oz)])) _
      refine st55 _ ?_
      show Steps p.tables e below (T55.setTop (mkF m 31 #[.val (.ref a), .val (.ref o), .val (.ref o)] [(.int az), (.int oz)])) _
      exact k_)
    by_cases hc31_57 : oz = az
    · have pre58 : ∀ t_, Steps p.tables e below (T55.setTop (mkF m 39 #[.val (.ref a), .val (.ref o), .val (.ref o)] [(.int (1 : Int32))])) t_ → Steps p.tables e below (s₁.setTop (entryFrame m #[(.ref a), (.ref o)] 3)) t_ := fun t_ k_ => pre56 t_ (by
        show Steps p.tables e below (T55.setTop (mkF m 31 #[.val (.ref a), .val (.ref o), .val (.ref o)] [(.int az), (.int oz)])) _
        refine XS.icmpNo X55.here hx rfl (hb hby d3_31) rfl (teq hc31_57).2 ?_
        show Steps p.tables e below (T55.setTop (mkF m 34 #[.val (.ref a), .val (.ref o), .val (.ref o)] [])) _
        refine XS.iconst X55.here hx rfl (hb hby d3_34) ?_
        show Steps p.tables e below (T55.setTop (mkF m 35 #[.val (.ref a), .val (.ref o), .val (.ref o)] [(.int (1 : Int32))])) _
        refine XS.goto X55.here hx rfl (pc0 := 35) (pc' := 39) rfl (hb hby d3_35) (by decide) (by decide) ?_
        show Steps p.tables e below (T55.setTop (mkF m 39 #[.val (.ref a), .val (.ref o), .val (.ref o)] [(.int (1 : Int32))])) _
        exact k_)
      obtain ⟨fs, hr, hrun, hended, hW, hsame⟩ := X55.leave (v := some (.int (1 : Int32))) (fun h => by rw [Bd.returns] at h; cases h)
      refine ⟨_, _, pre58 _ ?_, hrun, hended, _, _, rfl, ?_, ⟨_, rfl⟩, hW, hsame.mono (by decide) (by decide)⟩
      · show Steps p.tables e below (T55.setTop (mkF m 39 #[.val (.ref a), .val (.ref o), .val (.ref o)] [(.int (1 : Int32))])) _
        exact retN X55 hx (t := .boolean) Bd.returns (by simp) (hb hby d3_39) hr
      · show Q_eqC Z a o ax az ox oz h0 n0 _ T55.heap _
        rw [e55]
        exact ⟨by rw [own_eq, if_pos hc20_53, if_pos hc31_57], N0, rfl⟩
    · have pre59 : ∀ t_, Steps p.tables e below (T55.setTop (mkF m 39 #[.val (.ref a), .val (.ref o), .val (.ref o)] [(.int (0 : Int32))])) t_ → Steps p.tables e below (s₁.setTop (entryFrame m #[(.ref a), (.ref o)] 3)) t_ := fun t_ k_ => pre56 t_ (by
        show Steps p.tables e below (T55.setTop (mkF m 31 #[.val (.ref a), .val (.ref o), .val (.ref o)] [(.int az), (.int oz)])) _
        refine XS.icmpYes X55.here hx rfl (pc0 := 31) (pc' := 38) rfl (hb hby d3_31) rfl (feq hc31_57).2 (by decide) (by decide) ?_
        show Steps p.tables e below (T55.setTop (mkF m 38 #[.val (.ref a), .val (.ref o), .val (.ref o)] [])) _
        refine XS.iconst X55.here hx rfl (hb hby d3_38) ?_
        show Steps p.tables e below (T55.setTop (mkF m 39 #[.val (.ref a), .val (.ref o), .val (.ref o)] [(.int (0 : Int32))])) _
        exact k_)
      obtain ⟨fs, hr, hrun, hended, hW, hsame⟩ := X55.leave (v := some (.int (0 : Int32))) (fun h => by rw [Bd.returns] at h; cases h)
      refine ⟨_, _, pre59 _ ?_, hrun, hended, _, _, rfl, ?_, ⟨_, rfl⟩, hW, hsame.mono (by decide) (by decide)⟩
      · show Steps p.tables e below (T55.setTop (mkF m 39 #[.val (.ref a), .val (.ref o), .val (.ref o)] [(.int (0 : Int32))])) _
        exact retN X55 hx (t := .boolean) Bd.returns (by simp) (hb hby d3_39) hr
      · show Q_eqC Z a o ax az ox oz h0 n0 _ T55.heap _
        rw [e55]
        exact ⟨by rw [own_eq, if_pos hc20_53, if_neg hc31_57], N0, rfl⟩
  · have pre60 : ∀ t_, Steps p.tables e below (T51.setTop (mkF m 39 #[.val (.ref a), .val (.ref o), .val (.ref o)] [(.int (0 : Int32))])) t_ → Steps p.tables e below (s₁.setTop (entryFrame m #[(.ref a), (.ref o)] 3)) t_ := fun t_ k_ => pre52 t_ (by
      show Steps p.tables e below (T51.setTop (mkF m 20 #[.val (.ref a), .val (.ref o), .val (.ref o)] [(.int ax), (.int ox)])) _
      refine XS.icmpYes X51.here hx rfl (pc0 := 20) (pc' := 38) rfl (hb hby d3_20) rfl (feq hc20_53).2 (by decide) (by decide) ?_
      show Steps p.tables e below (T51.setTop (mkF m 38 #[.val (.ref a), .val (.ref o), .val (.ref o)] [])) _
      refine XS.iconst X51.here hx rfl (hb hby d3_38) ?_
      show Steps p.tables e below (T51.setTop (mkF m 39 #[.val (.ref a), .val (.ref o), .val (.ref o)] [(.int (0 : Int32))])) _
      exact k_)
    obtain ⟨fs, hr, hrun, hended, hW, hsame⟩ := X51.leave (v := some (.int (0 : Int32))) (fun h => by rw [Bd.returns] at h; cases h)
    refine ⟨_, _, pre60 _ ?_, hrun, hended, _, _, rfl, ?_, ⟨_, rfl⟩, hW, hsame.mono (by decide) (by decide)⟩
    · show Steps p.tables e below (T51.setTop (mkF m 39 #[.val (.ref a), .val (.ref o), .val (.ref o)] [(.int (0 : Int32))])) _
      exact retN X51 hx (t := .boolean) Bd.returns (by simp) (hb hby d3_39) hr
    · show Q_eqC Z a o ax az ox oz h0 n0 _ T51.heap _
      rw [e51]
      exact ⟨by rw [own_eq, if_neg hc20_53], N0, rfl⟩
theorem ef_eqN (m : MethodId) (a : Addr) : entryFrame m #[(.ref a), .null] 3 = mkF m 0 #[.val (.ref a), .val .null, .unset] [] := by first | (simp [entryFrame, mkF, argsToLocals, Value.category]; done) | rfl
def Q_eqN (Z : State) (a : Addr) (h0 : Heap) (n0 : Nat) (v : Option Value) (h : Heap) (L : List Loc) : Prop := v = some (.int (0 : Int32)) ∧ Fr n0 L ∧ h = h0
set_option maxRecDepth 65536 in
set_option maxHeartbeats 40000000 in
theorem rm_eqN (l : Launch) (Z : State) (a0 : Array Value) (hw : ∀ d ∈ tables_1, d.before a0 Z = true) (ws : List Jvm.Cond) (a : Addr) (h0 : Heap) (n0 : Nat) (Z0 : n0 ≤ h0.size) :
    MetFree l (⟨"com/example/fissure/fissure/games/breakable/Cube", "equals", "(Ljava/lang/Object;)Z"⟩ : MethodName) (head1 (Jvm.Cond.code (⟨"com/example/fissure/fissure/games/breakable/Cube", "equals", "(Ljava/lang/Object;)Z"⟩ : MethodName) prog_23_method_8_code 3 (some .boolean) :: ws) ({ frames := 0, cells := 0, slots := 0, locals := 0 } : Room)) (fun a_ U_ => a_ = #[(.ref a), .null] ∧ Z.Warmed39 U_.vm ∧ U_.heap = h0) (fun _ _ _ _ _ => True) (fun _ U_ o_ V_ => ∃ v_ L_, o_ = .returned v_ ∧ Q_eqN Z a h0 n0 v_ V_.heap L_ ∧ FrameEnd U_ o_ V_ L_ ({ frames := 0, cells := 0, slots := 0, locals := 0 } : Room).cells ({ frames := 0, cells := 0, slots := 0, locals := 0 } : Room).slots) := by
  refine MetFree.of_bodySF (plainFor_of_name pn_0) hisR ?_
  intro p e s m args below meth c s₁ Bd hml0 hP hK
  obtain ⟨rfl, hZ, hh⟩ := hP
  have hx := Bd.exec
  have hby := Bd.bytes
  have hml : c.maxLocals = 3 := hml0
  have hown : s.vm.findClass "com/example/fissure/fissure/games/breakable/Cube" = some m.cls := findClass_of_methodNamed Bd.named
  have hnm := (name_of_methodNamed Bd.named Bd.method).1
  have X0 : Stand p l e ({ frames := 0, cells := 0, slots := 0, locals := 0 } : Room) s m #[(.ref a), .null] below meth c s₁ [] 0 0 := Stand.of_body Bd
  have e0 : s₁.heap = h0 := by rw [← hh, Bd.state]; rfl
  have N0 := Fr.nil n0
  have pre0 : ∀ t_, Steps p.tables e below (s₁.setTop (mkF m 0 #[.val (.ref a), .val .null, .unset] [])) t_ → Steps p.tables e below (s₁.setTop (entryFrame m #[(.ref a), .null] 3)) t_ := fun t_ k_ => castTop (ef_eqN m a) k_
  have O0 := own_ext_refl h0
  have pre61 : ∀ t_, Steps p.tables e below (s₁.setTop (mkF m 39 #[.val (.ref a), .val .null, .unset] [(.int (0 : Int32))])) t_ → Steps p.tables e below (s₁.setTop (entryFrame m #[(.ref a), .null] 3)) t_ := fun t_ k_ => pre0 t_ (by
    show Steps p.tables e below (s₁.setTop (mkF m 0 #[.val (.ref a), .val .null, .unset] [])) _
    refine XS.aloadN X0.here hx rfl (hb hby d3_0) rfl rfl ?_
    show Steps p.tables e below (s₁.setTop (mkF m 1 #[.val (.ref a), .val .null, .unset] [.null])) _
    refine X0.instanceofNull hx (g := (mkF m 1 #[.val (.ref a), .val .null, .unset] [.null])) rfl rfl (hb hby d3_1) _ ?_
    show Steps p.tables e below (s₁.setTop (mkF m 4 #[.val (.ref a), .val .null, .unset] [(.int (0 : Int32))])) _
    refine XS.ifYes X0.here hx rfl (pc0 := 4) (pc' := 38) rfl (hb hby d3_4) rfl ((if0 _ _).trans (teq (rfl : (0 : Int32) = (0 : Int32))).1) (by decide) (by decide) ?_
    show Steps p.tables e below (s₁.setTop (mkF m 38 #[.val (.ref a), .val .null, .unset] [])) _
    refine XS.iconst X0.here hx rfl (hb hby d3_38) ?_
    show Steps p.tables e below (s₁.setTop (mkF m 39 #[.val (.ref a), .val .null, .unset] [(.int (0 : Int32))])) _
    exact k_)
  obtain ⟨fs, hr, hrun, hended, hW, hsame⟩ := X0.leave (v := some (.int (0 : Int32))) (fun h => by rw [Bd.returns] at h; cases h)
  refine ⟨_, _, pre61 _ ?_, hrun, hended, _, _, rfl, ?_, ⟨_, rfl⟩, hW, hsame.mono (by decide) (by decide)⟩
  · show Steps p.tables e below (s₁.setTop (mkF m 39 #[.val (.ref a), .val .null, .unset] [(.int (0 : Int32))])) _
    exact retN X0 hx (t := .boolean) Bd.returns (by simp) (hb hby d3_39) hr
  · show Q_eqN Z a h0 n0 _ s₁.heap _
    rw [e0]
    exact ⟨rfl, N0, rfl⟩
theorem own_no (Z : State) (a0 : Array Value) (hw : ∀ d ∈ tables_1, d.before a0 Z = true) : ∃ c t, Z.vm.findClass "java/lang/Integer" = some c ∧ Z.vm.findClass "com/example/fissure/fissure/games/breakable/Cube" = some t ∧ Z.vm.assignable c t = false :=
  own_ns_no (hw _ (List.mem_of_getElem? (i := 43) rfl)) (hw _ (List.mem_of_getElem? (i := 1) rfl)) (NS.step (hw _ (List.mem_of_getElem? (i := 43) rfl)) (NS.step (hw _ (List.mem_of_getElem? (i := 44) rfl)) (own_ns_root (hw _ (List.mem_of_getElem? (i := 45) rfl)) (hw _ (List.mem_of_getElem? (i := 1) rfl)) (by decide)) (by decide)) (by decide)) (by decide)
theorem ef_eqI (m : MethodId) (a : Addr) (o : Addr) : entryFrame m #[(.ref a), (.ref o)] 3 = mkF m 0 #[.val (.ref a), .val (.ref o), .unset] [] := by first | (simp [entryFrame, mkF, argsToLocals, Value.category]; done) | rfl
def Q_eqI (Z : State) (a : Addr) (o : Addr) (h0 : Heap) (n0 : Nat) (v : Option Value) (h : Heap) (L : List Loc) : Prop := v = some (.int (0 : Int32)) ∧ Fr n0 L ∧ h = h0
set_option maxRecDepth 65536 in
set_option maxHeartbeats 40000000 in
theorem rm_eqI (l : Launch) (Z : State) (a0 : Array Value) (hw : ∀ d ∈ tables_1, d.before a0 Z = true) (ws : List Jvm.Cond) (a : Addr) (o : Addr) (h0 : Heap) (n0 : Nat) (Z0 : n0 ≤ h0.size) (E_o : Exa Z h0 o "java/lang/Integer") :
    MetFree l (⟨"com/example/fissure/fissure/games/breakable/Cube", "equals", "(Ljava/lang/Object;)Z"⟩ : MethodName) (head1 (Jvm.Cond.code (⟨"com/example/fissure/fissure/games/breakable/Cube", "equals", "(Ljava/lang/Object;)Z"⟩ : MethodName) prog_23_method_8_code 3 (some .boolean) :: ws) ({ frames := 0, cells := 0, slots := 0, locals := 0 } : Room)) (fun a_ U_ => a_ = #[(.ref a), (.ref o)] ∧ Z.Warmed39 U_.vm ∧ U_.heap = h0) (fun _ _ _ _ _ => True) (fun _ U_ o_ V_ => ∃ v_ L_, o_ = .returned v_ ∧ Q_eqI Z a o h0 n0 v_ V_.heap L_ ∧ FrameEnd U_ o_ V_ L_ ({ frames := 0, cells := 0, slots := 0, locals := 0 } : Room).cells ({ frames := 0, cells := 0, slots := 0, locals := 0 } : Room).slots) := by
  refine MetFree.of_bodySF (plainFor_of_name pn_0) hisR ?_
  intro p e s m args below meth c s₁ Bd hml0 hP hK
  obtain ⟨rfl, hZ, hh⟩ := hP
  have hx := Bd.exec
  have hby := Bd.bytes
  have hml : c.maxLocals = 3 := hml0
  have hown : s.vm.findClass "com/example/fissure/fissure/games/breakable/Cube" = some m.cls := findClass_of_methodNamed Bd.named
  have hnm := (name_of_methodNamed Bd.named Bd.method).1
  have X0 : Stand p l e ({ frames := 0, cells := 0, slots := 0, locals := 0 } : Room) s m #[(.ref a), (.ref o)] below meth c s₁ [] 0 0 := Stand.of_body Bd
  have e0 : s₁.heap = h0 := by rw [← hh, Bd.state]; rfl
  have N0 := Fr.nil n0
  have pre0 : ∀ t_, Steps p.tables e below (s₁.setTop (mkF m 0 #[.val (.ref a), .val (.ref o), .unset] [])) t_ → Steps p.tables e below (s₁.setTop (entryFrame m #[(.ref a), (.ref o)] 3)) t_ := fun t_ k_ => castTop (ef_eqI m a o) k_
  have O0 := own_ext_refl h0
  obtain ⟨T62, X62, e62, st62⟩ := instNo X0 hx hZ hown (hw _ (List.mem_of_getElem? (i := 20) rfl)) e0 E_o (own_no Z a0 hw) (g := (mkF m 1 #[.val (.ref a), .val (.ref o), .unset] [(.ref o)])) rfl rfl (hb hby d3_1)
  have pre63 : ∀ t_, Steps p.tables e below (T62.setTop (mkF m 39 #[.val (.ref a), .val (.ref o), .unset] [(.int (0 : Int32))])) t_ → Steps p.tables e below (s₁.setTop (entryFrame m #[(.ref a), (.ref o)] 3)) t_ := fun t_ k_ => pre0 t_ (by
    show Steps p.tables e below (s₁.setTop (mkF m 0 #[.val (.ref a), .val (.ref o), .unset] [])) _
    refine XS.aloadN X0.here hx rfl (hb hby d3_0) rfl rfl ?_
    show Steps p.tables e below (s₁.setTop (mkF m 1 #[.val (.ref a), .val (.ref o), .unset] [(.ref o)])) _
    refine st62 _ ?_
    show Steps p.tables e below (T62.setTop (mkF m 4 #[.val (.ref a), .val (.ref o), .unset] [(.int (0 : Int32))])) _
    refine XS.ifYes X62.here hx rfl (pc0 := 4) (pc' := 38) rfl (hb hby d3_4) rfl ((if0 _ _).trans (teq (rfl : (0 : Int32) = (0 : Int32))).1) (by decide) (by decide) ?_
    show Steps p.tables e below (T62.setTop (mkF m 38 #[.val (.ref a), .val (.ref o), .unset] [])) _
    refine XS.iconst X62.here hx rfl (hb hby d3_38) ?_
    show Steps p.tables e below (T62.setTop (mkF m 39 #[.val (.ref a), .val (.ref o), .unset] [(.int (0 : Int32))])) _
    exact k_)
  obtain ⟨fs, hr, hrun, hended, hW, hsame⟩ := X62.leave (v := some (.int (0 : Int32))) (fun h => by rw [Bd.returns] at h; cases h)
  refine ⟨_, _, pre63 _ ?_, hrun, hended, _, _, rfl, ?_, ⟨_, rfl⟩, hW, hsame.mono (by decide) (by decide)⟩
  · show Steps p.tables e below (T62.setTop (mkF m 39 #[.val (.ref a), .val (.ref o), .unset] [(.int (0 : Int32))])) _
    exact retN X62 hx (t := .boolean) Bd.returns (by simp) (hb hby d3_39) hr
  · show Q_eqI Z a o h0 n0 _ T62.heap _
    rw [e62]
    exact ⟨rfl, N0, rfl⟩
theorem own_self (x z : Int32) : own_eq x z x z = 1 := by rw [own_eq, if_pos rfl, if_pos rfl]
theorem own_yes {ax az ox oz : Int32} (h1 : ax = ox) (h2 : az = oz) : own_eq ax az ox oz = 1 := by rw [own_eq, if_pos h1.symm, if_pos h2.symm]
theorem own_n1 {ax az ox oz : Int32} (h1 : ¬ ax = ox) : own_eq ax az ox oz = 0 := by rw [own_eq, if_neg (fun h => h1 h.symm)]
theorem own_n2 {ax az ox oz : Int32} (h1 : ax = ox) (h2 : ¬ az = oz) : own_eq ax az ox oz = 0 := by rw [own_eq, if_pos h1.symm, if_neg (fun h => h2 h.symm)]
theorem ef_0 (m : MethodId) (k0 : Int32) (k1 : Int32) (k2 : Int32) (k3 : Int32) (k4 : Int32) : entryFrame m #[(.int k0), (.int k1), (.int k2), (.int k3), (.int k4)] maxLocals = mkF m 0 #[.val (.int k0), .val (.int k1), .val (.int k2), .val (.int k3), .val (.int k4), .unset, .unset, .unset, .unset, .unset, .unset, .unset] [] := by first | (simp [entryFrame, mkF, argsToLocals, Value.category, maxLocals]; done) | rfl
def Q_0 (Z : State) (k0 : Int32) (k1 : Int32) (k2 : Int32) (k3 : Int32) (k4 : Int32) (w_cache : Addr) (cl_cache : Cell) (bx : Int32 → Value) (h0 : Heap) (n0 : Nat) (v : Option Value) (h : Heap) (L : List Loc) : Prop := v = some (.int (1 : Int32)) ∧ Fr n0 L
theorem pn_3 : plainName "com/example/fissure/fissure/games/breakable/CubeEqualsPinLaw" = true := by first | (simp [plainName, overriddenIn]; done) | decide +kernel
theorem pd_2 : parseMethodDescriptor "(II)V" = some ⟨[.int, .int], none⟩ := by decide +kernel
theorem pd_3 : parseMethodDescriptor "(Ljava/lang/Object;)Z" = some ⟨[(.object "java/lang/Object")], some .boolean⟩ := by decide +kernel
theorem pd_4 : parseMethodDescriptor "(I)Ljava/lang/Integer;" = some ⟨[.int], some (.object "java/lang/Integer")⟩ := by decide +kernel
set_option maxRecDepth 65536 in
set_option maxHeartbeats 40000000 in
theorem rm_0 (l : Launch) (Z : State) (a0 : Array Value) (hw : ∀ d ∈ tables_1, d.before a0 Z = true) (ws : List Jvm.Cond) (k0 : Int32) (k1 : Int32) (k2 : Int32) (k3 : Int32) (k4 : Int32) (w_cache : Addr) (cl_cache : Cell) (bx : Int32 → Value) (h0 : Heap) (n0 : Nat) (Z0 : n0 ≤ h0.size) (S_high : Sta Z h0 "java/lang/Integer$IntegerCache" "high" "I" (.int (127 : Int32))) (S_cache : Sta Z h0 "java/lang/Integer$IntegerCache" "cache" "[Ljava/lang/Integer;" (.ref w_cache)) (Bx : Bxs Z w_cache cl_cache "java/lang/Integer" "I" (256 : Int32) bx) (Oz : Ext Z.heap h0) :
    MetFree l x (head1 (Jvm.Cond.code x code maxLocals ret :: ws) room_1) (fun a_ U_ => a_ = #[(.int k0), (.int k1), (.int k2), (.int k3), (.int k4)] ∧ Z.Warmed39 U_.vm ∧ U_.heap = h0) (fun _ _ _ _ _ => True) (fun _ U_ o_ V_ => ∃ v_ L_, o_ = .returned v_ ∧ Q_0 Z k0 k1 k2 k3 k4 w_cache cl_cache bx h0 n0 v_ V_.heap L_ ∧ FrameEnd U_ o_ V_ L_ room_1.cells room_1.slots) := by
  refine MetFree.of_bodySF (plainFor_of_name pn_3) hisR ?_
  intro p e s m args below meth c s₁ Bd hml0 hP hK
  obtain ⟨rfl, hZ, hh⟩ := hP
  have hx := Bd.exec
  have hby := Bd.bytes
  have hml : c.maxLocals = 12 := hml0
  have hown : s.vm.findClass "com/example/fissure/fissure/games/breakable/CubeEqualsPinLaw" = some m.cls := findClass_of_methodNamed Bd.named
  have hnm := (name_of_methodNamed Bd.named Bd.method).1
  have X0 : Stand p l e room_1 s m #[(.int k0), (.int k1), (.int k2), (.int k3), (.int k4)] below meth c s₁ [] 0 0 := Stand.of_body Bd
  have e0 : s₁.heap = h0 := by rw [← hh, Bd.state]; rfl
  have N0 := Fr.nil n0
  have pre0 : ∀ t_, Steps p.tables e below (s₁.setTop (mkF m 0 #[.val (.int k0), .val (.int k1), .val (.int k2), .val (.int k3), .val (.int k4), .unset, .unset, .unset, .unset, .unset, .unset, .unset] [])) t_ → Steps p.tables e below (s₁.setTop (entryFrame m #[(.int k0), (.int k1), (.int k2), (.int k3), (.int k4)] maxLocals)) t_ := fun t_ k_ => castTop (ef_0 m k0 k1 k2 k3 k4) k_
  have O0 := own_ext_refl h0
  obtain ⟨T64, h64, X64, e64, E64, A64, D64, -, st64⟩ := newO X0 hx hZ hown (hw _ (List.mem_of_getElem? (i := 0) rfl)) (hw _ (List.mem_of_getElem? (i := 1) rfl)) (hw _ (List.mem_of_getElem? (i := 2) rfl)) e0 (g := (mkF m 0 #[.val (.int k0), .val (.int k1), .val (.int k2), .val (.int k3), .val (.int k4), .unset, .unset, .unset, .unset, .unset, .unset, .unset] [])) rfl (hb hby at_0) (by decide) (by decide)
  obtain ⟨b64, g64⟩ : ∃ z, z = h0.size := ⟨_, rfl⟩
  rw [← g64] at A64 D64 st64
  have gg_b64 : n0 ≤ b64 := Nat.le_trans Z0 (Nat.le_of_eq g64.symm)
  have sz_b64 : h0.size ≤ b64 := Nat.le_trans O0.1 (Nat.le_of_eq g64.symm)
  have O65 := own_ext_trans O0 E64
  have Zs65 := Nat.le_trans Z0 (E64).1
  have c66 : Sta Z h64 "java/lang/Integer$IntegerCache" "high" "I" (.int (127 : Int32)) := S_high.ext E64
  have c67 : Sta Z h64 "java/lang/Integer$IntegerCache" "cache" "[Ljava/lang/Integer;" (.ref w_cache) := S_cache.ext E64
  have F64_x : Fld Z h64 b64 "com/example/fissure/fissure/games/breakable/Cube" "x" "I" (.int (0 : Int32)) := D64 (Or.inr (hw _ (List.mem_of_getElem? (i := 10) rfl))) (ty := .int) (by decide)
  have F64_y : Fld Z h64 b64 "com/example/fissure/fissure/games/breakable/Cube" "y" "I" (.int (0 : Int32)) := D64 (Or.inr (hw _ (List.mem_of_getElem? (i := 12) rfl))) (ty := .int) (by decide)
  have F64_z : Fld Z h64 b64 "com/example/fissure/fissure/games/breakable/Cube" "z" "I" (.int (0 : Int32)) := D64 (Or.inr (hw _ (List.mem_of_getElem? (i := 14) rfl))) (ty := .int) (by decide)
  obtain ⟨v68, _, ⟨T68, L68, k68, n68⟩, -, X68, ⟨Lc68, hQ68, l68, y68, z68⟩, st68⟩ := X64.specialBack hx (y := (⟨"com/example/fissure/fissure/games/breakable/Cube", "<init>", "(II)V"⟩ : MethodName)) rfl hown (mvT hZ (hw _ (List.mem_of_getElem? (i := 3) rfl))) (mvT hZ (hw _ (List.mem_of_getElem? (i := 4) rfl))) (mvT hZ (hw _ (List.mem_of_getElem? (i := 5) rfl))) (by decide) (backOf (W := 1) (rm_init l Z a0 hw [] b64 k0 k1 (.int (0 : Int32)) (.int (0 : Int32)) (.int (0 : Int32)) h64 n0 Zs65 A64 gg_b64 F64_x F64_y F64_z) hZ (hw _ (List.mem_of_getElem? (i := 5) rfl)) (hw _ (List.mem_of_getElem? (i := 2) rfl)) (by decide) (by decide)) (g := (mkF m 6 #[.val (.int k0), .val (.int k1), .val (.int k2), .val (.int k3), .val (.int k4), .unset, .unset, .unset, .unset, .unset, .unset, .unset] [(.int k1), (.int k0), (.ref b64), (.ref b64)])) rfl (by rw [hml]; rfl) (Steps.refl _) (a := b64) (argsL := [(.int k0), (.int k1)]) (rest := [(.ref b64)]) (lenOf pd_2 rfl) rfl (by show 2 * 0 + _ ≤ _; exact Nat.le_of_eq rfl) (hb hby at_6) (fun _ _ => ⟨rfl, e64, (by decide : 1 + 0 ≤ _), (by decide : 3 + 0 ≤ _)⟩)
  dsimp only [Pt.U, Pt.locs, Pt.cells, Pt.slots] at X68 l68 y68 z68 st68 hQ68
  subst l68 y68 z68
  obtain ⟨hv68, N68q, M68⟩ := hQ68
  have N68 := Fr.app N0 N68q
  subst hv68
  obtain ⟨K68k, E68x, F68_x, F68_z⟩ := M68
  have O69 := own_ext_keep O65 K68k (allS sz_b64 all0)
  have Zs69 := Nat.le_trans Zs65 K68k.1
  have c70 : Exa Z T68.heap b64 "com/example/fissure/fissure/games/breakable/Cube" := A64.keep K68k
  have pre71 : ∀ t_, Steps p.tables e below (T68.setTop (mkF m 15 #[.val (.int k0), .val (.int k1), .val (.int k2), .val (.int k3), .val (.int k4), .val (.ref b64), .unset, .unset, .unset, .unset, .unset, .unset] [(.int (k4 &&& (1 : Int32)))])) t_ → Steps p.tables e below (s₁.setTop (entryFrame m #[(.int k0), (.int k1), (.int k2), (.int k3), (.int k4)] maxLocals)) t_ := fun t_ k_ => pre0 t_ (by
    show Steps p.tables e below (s₁.setTop (mkF m 0 #[.val (.int k0), .val (.int k1), .val (.int k2), .val (.int k3), .val (.int k4), .unset, .unset, .unset, .unset, .unset, .unset, .unset] [])) _
    refine st64 _ ?_
    show Steps p.tables e below (T64.setTop (mkF m 3 #[.val (.int k0), .val (.int k1), .val (.int k2), .val (.int k3), .val (.int k4), .unset, .unset, .unset, .unset, .unset, .unset, .unset] [(.ref b64)])) _
    refine XS.dup X64.here hx rfl (hb hby at_3) rfl rfl ?_
    show Steps p.tables e below (T64.setTop (mkF m 4 #[.val (.int k0), .val (.int k1), .val (.int k2), .val (.int k3), .val (.int k4), .unset, .unset, .unset, .unset, .unset, .unset, .unset] [(.ref b64), (.ref b64)])) _
    refine XS.iloadN X64.here hx rfl (hb hby at_4) rfl ?_
    show Steps p.tables e below (T64.setTop (mkF m 5 #[.val (.int k0), .val (.int k1), .val (.int k2), .val (.int k3), .val (.int k4), .unset, .unset, .unset, .unset, .unset, .unset, .unset] [(.int k0), (.ref b64), (.ref b64)])) _
    refine XS.iloadN X64.here hx rfl (hb hby at_5) rfl ?_
    show Steps p.tables e below (T64.setTop (mkF m 6 #[.val (.int k0), .val (.int k1), .val (.int k2), .val (.int k3), .val (.int k4), .unset, .unset, .unset, .unset, .unset, .unset, .unset] [(.int k1), (.int k0), (.ref b64), (.ref b64)])) _
    refine st68.trans ?_
    show Steps p.tables e below (T68.setTop (mkF m 9 #[.val (.int k0), .val (.int k1), .val (.int k2), .val (.int k3), .val (.int k4), .unset, .unset, .unset, .unset, .unset, .unset, .unset] [(.ref b64)])) _
    refine XS.astore X68.here hx rfl (hb hby at_9) rfl rfl (l' := #[.val (.int k0), .val (.int k1), .val (.int k2), .val (.int k3), .val (.int k4), .val (.ref b64), .unset, .unset, .unset, .unset, .unset, .unset]) rfl ?_
    show Steps p.tables e below (T68.setTop (mkF m 11 #[.val (.int k0), .val (.int k1), .val (.int k2), .val (.int k3), .val (.int k4), .val (.ref b64), .unset, .unset, .unset, .unset, .unset, .unset] [])) _
    refine XS.iload X68.here hx rfl (hb hby at_11) rfl ?_
    show Steps p.tables e below (T68.setTop (mkF m 13 #[.val (.int k0), .val (.int k1), .val (.int k2), .val (.int k3), .val (.int k4), .val (.ref b64), .unset, .unset, .unset, .unset, .unset, .unset] [(.int k4)])) _
    refine XS.iconst X68.here hx rfl (hb hby at_13) ?_
    show Steps p.tables e below (T68.setTop (mkF m 14 #[.val (.int k0), .val (.int k1), .val (.int k2), .val (.int k3), .val (.int k4), .val (.ref b64), .unset, .unset, .unset, .unset, .unset, .unset] [(.int (1 : Int32)), (.int k4)])) _
    refine XS.iand X68.here hx rfl (hb hby at_14) rfl ?_
    show Steps p.tables e below (T68.setTop (mkF m 15 #[.val (.int k0), .val (.int k1), .val (.int k2), .val (.int k3), .val (.int k4), .val (.ref b64), .unset, .unset, .unset, .unset, .unset, .unset] [(.int (k4 &&& (1 : Int32)))])) _
    exact k_)
  by_cases hc15_72 : (k4 &&& (1 : Int32)) = (0 : Int32)
  · have pre73 : ∀ t_, Steps p.tables e below (T68.setTop (mkF m 29 #[.val (.int k0), .val (.int k1), .val (.int k2), .val (.int k3), .val (.int k4), .val (.ref b64), .val (.int k2), .unset, .unset, .unset, .unset, .unset] [(.int (k4 &&& (2 : Int32)))])) t_ → Steps p.tables e below (s₁.setTop (entryFrame m #[(.int k0), (.int k1), (.int k2), (.int k3), (.int k4)] maxLocals)) t_ := fun t_ k_ => pre71 t_ (by
      show Steps p.tables e below (T68.setTop (mkF m 15 #[.val (.int k0), .val (.int k1), .val (.int k2), .val (.int k3), .val (.int k4), .val (.ref b64), .unset, .unset, .unset, .unset, .unset, .unset] [(.int (k4 &&& (1 : Int32)))])) _
      refine XS.ifYes X68.here hx rfl (pc0 := 15) (pc' := 22) rfl (hb hby at_15) rfl ((if0 _ _).trans (teq hc15_72).1) (by decide) (by decide) ?_
      show Steps p.tables e below (T68.setTop (mkF m 22 #[.val (.int k0), .val (.int k1), .val (.int k2), .val (.int k3), .val (.int k4), .val (.ref b64), .unset, .unset, .unset, .unset, .unset, .unset] [])) _
      refine XS.iloadN X68.here hx rfl (hb hby at_22) rfl ?_
      show Steps p.tables e below (T68.setTop (mkF m 23 #[.val (.int k0), .val (.int k1), .val (.int k2), .val (.int k3), .val (.int k4), .val (.ref b64), .unset, .unset, .unset, .unset, .unset, .unset] [(.int k2)])) _
      refine XS.istore X68.here hx rfl (hb hby at_23) rfl (l' := #[.val (.int k0), .val (.int k1), .val (.int k2), .val (.int k3), .val (.int k4), .val (.ref b64), .val (.int k2), .unset, .unset, .unset, .unset, .unset]) rfl ?_
      show Steps p.tables e below (T68.setTop (mkF m 25 #[.val (.int k0), .val (.int k1), .val (.int k2), .val (.int k3), .val (.int k4), .val (.ref b64), .val (.int k2), .unset, .unset, .unset, .unset, .unset] [])) _
      refine XS.iload X68.here hx rfl (hb hby at_25) rfl ?_
      show Steps p.tables e below (T68.setTop (mkF m 27 #[.val (.int k0), .val (.int k1), .val (.int k2), .val (.int k3), .val (.int k4), .val (.ref b64), .val (.int k2), .unset, .unset, .unset, .unset, .unset] [(.int k4)])) _
      refine XS.iconst X68.here hx rfl (hb hby at_27) ?_
      show Steps p.tables e below (T68.setTop (mkF m 28 #[.val (.int k0), .val (.int k1), .val (.int k2), .val (.int k3), .val (.int k4), .val (.ref b64), .val (.int k2), .unset, .unset, .unset, .unset, .unset] [(.int (2 : Int32)), (.int k4)])) _
      refine XS.iand X68.here hx rfl (hb hby at_28) rfl ?_
      show Steps p.tables e below (T68.setTop (mkF m 29 #[.val (.int k0), .val (.int k1), .val (.int k2), .val (.int k3), .val (.int k4), .val (.ref b64), .val (.int k2), .unset, .unset, .unset, .unset, .unset] [(.int (k4 &&& (2 : Int32)))])) _
      exact k_)
    by_cases hc29_74 : (k4 &&& (2 : Int32)) = (0 : Int32)
    · obtain ⟨T75, h75, X75, e75, E75, A75, D75, -, st75⟩ := newO X68 hx hZ hown (hw _ (List.mem_of_getElem? (i := 0) rfl)) (hw _ (List.mem_of_getElem? (i := 1) rfl)) (hw _ (List.mem_of_getElem? (i := 2) rfl)) rfl (g := (mkF m 39 #[.val (.int k0), .val (.int k1), .val (.int k2), .val (.int k3), .val (.int k4), .val (.ref b64), .val (.int k2), .val (.int k3), .unset, .unset, .unset, .unset] [])) rfl (hb hby at_39) (by decide) (by decide)
      obtain ⟨b75, g75⟩ : ∃ z, z = T68.heap.size := ⟨_, rfl⟩
      rw [← g75] at A75 D75 st75
      have ne_b64_b75 : b64 ≠ b75 := Nat.ne_of_lt (Nat.lt_of_lt_of_le E68x.lt (Nat.le_of_eq g75.symm))
      have gg_b75 : n0 ≤ b75 := Nat.le_trans Zs69 (Nat.le_of_eq g75.symm)
      have sz_b75 : h0.size ≤ b75 := Nat.le_trans O69.1 (Nat.le_of_eq g75.symm)
      have O76 := own_ext_trans O69 E75
      have Zs76 := Nat.le_trans Zs69 (E75).1
      have c77 : Exa Z h75 b64 "com/example/fissure/fissure/games/breakable/Cube" := E68x.ext E75
      have c78 : Fld Z h75 b64 "com/example/fissure/fissure/games/breakable/Cube" "x" "I" (.int k0) := F68_x.ext E75
      have c79 : Fld Z h75 b64 "com/example/fissure/fissure/games/breakable/Cube" "z" "I" (.int k1) := F68_z.ext E75
      have F75_x : Fld Z h75 b75 "com/example/fissure/fissure/games/breakable/Cube" "x" "I" (.int (0 : Int32)) := D75 (Or.inr (hw _ (List.mem_of_getElem? (i := 10) rfl))) (ty := .int) (by decide)
      have F75_y : Fld Z h75 b75 "com/example/fissure/fissure/games/breakable/Cube" "y" "I" (.int (0 : Int32)) := D75 (Or.inr (hw _ (List.mem_of_getElem? (i := 12) rfl))) (ty := .int) (by decide)
      have F75_z : Fld Z h75 b75 "com/example/fissure/fissure/games/breakable/Cube" "z" "I" (.int (0 : Int32)) := D75 (Or.inr (hw _ (List.mem_of_getElem? (i := 14) rfl))) (ty := .int) (by decide)
      obtain ⟨v80, _, ⟨T80, L80, k80, n80⟩, -, X80, ⟨Lc80, hQ80, l80, y80, z80⟩, st80⟩ := X75.specialBack hx (y := (⟨"com/example/fissure/fissure/games/breakable/Cube", "<init>", "(II)V"⟩ : MethodName)) rfl hown (mvT hZ (hw _ (List.mem_of_getElem? (i := 3) rfl))) (mvT hZ (hw _ (List.mem_of_getElem? (i := 4) rfl))) (mvT hZ (hw _ (List.mem_of_getElem? (i := 5) rfl))) (by decide) (backOf (W := 1) (rm_init l Z a0 hw [] b75 k2 k3 (.int (0 : Int32)) (.int (0 : Int32)) (.int (0 : Int32)) h75 n0 Zs76 A75 gg_b75 F75_x F75_y F75_z) hZ (hw _ (List.mem_of_getElem? (i := 5) rfl)) (hw _ (List.mem_of_getElem? (i := 2) rfl)) (by decide) (by decide)) (g := (mkF m 47 #[.val (.int k0), .val (.int k1), .val (.int k2), .val (.int k3), .val (.int k4), .val (.ref b64), .val (.int k2), .val (.int k3), .unset, .unset, .unset, .unset] [(.int k3), (.int k2), (.ref b75), (.ref b75)])) rfl (by rw [hml]; rfl) (Steps.refl _) (a := b75) (argsL := [(.int k2), (.int k3)]) (rest := [(.ref b75)]) (lenOf pd_2 rfl) rfl (by show 2 * 0 + _ ≤ _; exact Nat.le_of_eq rfl) (hb hby at_47) (fun _ _ => ⟨rfl, e75, (by decide : 2 + 0 ≤ _), (by decide : 6 + 0 ≤ _)⟩)
      dsimp only [Pt.U, Pt.locs, Pt.cells, Pt.slots] at X80 l80 y80 z80 st80 hQ80
      subst l80 y80 z80
      obtain ⟨hv80, N80q, M80⟩ := hQ80
      have N80 := Fr.app N68 N80q
      subst hv80
      obtain ⟨K80k, E80x, F80_x, F80_z⟩ := M80
      have O81 := own_ext_keep O76 K80k (allS sz_b75 all0)
      have Zs81 := Nat.le_trans Zs76 K80k.1
      have c82 : Exa Z T80.heap b64 "com/example/fissure/fissure/games/breakable/Cube" := c77.keep K80k
      have c83 : Fld Z T80.heap b64 "com/example/fissure/fissure/games/breakable/Cube" "x" "I" (.int k0) := c78.keep K80k (ninS ne_b64_b75 nin0)
      have c84 : Fld Z T80.heap b64 "com/example/fissure/fissure/games/breakable/Cube" "z" "I" (.int k1) := c79.keep K80k (ninS ne_b64_b75 nin0)
      have c85 : Exa Z T80.heap b75 "com/example/fissure/fissure/games/breakable/Cube" := A75.keep K80k
      have pre86 : ∀ t_, Steps p.tables e below (T80.setTop (mkF m 63 #[.val (.int k0), .val (.int k1), .val (.int k2), .val (.int k3), .val (.int k4), .val (.ref b64), .val (.int k2), .val (.int k3), .val (.ref b75), .val (.int (((k4.toUInt32 >>> ((2 : Int32) &&& 31).toUInt32).toInt32) &&& (3 : Int32))), .unset, .unset] [(.int (1 : Int32)), (.int (((k4.toUInt32 >>> ((2 : Int32) &&& 31).toUInt32).toInt32) &&& (3 : Int32)))])) t_ → Steps p.tables e below (s₁.setTop (entryFrame m #[(.int k0), (.int k1), (.int k2), (.int k3), (.int k4)] maxLocals)) t_ := fun t_ k_ => pre73 t_ (by
        show Steps p.tables e below (T68.setTop (mkF m 29 #[.val (.int k0), .val (.int k1), .val (.int k2), .val (.int k3), .val (.int k4), .val (.ref b64), .val (.int k2), .unset, .unset, .unset, .unset, .unset] [(.int (k4 &&& (2 : Int32)))])) _
        refine XS.ifYes X68.here hx rfl (pc0 := 29) (pc' := 36) rfl (hb hby at_29) rfl ((if0 _ _).trans (teq hc29_74).1) (by decide) (by decide) ?_
        show Steps p.tables e below (T68.setTop (mkF m 36 #[.val (.int k0), .val (.int k1), .val (.int k2), .val (.int k3), .val (.int k4), .val (.ref b64), .val (.int k2), .unset, .unset, .unset, .unset, .unset] [])) _
        refine XS.iloadN X68.here hx rfl (hb hby at_36) rfl ?_
        show Steps p.tables e below (T68.setTop (mkF m 37 #[.val (.int k0), .val (.int k1), .val (.int k2), .val (.int k3), .val (.int k4), .val (.ref b64), .val (.int k2), .unset, .unset, .unset, .unset, .unset] [(.int k3)])) _
        refine XS.istore X68.here hx rfl (hb hby at_37) rfl (l' := #[.val (.int k0), .val (.int k1), .val (.int k2), .val (.int k3), .val (.int k4), .val (.ref b64), .val (.int k2), .val (.int k3), .unset, .unset, .unset, .unset]) rfl ?_
        show Steps p.tables e below (T68.setTop (mkF m 39 #[.val (.int k0), .val (.int k1), .val (.int k2), .val (.int k3), .val (.int k4), .val (.ref b64), .val (.int k2), .val (.int k3), .unset, .unset, .unset, .unset] [])) _
        refine st75 _ ?_
        show Steps p.tables e below (T75.setTop (mkF m 42 #[.val (.int k0), .val (.int k1), .val (.int k2), .val (.int k3), .val (.int k4), .val (.ref b64), .val (.int k2), .val (.int k3), .unset, .unset, .unset, .unset] [(.ref b75)])) _
        refine XS.dup X75.here hx rfl (hb hby at_42) rfl rfl ?_
        show Steps p.tables e below (T75.setTop (mkF m 43 #[.val (.int k0), .val (.int k1), .val (.int k2), .val (.int k3), .val (.int k4), .val (.ref b64), .val (.int k2), .val (.int k3), .unset, .unset, .unset, .unset] [(.ref b75), (.ref b75)])) _
        refine XS.iload X75.here hx rfl (hb hby at_43) rfl ?_
        show Steps p.tables e below (T75.setTop (mkF m 45 #[.val (.int k0), .val (.int k1), .val (.int k2), .val (.int k3), .val (.int k4), .val (.ref b64), .val (.int k2), .val (.int k3), .unset, .unset, .unset, .unset] [(.int k2), (.ref b75), (.ref b75)])) _
        refine XS.iload X75.here hx rfl (hb hby at_45) rfl ?_
        show Steps p.tables e below (T75.setTop (mkF m 47 #[.val (.int k0), .val (.int k1), .val (.int k2), .val (.int k3), .val (.int k4), .val (.ref b64), .val (.int k2), .val (.int k3), .unset, .unset, .unset, .unset] [(.int k3), (.int k2), (.ref b75), (.ref b75)])) _
        refine st80.trans ?_
        show Steps p.tables e below (T80.setTop (mkF m 50 #[.val (.int k0), .val (.int k1), .val (.int k2), .val (.int k3), .val (.int k4), .val (.ref b64), .val (.int k2), .val (.int k3), .unset, .unset, .unset, .unset] [(.ref b75)])) _
        refine XS.astore X80.here hx rfl (hb hby at_50) rfl rfl (l' := #[.val (.int k0), .val (.int k1), .val (.int k2), .val (.int k3), .val (.int k4), .val (.ref b64), .val (.int k2), .val (.int k3), .val (.ref b75), .unset, .unset, .unset]) rfl ?_
        show Steps p.tables e below (T80.setTop (mkF m 52 #[.val (.int k0), .val (.int k1), .val (.int k2), .val (.int k3), .val (.int k4), .val (.ref b64), .val (.int k2), .val (.int k3), .val (.ref b75), .unset, .unset, .unset] [])) _
        refine XS.iload X80.here hx rfl (hb hby at_52) rfl ?_
        show Steps p.tables e below (T80.setTop (mkF m 54 #[.val (.int k0), .val (.int k1), .val (.int k2), .val (.int k3), .val (.int k4), .val (.ref b64), .val (.int k2), .val (.int k3), .val (.ref b75), .unset, .unset, .unset] [(.int k4)])) _
        refine XS.iconst X80.here hx rfl (hb hby at_54) ?_
        show Steps p.tables e below (T80.setTop (mkF m 55 #[.val (.int k0), .val (.int k1), .val (.int k2), .val (.int k3), .val (.int k4), .val (.ref b64), .val (.int k2), .val (.int k3), .val (.ref b75), .unset, .unset, .unset] [(.int (2 : Int32)), (.int k4)])) _
        refine XS.iushr X80.here hx rfl (hb hby at_55) rfl ?_
        show Steps p.tables e below (T80.setTop (mkF m 56 #[.val (.int k0), .val (.int k1), .val (.int k2), .val (.int k3), .val (.int k4), .val (.ref b64), .val (.int k2), .val (.int k3), .val (.ref b75), .unset, .unset, .unset] [(.int ((k4.toUInt32 >>> ((2 : Int32) &&& 31).toUInt32).toInt32))])) _
        refine XS.iconst X80.here hx rfl (hb hby at_56) ?_
        show Steps p.tables e below (T80.setTop (mkF m 57 #[.val (.int k0), .val (.int k1), .val (.int k2), .val (.int k3), .val (.int k4), .val (.ref b64), .val (.int k2), .val (.int k3), .val (.ref b75), .unset, .unset, .unset] [(.int (3 : Int32)), (.int ((k4.toUInt32 >>> ((2 : Int32) &&& 31).toUInt32).toInt32))])) _
        refine XS.iand X80.here hx rfl (hb hby at_57) rfl ?_
        show Steps p.tables e below (T80.setTop (mkF m 58 #[.val (.int k0), .val (.int k1), .val (.int k2), .val (.int k3), .val (.int k4), .val (.ref b64), .val (.int k2), .val (.int k3), .val (.ref b75), .unset, .unset, .unset] [(.int (((k4.toUInt32 >>> ((2 : Int32) &&& 31).toUInt32).toInt32) &&& (3 : Int32)))])) _
        refine XS.istore X80.here hx rfl (hb hby at_58) rfl (l' := #[.val (.int k0), .val (.int k1), .val (.int k2), .val (.int k3), .val (.int k4), .val (.ref b64), .val (.int k2), .val (.int k3), .val (.ref b75), .val (.int (((k4.toUInt32 >>> ((2 : Int32) &&& 31).toUInt32).toInt32) &&& (3 : Int32))), .unset, .unset]) rfl ?_
        show Steps p.tables e below (T80.setTop (mkF m 60 #[.val (.int k0), .val (.int k1), .val (.int k2), .val (.int k3), .val (.int k4), .val (.ref b64), .val (.int k2), .val (.int k3), .val (.ref b75), .val (.int (((k4.toUInt32 >>> ((2 : Int32) &&& 31).toUInt32).toInt32) &&& (3 : Int32))), .unset, .unset] [])) _
        refine XS.iload X80.here hx rfl (hb hby at_60) rfl ?_
        show Steps p.tables e below (T80.setTop (mkF m 62 #[.val (.int k0), .val (.int k1), .val (.int k2), .val (.int k3), .val (.int k4), .val (.ref b64), .val (.int k2), .val (.int k3), .val (.ref b75), .val (.int (((k4.toUInt32 >>> ((2 : Int32) &&& 31).toUInt32).toInt32) &&& (3 : Int32))), .unset, .unset] [(.int (((k4.toUInt32 >>> ((2 : Int32) &&& 31).toUInt32).toInt32) &&& (3 : Int32)))])) _
        refine XS.iconst X80.here hx rfl (hb hby at_62) ?_
        show Steps p.tables e below (T80.setTop (mkF m 63 #[.val (.int k0), .val (.int k1), .val (.int k2), .val (.int k3), .val (.int k4), .val (.ref b64), .val (.int k2), .val (.int k3), .val (.ref b75), .val (.int (((k4.toUInt32 >>> ((2 : Int32) &&& 31).toUInt32).toInt32) &&& (3 : Int32))), .unset, .unset] [(.int (1 : Int32)), (.int (((k4.toUInt32 >>> ((2 : Int32) &&& 31).toUInt32).toInt32) &&& (3 : Int32)))])) _
        exact k_)
      by_cases hc63_87 : (((k4.toUInt32 >>> ((2 : Int32) &&& 31).toUInt32).toInt32) &&& (3 : Int32)) = (1 : Int32)
      · obtain ⟨cq88, kq88, q88a, q88b, q88c⟩ := isOf hZ rfl c82
        obtain ⟨v88, _, ⟨T88, L88, k88, n88⟩, -, X88, ⟨Lc88, hQ88, l88, y88, z88⟩, st88⟩ := X80.virtualBack hx (y := (⟨"com/example/fissure/fissure/games/breakable/Cube", "equals", "(Ljava/lang/Object;)Z"⟩ : MethodName)) (z := (⟨"com/example/fissure/fissure/games/breakable/Cube", "equals", "(Ljava/lang/Object;)Z"⟩ : MethodName)) hown (mvT hZ (hw _ (List.mem_of_getElem? (i := 15) rfl))) (mvT hZ (hw _ (List.mem_of_getElem? (i := 16) rfl))) (notFace_of_selects (args := #[]) (mvT hZ (hw _ (List.mem_of_getElem? (i := 18) rfl)))) (mvT hZ (hw _ (List.mem_of_getElem? (i := 18) rfl))) (mvT hZ (hw _ (List.mem_of_getElem? (i := 17) rfl))) (by decide) (backOf (W := 0) (rm_eqN l Z a0 hw [] b64 T80.heap n0 Zs81 ) hZ (hw _ (List.mem_of_getElem? (i := 19) rfl)) (hw _ (List.mem_of_getElem? (i := 2) rfl)) (by decide) (by decide)) q88a q88c (g := (mkF m 136 #[.val (.int k0), .val (.int k1), .val (.int k2), .val (.int k3), .val (.int k4), .val (.ref b64), .val (.int k2), .val (.int k3), .val (.ref b75), .val (.int (((k4.toUInt32 >>> ((2 : Int32) &&& 31).toUInt32).toInt32) &&& (3 : Int32))), .val .null, .val (.int (0 : Int32))] [.null, (.ref b64)])) rfl (by rw [hml]; rfl) (Steps.refl _) (argsL := [.null]) (rest := []) (lenOf pd_3 rfl) rfl (by show 2 * 0 + _ ≤ _; exact Nat.le_of_eq rfl) (hb hby at_136) (fun _ _ => ⟨rfl, rfl, (by decide : 2 + 0 ≤ _), (by decide : 6 + 0 ≤ _)⟩)
        dsimp only [Pt.U, Pt.locs, Pt.cells, Pt.slots] at X88 l88 y88 z88 st88 hQ88
        subst l88 y88 z88
        obtain ⟨hv88, N88q, e88⟩ := hQ88
        have N88 := Fr.app N80 N88q
        subst hv88
        have pre89 : ∀ t_, Steps p.tables e below (T88.setTop (mkF m 166 #[.val (.int k0), .val (.int k1), .val (.int k2), .val (.int k3), .val (.int k4), .val (.ref b64), .val (.int k2), .val (.int k3), .val (.ref b75), .val (.int (((k4.toUInt32 >>> ((2 : Int32) &&& 31).toUInt32).toInt32) &&& (3 : Int32))), .val .null, .val (.int (0 : Int32))] [(.int (1 : Int32))])) t_ → Steps p.tables e below (s₁.setTop (entryFrame m #[(.int k0), (.int k1), (.int k2), (.int k3), (.int k4)] maxLocals)) t_ := fun t_ k_ => pre86 t_ (by
          show Steps p.tables e below (T80.setTop (mkF m 63 #[.val (.int k0), .val (.int k1), .val (.int k2), .val (.int k3), .val (.int k4), .val (.ref b64), .val (.int k2), .val (.int k3), .val (.ref b75), .val (.int (((k4.toUInt32 >>> ((2 : Int32) &&& 31).toUInt32).toInt32) &&& (3 : Int32))), .unset, .unset] [(.int (1 : Int32)), (.int (((k4.toUInt32 >>> ((2 : Int32) &&& 31).toUInt32).toInt32) &&& (3 : Int32)))])) _
          refine XS.icmpNo X80.here hx rfl (hb hby at_63) rfl (teq hc63_87).2 ?_
          show Steps p.tables e below (T80.setTop (mkF m 66 #[.val (.int k0), .val (.int k1), .val (.int k2), .val (.int k3), .val (.int k4), .val (.ref b64), .val (.int k2), .val (.int k3), .val (.ref b75), .val (.int (((k4.toUInt32 >>> ((2 : Int32) &&& 31).toUInt32).toInt32) &&& (3 : Int32))), .unset, .unset] [])) _
          refine XS.aconstNull X80.here hx rfl (hb hby at_66) ?_
          show Steps p.tables e below (T80.setTop (mkF m 67 #[.val (.int k0), .val (.int k1), .val (.int k2), .val (.int k3), .val (.int k4), .val (.ref b64), .val (.int k2), .val (.int k3), .val (.ref b75), .val (.int (((k4.toUInt32 >>> ((2 : Int32) &&& 31).toUInt32).toInt32) &&& (3 : Int32))), .unset, .unset] [.null])) _
          refine XS.astore X80.here hx rfl (hb hby at_67) rfl rfl (l' := #[.val (.int k0), .val (.int k1), .val (.int k2), .val (.int k3), .val (.int k4), .val (.ref b64), .val (.int k2), .val (.int k3), .val (.ref b75), .val (.int (((k4.toUInt32 >>> ((2 : Int32) &&& 31).toUInt32).toInt32) &&& (3 : Int32))), .val .null, .unset]) rfl ?_
          show Steps p.tables e below (T80.setTop (mkF m 69 #[.val (.int k0), .val (.int k1), .val (.int k2), .val (.int k3), .val (.int k4), .val (.ref b64), .val (.int k2), .val (.int k3), .val (.ref b75), .val (.int (((k4.toUInt32 >>> ((2 : Int32) &&& 31).toUInt32).toInt32) &&& (3 : Int32))), .val .null, .unset] [])) _
          refine XS.iconst X80.here hx rfl (hb hby at_69) ?_
          show Steps p.tables e below (T80.setTop (mkF m 70 #[.val (.int k0), .val (.int k1), .val (.int k2), .val (.int k3), .val (.int k4), .val (.ref b64), .val (.int k2), .val (.int k3), .val (.ref b75), .val (.int (((k4.toUInt32 >>> ((2 : Int32) &&& 31).toUInt32).toInt32) &&& (3 : Int32))), .val .null, .unset] [(.int (0 : Int32))])) _
          refine XS.istore X80.here hx rfl (hb hby at_70) rfl (l' := #[.val (.int k0), .val (.int k1), .val (.int k2), .val (.int k3), .val (.int k4), .val (.ref b64), .val (.int k2), .val (.int k3), .val (.ref b75), .val (.int (((k4.toUInt32 >>> ((2 : Int32) &&& 31).toUInt32).toInt32) &&& (3 : Int32))), .val .null, .val (.int (0 : Int32))]) rfl ?_
          show Steps p.tables e below (T80.setTop (mkF m 72 #[.val (.int k0), .val (.int k1), .val (.int k2), .val (.int k3), .val (.int k4), .val (.ref b64), .val (.int k2), .val (.int k3), .val (.ref b75), .val (.int (((k4.toUInt32 >>> ((2 : Int32) &&& 31).toUInt32).toInt32) &&& (3 : Int32))), .val .null, .val (.int (0 : Int32))] [])) _
          refine XS.goto X80.here hx rfl (pc0 := 72) (pc' := 132) rfl (hb hby at_72) (by decide) (by decide) ?_
          show Steps p.tables e below (T80.setTop (mkF m 132 #[.val (.int k0), .val (.int k1), .val (.int k2), .val (.int k3), .val (.int k4), .val (.ref b64), .val (.int k2), .val (.int k3), .val (.ref b75), .val (.int (((k4.toUInt32 >>> ((2 : Int32) &&& 31).toUInt32).toInt32) &&& (3 : Int32))), .val .null, .val (.int (0 : Int32))] [])) _
          refine XS.aload X80.here hx rfl (hb hby at_132) rfl rfl ?_
          show Steps p.tables e below (T80.setTop (mkF m 134 #[.val (.int k0), .val (.int k1), .val (.int k2), .val (.int k3), .val (.int k4), .val (.ref b64), .val (.int k2), .val (.int k3), .val (.ref b75), .val (.int (((k4.toUInt32 >>> ((2 : Int32) &&& 31).toUInt32).toInt32) &&& (3 : Int32))), .val .null, .val (.int (0 : Int32))] [(.ref b64)])) _
          refine XS.aload X80.here hx rfl (hb hby at_134) rfl rfl ?_
          show Steps p.tables e below (T80.setTop (mkF m 136 #[.val (.int k0), .val (.int k1), .val (.int k2), .val (.int k3), .val (.int k4), .val (.ref b64), .val (.int k2), .val (.int k3), .val (.ref b75), .val (.int (((k4.toUInt32 >>> ((2 : Int32) &&& 31).toUInt32).toInt32) &&& (3 : Int32))), .val .null, .val (.int (0 : Int32))] [.null, (.ref b64)])) _
          refine st88.trans ?_
          show Steps p.tables e below (T88.setTop (mkF m 139 #[.val (.int k0), .val (.int k1), .val (.int k2), .val (.int k3), .val (.int k4), .val (.ref b64), .val (.int k2), .val (.int k3), .val (.ref b75), .val (.int (((k4.toUInt32 >>> ((2 : Int32) &&& 31).toUInt32).toInt32) &&& (3 : Int32))), .val .null, .val (.int (0 : Int32))] [(.int (0 : Int32))])) _
          refine XS.iload X88.here hx rfl (hb hby at_139) rfl ?_
          show Steps p.tables e below (T88.setTop (mkF m 141 #[.val (.int k0), .val (.int k1), .val (.int k2), .val (.int k3), .val (.int k4), .val (.ref b64), .val (.int k2), .val (.int k3), .val (.ref b75), .val (.int (((k4.toUInt32 >>> ((2 : Int32) &&& 31).toUInt32).toInt32) &&& (3 : Int32))), .val .null, .val (.int (0 : Int32))] [(.int (0 : Int32)), (.int (0 : Int32))])) _
          refine XS.icmpYes X88.here hx rfl (pc0 := 141) (pc' := 146) rfl (hb hby at_141) rfl (teq (rfl : (0 : Int32) = (0 : Int32))).1 (by decide) (by decide) ?_
          show Steps p.tables e below (T88.setTop (mkF m 146 #[.val (.int k0), .val (.int k1), .val (.int k2), .val (.int k3), .val (.int k4), .val (.ref b64), .val (.int k2), .val (.int k3), .val (.ref b75), .val (.int (((k4.toUInt32 >>> ((2 : Int32) &&& 31).toUInt32).toInt32) &&& (3 : Int32))), .val .null, .val (.int (0 : Int32))] [])) _
          refine XS.iload X88.here hx rfl (hb hby at_146) rfl ?_
          show Steps p.tables e below (T88.setTop (mkF m 148 #[.val (.int k0), .val (.int k1), .val (.int k2), .val (.int k3), .val (.int k4), .val (.ref b64), .val (.int k2), .val (.int k3), .val (.ref b75), .val (.int (((k4.toUInt32 >>> ((2 : Int32) &&& 31).toUInt32).toInt32) &&& (3 : Int32))), .val .null, .val (.int (0 : Int32))] [(.int (((k4.toUInt32 >>> ((2 : Int32) &&& 31).toUInt32).toInt32) &&& (3 : Int32)))])) _
          refine XS.ifYes X88.here hx rfl (pc0 := 148) (pc' := 165) rfl (hb hby at_148) rfl ((if0 _ _).trans (feq (fun q_ => absurd (hc63_87.symm.trans q_) (by decide))).2) (by decide) (by decide) ?_
          show Steps p.tables e below (T88.setTop (mkF m 165 #[.val (.int k0), .val (.int k1), .val (.int k2), .val (.int k3), .val (.int k4), .val (.ref b64), .val (.int k2), .val (.int k3), .val (.ref b75), .val (.int (((k4.toUInt32 >>> ((2 : Int32) &&& 31).toUInt32).toInt32) &&& (3 : Int32))), .val .null, .val (.int (0 : Int32))] [])) _
          refine XS.iconst X88.here hx rfl (hb hby at_165) ?_
          show Steps p.tables e below (T88.setTop (mkF m 166 #[.val (.int k0), .val (.int k1), .val (.int k2), .val (.int k3), .val (.int k4), .val (.ref b64), .val (.int k2), .val (.int k3), .val (.ref b75), .val (.int (((k4.toUInt32 >>> ((2 : Int32) &&& 31).toUInt32).toInt32) &&& (3 : Int32))), .val .null, .val (.int (0 : Int32))] [(.int (1 : Int32))])) _
          exact k_)
        obtain ⟨fs, hr, hrun, hended, hW, hsame⟩ := X88.leave (v := some (.int (1 : Int32))) (fun h => by rw [Bd.returns] at h; cases h)
        refine ⟨_, _, pre89 _ ?_, hrun, hended, _, _, rfl, ?_, ⟨_, rfl⟩, hW, hsame.mono (by decide) (by decide)⟩
        · show Steps p.tables e below (T88.setTop (mkF m 166 #[.val (.int k0), .val (.int k1), .val (.int k2), .val (.int k3), .val (.int k4), .val (.ref b64), .val (.int k2), .val (.int k3), .val (.ref b75), .val (.int (((k4.toUInt32 >>> ((2 : Int32) &&& 31).toUInt32).toInt32) &&& (3 : Int32))), .val .null, .val (.int (0 : Int32))] [(.int (1 : Int32))])) _
          exact retN X88 hx (t := .boolean) Bd.returns (by simp) (hb hby at_166) hr
        · show Q_0 Z k0 k1 k2 k3 k4 w_cache cl_cache bx h0 n0 _ T88.heap _
          rw [e88]
          exact ⟨rfl, N88⟩
      · have pre90 : ∀ t_, Steps p.tables e below (T80.setTop (mkF m 78 #[.val (.int k0), .val (.int k1), .val (.int k2), .val (.int k3), .val (.int k4), .val (.ref b64), .val (.int k2), .val (.int k3), .val (.ref b75), .val (.int (((k4.toUInt32 >>> ((2 : Int32) &&& 31).toUInt32).toInt32) &&& (3 : Int32))), .unset, .unset] [(.int (2 : Int32)), (.int (((k4.toUInt32 >>> ((2 : Int32) &&& 31).toUInt32).toInt32) &&& (3 : Int32)))])) t_ → Steps p.tables e below (s₁.setTop (entryFrame m #[(.int k0), (.int k1), (.int k2), (.int k3), (.int k4)] maxLocals)) t_ := fun t_ k_ => pre86 t_ (by
          show Steps p.tables e below (T80.setTop (mkF m 63 #[.val (.int k0), .val (.int k1), .val (.int k2), .val (.int k3), .val (.int k4), .val (.ref b64), .val (.int k2), .val (.int k3), .val (.ref b75), .val (.int (((k4.toUInt32 >>> ((2 : Int32) &&& 31).toUInt32).toInt32) &&& (3 : Int32))), .unset, .unset] [(.int (1 : Int32)), (.int (((k4.toUInt32 >>> ((2 : Int32) &&& 31).toUInt32).toInt32) &&& (3 : Int32)))])) _
          refine XS.icmpYes X80.here hx rfl (pc0 := 63) (pc' := 75) rfl (hb hby at_63) rfl (feq hc63_87).2 (by decide) (by decide) ?_
          show Steps p.tables e below (T80.setTop (mkF m 75 #[.val (.int k0), .val (.int k1), .val (.int k2), .val (.int k3), .val (.int k4), .val (.ref b64), .val (.int k2), .val (.int k3), .val (.ref b75), .val (.int (((k4.toUInt32 >>> ((2 : Int32) &&& 31).toUInt32).toInt32) &&& (3 : Int32))), .unset, .unset] [])) _
          refine XS.iload X80.here hx rfl (hb hby at_75) rfl ?_
          show Steps p.tables e below (T80.setTop (mkF m 77 #[.val (.int k0), .val (.int k1), .val (.int k2), .val (.int k3), .val (.int k4), .val (.ref b64), .val (.int k2), .val (.int k3), .val (.ref b75), .val (.int (((k4.toUInt32 >>> ((2 : Int32) &&& 31).toUInt32).toInt32) &&& (3 : Int32))), .unset, .unset] [(.int (((k4.toUInt32 >>> ((2 : Int32) &&& 31).toUInt32).toInt32) &&& (3 : Int32)))])) _
          refine XS.iconst X80.here hx rfl (hb hby at_77) ?_
          show Steps p.tables e below (T80.setTop (mkF m 78 #[.val (.int k0), .val (.int k1), .val (.int k2), .val (.int k3), .val (.int k4), .val (.ref b64), .val (.int k2), .val (.int k3), .val (.ref b75), .val (.int (((k4.toUInt32 >>> ((2 : Int32) &&& 31).toUInt32).toInt32) &&& (3 : Int32))), .unset, .unset] [(.int (2 : Int32)), (.int (((k4.toUInt32 >>> ((2 : Int32) &&& 31).toUInt32).toInt32) &&& (3 : Int32)))])) _
          exact k_)
        by_cases hc78_91 : (((k4.toUInt32 >>> ((2 : Int32) &&& 31).toUInt32).toInt32) &&& (3 : Int32)) = (2 : Int32)
        · obtain ⟨v92, _, ⟨T92, L92, k92, n92⟩, -, X92, ⟨Lc92, hQ92, l92, y92, z92⟩, st92⟩ := Jvm.LawKit.callS X80 hx (y := (⟨"java/lang/Integer", "valueOf", "(I)Ljava/lang/Integer;"⟩ : MethodName)) hown (mvT hZ (hw _ (List.mem_of_getElem? (i := 22) rfl))) (mvT hZ (hw _ (List.mem_of_getElem? (i := 23) rfl))) (mvT hZ (hw _ (List.mem_of_getElem? (i := 24) rfl))) (mvT hZ (hw _ (List.mem_of_getElem? (i := 25) rfl))) (by decide) (backOf (W := 0) (rm_valueOf l Z a0 hw [] k0 w_cache cl_cache bx T80.heap n0 Zs81 (S_high.ext O81) (S_cache.ext O81) Bx (own_ext_trans Oz O81)) hZ (hw _ (List.mem_of_getElem? (i := 25) rfl)) (hw _ (List.mem_of_getElem? (i := 24) rfl)) (by decide) (by decide)) (g := (mkF m 82 #[.val (.int k0), .val (.int k1), .val (.int k2), .val (.int k3), .val (.int k4), .val (.ref b64), .val (.int k2), .val (.int k3), .val (.ref b75), .val (.int (((k4.toUInt32 >>> ((2 : Int32) &&& 31).toUInt32).toInt32) &&& (3 : Int32))), .unset, .unset] [(.int k0)])) rfl (by rw [hml]; rfl) (argsL := [(.int k0)]) (rest := []) (lenOf pd_4 rfl) rfl (by show 2 * 0 + _ ≤ _; exact Nat.le_of_eq rfl) (hb hby at_82) (fun _ _ => ⟨rfl, rfl, (by decide : 2 + 1 ≤ _), (by decide : 6 + 1 ≤ _)⟩)
          dsimp only [Pt.U, Pt.locs, Pt.cells, Pt.slots] at X92 l92 y92 z92 st92 hQ92
          subst l92 y92 z92
          obtain ⟨⟨r92, hv92, Er92⟩, N92q, M92⟩ := hQ92
          have N92 := Fr.app N80 N92q
          subst hv92
          have O93 := own_ext_trans O81 M92
          have Zs93 := Nat.le_trans Zs81 (M92).1
          have c94 : Exa Z T92.heap b64 "com/example/fissure/fissure/games/breakable/Cube" := c82.ext M92
          have c95 : Fld Z T92.heap b64 "com/example/fissure/fissure/games/breakable/Cube" "x" "I" (.int k0) := c83.ext M92
          have c96 : Fld Z T92.heap b64 "com/example/fissure/fissure/games/breakable/Cube" "z" "I" (.int k1) := c84.ext M92
          have c97 : Exa Z T92.heap b75 "com/example/fissure/fissure/games/breakable/Cube" := E80x.ext M92
          have c98 : Fld Z T92.heap b75 "com/example/fissure/fissure/games/breakable/Cube" "x" "I" (.int k2) := F80_x.ext M92
          have c99 : Fld Z T92.heap b75 "com/example/fissure/fissure/games/breakable/Cube" "z" "I" (.int k3) := F80_z.ext M92
          obtain ⟨cq100, kq100, q100a, q100b, q100c⟩ := isOf hZ rfl c94
          obtain ⟨v100, _, ⟨T100, L100, k100, n100⟩, -, X100, ⟨Lc100, hQ100, l100, y100, z100⟩, st100⟩ := X92.virtualBack hx (y := (⟨"com/example/fissure/fissure/games/breakable/Cube", "equals", "(Ljava/lang/Object;)Z"⟩ : MethodName)) (z := (⟨"com/example/fissure/fissure/games/breakable/Cube", "equals", "(Ljava/lang/Object;)Z"⟩ : MethodName)) hown (mvT hZ (hw _ (List.mem_of_getElem? (i := 15) rfl))) (mvT hZ (hw _ (List.mem_of_getElem? (i := 16) rfl))) (notFace_of_selects (args := #[]) (mvT hZ (hw _ (List.mem_of_getElem? (i := 18) rfl)))) (mvT hZ (hw _ (List.mem_of_getElem? (i := 18) rfl))) (mvT hZ (hw _ (List.mem_of_getElem? (i := 17) rfl))) (by decide) (backOf (W := 0) (rm_eqI l Z a0 hw [] b64 r92 T92.heap n0 Zs93 Er92) hZ (hw _ (List.mem_of_getElem? (i := 19) rfl)) (hw _ (List.mem_of_getElem? (i := 2) rfl)) (by decide) (by decide)) q100a q100c (g := (mkF m 136 #[.val (.int k0), .val (.int k1), .val (.int k2), .val (.int k3), .val (.int k4), .val (.ref b64), .val (.int k2), .val (.int k3), .val (.ref b75), .val (.int (((k4.toUInt32 >>> ((2 : Int32) &&& 31).toUInt32).toInt32) &&& (3 : Int32))), .val (.ref r92), .val (.int (0 : Int32))] [(.ref r92), (.ref b64)])) rfl (by rw [hml]; rfl) (Steps.refl _) (argsL := [(.ref r92)]) (rest := []) (lenOf pd_3 rfl) rfl (by show 2 * 0 + _ ≤ _; exact Nat.le_of_eq rfl) (hb hby at_136) (fun _ _ => ⟨rfl, rfl, (by decide : 3 + 0 ≤ _), (by decide : 7 + 0 ≤ _)⟩)
          dsimp only [Pt.U, Pt.locs, Pt.cells, Pt.slots] at X100 l100 y100 z100 st100 hQ100
          subst l100 y100 z100
          obtain ⟨hv100, N100q, e100⟩ := hQ100
          have N100 := Fr.app N92 N100q
          subst hv100
          have pre101 : ∀ t_, Steps p.tables e below (T100.setTop (mkF m 166 #[.val (.int k0), .val (.int k1), .val (.int k2), .val (.int k3), .val (.int k4), .val (.ref b64), .val (.int k2), .val (.int k3), .val (.ref b75), .val (.int (((k4.toUInt32 >>> ((2 : Int32) &&& 31).toUInt32).toInt32) &&& (3 : Int32))), .val (.ref r92), .val (.int (0 : Int32))] [(.int (1 : Int32))])) t_ → Steps p.tables e below (s₁.setTop (entryFrame m #[(.int k0), (.int k1), (.int k2), (.int k3), (.int k4)] maxLocals)) t_ := fun t_ k_ => pre90 t_ (by
            show Steps p.tables e below (T80.setTop (mkF m 78 #[.val (.int k0), .val (.int k1), .val (.int k2), .val (.int k3), .val (.int k4), .val (.ref b64), .val (.int k2), .val (.int k3), .val (.ref b75), .val (.int (((k4.toUInt32 >>> ((2 : Int32) &&& 31).toUInt32).toInt32) &&& (3 : Int32))), .unset, .unset] [(.int (2 : Int32)), (.int (((k4.toUInt32 >>> ((2 : Int32) &&& 31).toUInt32).toInt32) &&& (3 : Int32)))])) _
            refine XS.icmpNo X80.here hx rfl (hb hby at_78) rfl (teq hc78_91).2 ?_
            show Steps p.tables e below (T80.setTop (mkF m 81 #[.val (.int k0), .val (.int k1), .val (.int k2), .val (.int k3), .val (.int k4), .val (.ref b64), .val (.int k2), .val (.int k3), .val (.ref b75), .val (.int (((k4.toUInt32 >>> ((2 : Int32) &&& 31).toUInt32).toInt32) &&& (3 : Int32))), .unset, .unset] [])) _
            refine XS.iloadN X80.here hx rfl (hb hby at_81) rfl ?_
            show Steps p.tables e below (T80.setTop (mkF m 82 #[.val (.int k0), .val (.int k1), .val (.int k2), .val (.int k3), .val (.int k4), .val (.ref b64), .val (.int k2), .val (.int k3), .val (.ref b75), .val (.int (((k4.toUInt32 >>> ((2 : Int32) &&& 31).toUInt32).toInt32) &&& (3 : Int32))), .unset, .unset] [(.int k0)])) _
            refine st92 _ ?_
            show Steps p.tables e below (T92.setTop (mkF m 85 #[.val (.int k0), .val (.int k1), .val (.int k2), .val (.int k3), .val (.int k4), .val (.ref b64), .val (.int k2), .val (.int k3), .val (.ref b75), .val (.int (((k4.toUInt32 >>> ((2 : Int32) &&& 31).toUInt32).toInt32) &&& (3 : Int32))), .unset, .unset] [(.ref r92)])) _
            refine XS.astore X92.here hx rfl (hb hby at_85) rfl rfl (l' := #[.val (.int k0), .val (.int k1), .val (.int k2), .val (.int k3), .val (.int k4), .val (.ref b64), .val (.int k2), .val (.int k3), .val (.ref b75), .val (.int (((k4.toUInt32 >>> ((2 : Int32) &&& 31).toUInt32).toInt32) &&& (3 : Int32))), .val (.ref r92), .unset]) rfl ?_
            show Steps p.tables e below (T92.setTop (mkF m 87 #[.val (.int k0), .val (.int k1), .val (.int k2), .val (.int k3), .val (.int k4), .val (.ref b64), .val (.int k2), .val (.int k3), .val (.ref b75), .val (.int (((k4.toUInt32 >>> ((2 : Int32) &&& 31).toUInt32).toInt32) &&& (3 : Int32))), .val (.ref r92), .unset] [])) _
            refine XS.iconst X92.here hx rfl (hb hby at_87) ?_
            show Steps p.tables e below (T92.setTop (mkF m 88 #[.val (.int k0), .val (.int k1), .val (.int k2), .val (.int k3), .val (.int k4), .val (.ref b64), .val (.int k2), .val (.int k3), .val (.ref b75), .val (.int (((k4.toUInt32 >>> ((2 : Int32) &&& 31).toUInt32).toInt32) &&& (3 : Int32))), .val (.ref r92), .unset] [(.int (0 : Int32))])) _
            refine XS.istore X92.here hx rfl (hb hby at_88) rfl (l' := #[.val (.int k0), .val (.int k1), .val (.int k2), .val (.int k3), .val (.int k4), .val (.ref b64), .val (.int k2), .val (.int k3), .val (.ref b75), .val (.int (((k4.toUInt32 >>> ((2 : Int32) &&& 31).toUInt32).toInt32) &&& (3 : Int32))), .val (.ref r92), .val (.int (0 : Int32))]) rfl ?_
            show Steps p.tables e below (T92.setTop (mkF m 90 #[.val (.int k0), .val (.int k1), .val (.int k2), .val (.int k3), .val (.int k4), .val (.ref b64), .val (.int k2), .val (.int k3), .val (.ref b75), .val (.int (((k4.toUInt32 >>> ((2 : Int32) &&& 31).toUInt32).toInt32) &&& (3 : Int32))), .val (.ref r92), .val (.int (0 : Int32))] [])) _
            refine XS.goto X92.here hx rfl (pc0 := 90) (pc' := 132) rfl (hb hby at_90) (by decide) (by decide) ?_
            show Steps p.tables e below (T92.setTop (mkF m 132 #[.val (.int k0), .val (.int k1), .val (.int k2), .val (.int k3), .val (.int k4), .val (.ref b64), .val (.int k2), .val (.int k3), .val (.ref b75), .val (.int (((k4.toUInt32 >>> ((2 : Int32) &&& 31).toUInt32).toInt32) &&& (3 : Int32))), .val (.ref r92), .val (.int (0 : Int32))] [])) _
            refine XS.aload X92.here hx rfl (hb hby at_132) rfl rfl ?_
            show Steps p.tables e below (T92.setTop (mkF m 134 #[.val (.int k0), .val (.int k1), .val (.int k2), .val (.int k3), .val (.int k4), .val (.ref b64), .val (.int k2), .val (.int k3), .val (.ref b75), .val (.int (((k4.toUInt32 >>> ((2 : Int32) &&& 31).toUInt32).toInt32) &&& (3 : Int32))), .val (.ref r92), .val (.int (0 : Int32))] [(.ref b64)])) _
            refine XS.aload X92.here hx rfl (hb hby at_134) rfl rfl ?_
            show Steps p.tables e below (T92.setTop (mkF m 136 #[.val (.int k0), .val (.int k1), .val (.int k2), .val (.int k3), .val (.int k4), .val (.ref b64), .val (.int k2), .val (.int k3), .val (.ref b75), .val (.int (((k4.toUInt32 >>> ((2 : Int32) &&& 31).toUInt32).toInt32) &&& (3 : Int32))), .val (.ref r92), .val (.int (0 : Int32))] [(.ref r92), (.ref b64)])) _
            refine st100.trans ?_
            show Steps p.tables e below (T100.setTop (mkF m 139 #[.val (.int k0), .val (.int k1), .val (.int k2), .val (.int k3), .val (.int k4), .val (.ref b64), .val (.int k2), .val (.int k3), .val (.ref b75), .val (.int (((k4.toUInt32 >>> ((2 : Int32) &&& 31).toUInt32).toInt32) &&& (3 : Int32))), .val (.ref r92), .val (.int (0 : Int32))] [(.int (0 : Int32))])) _
            refine XS.iload X100.here hx rfl (hb hby at_139) rfl ?_
            show Steps p.tables e below (T100.setTop (mkF m 141 #[.val (.int k0), .val (.int k1), .val (.int k2), .val (.int k3), .val (.int k4), .val (.ref b64), .val (.int k2), .val (.int k3), .val (.ref b75), .val (.int (((k4.toUInt32 >>> ((2 : Int32) &&& 31).toUInt32).toInt32) &&& (3 : Int32))), .val (.ref r92), .val (.int (0 : Int32))] [(.int (0 : Int32)), (.int (0 : Int32))])) _
            refine XS.icmpYes X100.here hx rfl (pc0 := 141) (pc' := 146) rfl (hb hby at_141) rfl (teq (rfl : (0 : Int32) = (0 : Int32))).1 (by decide) (by decide) ?_
            show Steps p.tables e below (T100.setTop (mkF m 146 #[.val (.int k0), .val (.int k1), .val (.int k2), .val (.int k3), .val (.int k4), .val (.ref b64), .val (.int k2), .val (.int k3), .val (.ref b75), .val (.int (((k4.toUInt32 >>> ((2 : Int32) &&& 31).toUInt32).toInt32) &&& (3 : Int32))), .val (.ref r92), .val (.int (0 : Int32))] [])) _
            refine XS.iload X100.here hx rfl (hb hby at_146) rfl ?_
            show Steps p.tables e below (T100.setTop (mkF m 148 #[.val (.int k0), .val (.int k1), .val (.int k2), .val (.int k3), .val (.int k4), .val (.ref b64), .val (.int k2), .val (.int k3), .val (.ref b75), .val (.int (((k4.toUInt32 >>> ((2 : Int32) &&& 31).toUInt32).toInt32) &&& (3 : Int32))), .val (.ref r92), .val (.int (0 : Int32))] [(.int (((k4.toUInt32 >>> ((2 : Int32) &&& 31).toUInt32).toInt32) &&& (3 : Int32)))])) _
            refine XS.ifYes X100.here hx rfl (pc0 := 148) (pc' := 165) rfl (hb hby at_148) rfl ((if0 _ _).trans (feq (fun q_ => absurd (hc78_91.symm.trans q_) (by decide))).2) (by decide) (by decide) ?_
            show Steps p.tables e below (T100.setTop (mkF m 165 #[.val (.int k0), .val (.int k1), .val (.int k2), .val (.int k3), .val (.int k4), .val (.ref b64), .val (.int k2), .val (.int k3), .val (.ref b75), .val (.int (((k4.toUInt32 >>> ((2 : Int32) &&& 31).toUInt32).toInt32) &&& (3 : Int32))), .val (.ref r92), .val (.int (0 : Int32))] [])) _
            refine XS.iconst X100.here hx rfl (hb hby at_165) ?_
            show Steps p.tables e below (T100.setTop (mkF m 166 #[.val (.int k0), .val (.int k1), .val (.int k2), .val (.int k3), .val (.int k4), .val (.ref b64), .val (.int k2), .val (.int k3), .val (.ref b75), .val (.int (((k4.toUInt32 >>> ((2 : Int32) &&& 31).toUInt32).toInt32) &&& (3 : Int32))), .val (.ref r92), .val (.int (0 : Int32))] [(.int (1 : Int32))])) _
            exact k_)
          obtain ⟨fs, hr, hrun, hended, hW, hsame⟩ := X100.leave (v := some (.int (1 : Int32))) (fun h => by rw [Bd.returns] at h; cases h)
          refine ⟨_, _, pre101 _ ?_, hrun, hended, _, _, rfl, ?_, ⟨_, rfl⟩, hW, hsame.mono (by decide) (by decide)⟩
          · show Steps p.tables e below (T100.setTop (mkF m 166 #[.val (.int k0), .val (.int k1), .val (.int k2), .val (.int k3), .val (.int k4), .val (.ref b64), .val (.int k2), .val (.int k3), .val (.ref b75), .val (.int (((k4.toUInt32 >>> ((2 : Int32) &&& 31).toUInt32).toInt32) &&& (3 : Int32))), .val (.ref r92), .val (.int (0 : Int32))] [(.int (1 : Int32))])) _
            exact retN X100 hx (t := .boolean) Bd.returns (by simp) (hb hby at_166) hr
          · show Q_0 Z k0 k1 k2 k3 k4 w_cache cl_cache bx h0 n0 _ T100.heap _
            rw [e100]
            exact ⟨rfl, N100⟩
        · have pre102 : ∀ t_, Steps p.tables e below (T80.setTop (mkF m 96 #[.val (.int k0), .val (.int k1), .val (.int k2), .val (.int k3), .val (.int k4), .val (.ref b64), .val (.int k2), .val (.int k3), .val (.ref b75), .val (.int (((k4.toUInt32 >>> ((2 : Int32) &&& 31).toUInt32).toInt32) &&& (3 : Int32))), .unset, .unset] [(.int (3 : Int32)), (.int (((k4.toUInt32 >>> ((2 : Int32) &&& 31).toUInt32).toInt32) &&& (3 : Int32)))])) t_ → Steps p.tables e below (s₁.setTop (entryFrame m #[(.int k0), (.int k1), (.int k2), (.int k3), (.int k4)] maxLocals)) t_ := fun t_ k_ => pre90 t_ (by
            show Steps p.tables e below (T80.setTop (mkF m 78 #[.val (.int k0), .val (.int k1), .val (.int k2), .val (.int k3), .val (.int k4), .val (.ref b64), .val (.int k2), .val (.int k3), .val (.ref b75), .val (.int (((k4.toUInt32 >>> ((2 : Int32) &&& 31).toUInt32).toInt32) &&& (3 : Int32))), .unset, .unset] [(.int (2 : Int32)), (.int (((k4.toUInt32 >>> ((2 : Int32) &&& 31).toUInt32).toInt32) &&& (3 : Int32)))])) _
            refine XS.icmpYes X80.here hx rfl (pc0 := 78) (pc' := 93) rfl (hb hby at_78) rfl (feq hc78_91).2 (by decide) (by decide) ?_
            show Steps p.tables e below (T80.setTop (mkF m 93 #[.val (.int k0), .val (.int k1), .val (.int k2), .val (.int k3), .val (.int k4), .val (.ref b64), .val (.int k2), .val (.int k3), .val (.ref b75), .val (.int (((k4.toUInt32 >>> ((2 : Int32) &&& 31).toUInt32).toInt32) &&& (3 : Int32))), .unset, .unset] [])) _
            refine XS.iload X80.here hx rfl (hb hby at_93) rfl ?_
            show Steps p.tables e below (T80.setTop (mkF m 95 #[.val (.int k0), .val (.int k1), .val (.int k2), .val (.int k3), .val (.int k4), .val (.ref b64), .val (.int k2), .val (.int k3), .val (.ref b75), .val (.int (((k4.toUInt32 >>> ((2 : Int32) &&& 31).toUInt32).toInt32) &&& (3 : Int32))), .unset, .unset] [(.int (((k4.toUInt32 >>> ((2 : Int32) &&& 31).toUInt32).toInt32) &&& (3 : Int32)))])) _
            refine XS.iconst X80.here hx rfl (hb hby at_95) ?_
            show Steps p.tables e below (T80.setTop (mkF m 96 #[.val (.int k0), .val (.int k1), .val (.int k2), .val (.int k3), .val (.int k4), .val (.ref b64), .val (.int k2), .val (.int k3), .val (.ref b75), .val (.int (((k4.toUInt32 >>> ((2 : Int32) &&& 31).toUInt32).toInt32) &&& (3 : Int32))), .unset, .unset] [(.int (3 : Int32)), (.int (((k4.toUInt32 >>> ((2 : Int32) &&& 31).toUInt32).toInt32) &&& (3 : Int32)))])) _
            exact k_)
          by_cases hc96_103 : (((k4.toUInt32 >>> ((2 : Int32) &&& 31).toUInt32).toInt32) &&& (3 : Int32)) = (3 : Int32)
          · obtain ⟨cq104, kq104, q104a, q104b, q104c⟩ := isOf hZ rfl c82
            obtain ⟨v104, _, ⟨T104, L104, k104, n104⟩, -, X104, ⟨Lc104, hQ104, l104, y104, z104⟩, st104⟩ := X80.virtualBack hx (y := (⟨"com/example/fissure/fissure/games/breakable/Cube", "equals", "(Ljava/lang/Object;)Z"⟩ : MethodName)) (z := (⟨"com/example/fissure/fissure/games/breakable/Cube", "equals", "(Ljava/lang/Object;)Z"⟩ : MethodName)) hown (mvT hZ (hw _ (List.mem_of_getElem? (i := 15) rfl))) (mvT hZ (hw _ (List.mem_of_getElem? (i := 16) rfl))) (notFace_of_selects (args := #[]) (mvT hZ (hw _ (List.mem_of_getElem? (i := 18) rfl)))) (mvT hZ (hw _ (List.mem_of_getElem? (i := 18) rfl))) (mvT hZ (hw _ (List.mem_of_getElem? (i := 17) rfl))) (by decide) (backOf (W := 0) (rm_eqC l Z a0 hw [] b64 b64 k0 k1 k0 k1 T80.heap n0 Zs81 c82 c83 c84 c83 c84) hZ (hw _ (List.mem_of_getElem? (i := 19) rfl)) (hw _ (List.mem_of_getElem? (i := 2) rfl)) (by decide) (by decide)) q104a q104c (g := (mkF m 136 #[.val (.int k0), .val (.int k1), .val (.int k2), .val (.int k3), .val (.int k4), .val (.ref b64), .val (.int k2), .val (.int k3), .val (.ref b75), .val (.int (((k4.toUInt32 >>> ((2 : Int32) &&& 31).toUInt32).toInt32) &&& (3 : Int32))), .val (.ref b64), .val (.int (1 : Int32))] [(.ref b64), (.ref b64)])) rfl (by rw [hml]; rfl) (Steps.refl _) (argsL := [(.ref b64)]) (rest := []) (lenOf pd_3 rfl) rfl (by show 2 * 0 + _ ≤ _; exact Nat.le_of_eq rfl) (hb hby at_136) (fun _ _ => ⟨rfl, rfl, (by decide : 2 + 0 ≤ _), (by decide : 6 + 0 ≤ _)⟩)
            dsimp only [Pt.U, Pt.locs, Pt.cells, Pt.slots] at X104 l104 y104 z104 st104 hQ104
            subst l104 y104 z104
            obtain ⟨hv104, N104q, e104⟩ := hQ104
            have N104 := Fr.app N80 N104q
            have hw104 : v104 = some (.int (1 : Int32)) := hv104.trans (congrArg (fun z => some (Value.int z)) (own_self _ _))
            subst hw104
            have pre105 : ∀ t_, Steps p.tables e below (T104.setTop (mkF m 166 #[.val (.int k0), .val (.int k1), .val (.int k2), .val (.int k3), .val (.int k4), .val (.ref b64), .val (.int k2), .val (.int k3), .val (.ref b75), .val (.int (((k4.toUInt32 >>> ((2 : Int32) &&& 31).toUInt32).toInt32) &&& (3 : Int32))), .val (.ref b64), .val (.int (1 : Int32))] [(.int (1 : Int32))])) t_ → Steps p.tables e below (s₁.setTop (entryFrame m #[(.int k0), (.int k1), (.int k2), (.int k3), (.int k4)] maxLocals)) t_ := fun t_ k_ => pre102 t_ (by
              show Steps p.tables e below (T80.setTop (mkF m 96 #[.val (.int k0), .val (.int k1), .val (.int k2), .val (.int k3), .val (.int k4), .val (.ref b64), .val (.int k2), .val (.int k3), .val (.ref b75), .val (.int (((k4.toUInt32 >>> ((2 : Int32) &&& 31).toUInt32).toInt32) &&& (3 : Int32))), .unset, .unset] [(.int (3 : Int32)), (.int (((k4.toUInt32 >>> ((2 : Int32) &&& 31).toUInt32).toInt32) &&& (3 : Int32)))])) _
              refine XS.icmpNo X80.here hx rfl (hb hby at_96) rfl (teq hc96_103).2 ?_
              show Steps p.tables e below (T80.setTop (mkF m 99 #[.val (.int k0), .val (.int k1), .val (.int k2), .val (.int k3), .val (.int k4), .val (.ref b64), .val (.int k2), .val (.int k3), .val (.ref b75), .val (.int (((k4.toUInt32 >>> ((2 : Int32) &&& 31).toUInt32).toInt32) &&& (3 : Int32))), .unset, .unset] [])) _
              refine XS.aload X80.here hx rfl (hb hby at_99) rfl rfl ?_
              show Steps p.tables e below (T80.setTop (mkF m 101 #[.val (.int k0), .val (.int k1), .val (.int k2), .val (.int k3), .val (.int k4), .val (.ref b64), .val (.int k2), .val (.int k3), .val (.ref b75), .val (.int (((k4.toUInt32 >>> ((2 : Int32) &&& 31).toUInt32).toInt32) &&& (3 : Int32))), .unset, .unset] [(.ref b64)])) _
              refine XS.astore X80.here hx rfl (hb hby at_101) rfl rfl (l' := #[.val (.int k0), .val (.int k1), .val (.int k2), .val (.int k3), .val (.int k4), .val (.ref b64), .val (.int k2), .val (.int k3), .val (.ref b75), .val (.int (((k4.toUInt32 >>> ((2 : Int32) &&& 31).toUInt32).toInt32) &&& (3 : Int32))), .val (.ref b64), .unset]) rfl ?_
              show Steps p.tables e below (T80.setTop (mkF m 103 #[.val (.int k0), .val (.int k1), .val (.int k2), .val (.int k3), .val (.int k4), .val (.ref b64), .val (.int k2), .val (.int k3), .val (.ref b75), .val (.int (((k4.toUInt32 >>> ((2 : Int32) &&& 31).toUInt32).toInt32) &&& (3 : Int32))), .val (.ref b64), .unset] [])) _
              refine XS.iconst X80.here hx rfl (hb hby at_103) ?_
              show Steps p.tables e below (T80.setTop (mkF m 104 #[.val (.int k0), .val (.int k1), .val (.int k2), .val (.int k3), .val (.int k4), .val (.ref b64), .val (.int k2), .val (.int k3), .val (.ref b75), .val (.int (((k4.toUInt32 >>> ((2 : Int32) &&& 31).toUInt32).toInt32) &&& (3 : Int32))), .val (.ref b64), .unset] [(.int (1 : Int32))])) _
              refine XS.istore X80.here hx rfl (hb hby at_104) rfl (l' := #[.val (.int k0), .val (.int k1), .val (.int k2), .val (.int k3), .val (.int k4), .val (.ref b64), .val (.int k2), .val (.int k3), .val (.ref b75), .val (.int (((k4.toUInt32 >>> ((2 : Int32) &&& 31).toUInt32).toInt32) &&& (3 : Int32))), .val (.ref b64), .val (.int (1 : Int32))]) rfl ?_
              show Steps p.tables e below (T80.setTop (mkF m 106 #[.val (.int k0), .val (.int k1), .val (.int k2), .val (.int k3), .val (.int k4), .val (.ref b64), .val (.int k2), .val (.int k3), .val (.ref b75), .val (.int (((k4.toUInt32 >>> ((2 : Int32) &&& 31).toUInt32).toInt32) &&& (3 : Int32))), .val (.ref b64), .val (.int (1 : Int32))] [])) _
              refine XS.goto X80.here hx rfl (pc0 := 106) (pc' := 132) rfl (hb hby at_106) (by decide) (by decide) ?_
              show Steps p.tables e below (T80.setTop (mkF m 132 #[.val (.int k0), .val (.int k1), .val (.int k2), .val (.int k3), .val (.int k4), .val (.ref b64), .val (.int k2), .val (.int k3), .val (.ref b75), .val (.int (((k4.toUInt32 >>> ((2 : Int32) &&& 31).toUInt32).toInt32) &&& (3 : Int32))), .val (.ref b64), .val (.int (1 : Int32))] [])) _
              refine XS.aload X80.here hx rfl (hb hby at_132) rfl rfl ?_
              show Steps p.tables e below (T80.setTop (mkF m 134 #[.val (.int k0), .val (.int k1), .val (.int k2), .val (.int k3), .val (.int k4), .val (.ref b64), .val (.int k2), .val (.int k3), .val (.ref b75), .val (.int (((k4.toUInt32 >>> ((2 : Int32) &&& 31).toUInt32).toInt32) &&& (3 : Int32))), .val (.ref b64), .val (.int (1 : Int32))] [(.ref b64)])) _
              refine XS.aload X80.here hx rfl (hb hby at_134) rfl rfl ?_
              show Steps p.tables e below (T80.setTop (mkF m 136 #[.val (.int k0), .val (.int k1), .val (.int k2), .val (.int k3), .val (.int k4), .val (.ref b64), .val (.int k2), .val (.int k3), .val (.ref b75), .val (.int (((k4.toUInt32 >>> ((2 : Int32) &&& 31).toUInt32).toInt32) &&& (3 : Int32))), .val (.ref b64), .val (.int (1 : Int32))] [(.ref b64), (.ref b64)])) _
              refine st104.trans ?_
              show Steps p.tables e below (T104.setTop (mkF m 139 #[.val (.int k0), .val (.int k1), .val (.int k2), .val (.int k3), .val (.int k4), .val (.ref b64), .val (.int k2), .val (.int k3), .val (.ref b75), .val (.int (((k4.toUInt32 >>> ((2 : Int32) &&& 31).toUInt32).toInt32) &&& (3 : Int32))), .val (.ref b64), .val (.int (1 : Int32))] [(.int (1 : Int32))])) _
              refine XS.iload X104.here hx rfl (hb hby at_139) rfl ?_
              show Steps p.tables e below (T104.setTop (mkF m 141 #[.val (.int k0), .val (.int k1), .val (.int k2), .val (.int k3), .val (.int k4), .val (.ref b64), .val (.int k2), .val (.int k3), .val (.ref b75), .val (.int (((k4.toUInt32 >>> ((2 : Int32) &&& 31).toUInt32).toInt32) &&& (3 : Int32))), .val (.ref b64), .val (.int (1 : Int32))] [(.int (1 : Int32)), (.int (1 : Int32))])) _
              refine XS.icmpYes X104.here hx rfl (pc0 := 141) (pc' := 146) rfl (hb hby at_141) rfl (teq (rfl : (1 : Int32) = (1 : Int32))).1 (by decide) (by decide) ?_
              show Steps p.tables e below (T104.setTop (mkF m 146 #[.val (.int k0), .val (.int k1), .val (.int k2), .val (.int k3), .val (.int k4), .val (.ref b64), .val (.int k2), .val (.int k3), .val (.ref b75), .val (.int (((k4.toUInt32 >>> ((2 : Int32) &&& 31).toUInt32).toInt32) &&& (3 : Int32))), .val (.ref b64), .val (.int (1 : Int32))] [])) _
              refine XS.iload X104.here hx rfl (hb hby at_146) rfl ?_
              show Steps p.tables e below (T104.setTop (mkF m 148 #[.val (.int k0), .val (.int k1), .val (.int k2), .val (.int k3), .val (.int k4), .val (.ref b64), .val (.int k2), .val (.int k3), .val (.ref b75), .val (.int (((k4.toUInt32 >>> ((2 : Int32) &&& 31).toUInt32).toInt32) &&& (3 : Int32))), .val (.ref b64), .val (.int (1 : Int32))] [(.int (((k4.toUInt32 >>> ((2 : Int32) &&& 31).toUInt32).toInt32) &&& (3 : Int32)))])) _
              refine XS.ifYes X104.here hx rfl (pc0 := 148) (pc' := 165) rfl (hb hby at_148) rfl ((if0 _ _).trans (feq (fun q_ => absurd (hc96_103.symm.trans q_) (by decide))).2) (by decide) (by decide) ?_
              show Steps p.tables e below (T104.setTop (mkF m 165 #[.val (.int k0), .val (.int k1), .val (.int k2), .val (.int k3), .val (.int k4), .val (.ref b64), .val (.int k2), .val (.int k3), .val (.ref b75), .val (.int (((k4.toUInt32 >>> ((2 : Int32) &&& 31).toUInt32).toInt32) &&& (3 : Int32))), .val (.ref b64), .val (.int (1 : Int32))] [])) _
              refine XS.iconst X104.here hx rfl (hb hby at_165) ?_
              show Steps p.tables e below (T104.setTop (mkF m 166 #[.val (.int k0), .val (.int k1), .val (.int k2), .val (.int k3), .val (.int k4), .val (.ref b64), .val (.int k2), .val (.int k3), .val (.ref b75), .val (.int (((k4.toUInt32 >>> ((2 : Int32) &&& 31).toUInt32).toInt32) &&& (3 : Int32))), .val (.ref b64), .val (.int (1 : Int32))] [(.int (1 : Int32))])) _
              exact k_)
            obtain ⟨fs, hr, hrun, hended, hW, hsame⟩ := X104.leave (v := some (.int (1 : Int32))) (fun h => by rw [Bd.returns] at h; cases h)
            refine ⟨_, _, pre105 _ ?_, hrun, hended, _, _, rfl, ?_, ⟨_, rfl⟩, hW, hsame.mono (by decide) (by decide)⟩
            · show Steps p.tables e below (T104.setTop (mkF m 166 #[.val (.int k0), .val (.int k1), .val (.int k2), .val (.int k3), .val (.int k4), .val (.ref b64), .val (.int k2), .val (.int k3), .val (.ref b75), .val (.int (((k4.toUInt32 >>> ((2 : Int32) &&& 31).toUInt32).toInt32) &&& (3 : Int32))), .val (.ref b64), .val (.int (1 : Int32))] [(.int (1 : Int32))])) _
              exact retN X104 hx (t := .boolean) Bd.returns (by simp) (hb hby at_166) hr
            · show Q_0 Z k0 k1 k2 k3 k4 w_cache cl_cache bx h0 n0 _ T104.heap _
              rw [e104]
              exact ⟨rfl, N104⟩
          · have pre106 : ∀ t_, Steps p.tables e below (T80.setTop (mkF m 116 #[.val (.int k0), .val (.int k1), .val (.int k2), .val (.int k3), .val (.int k4), .val (.ref b64), .val (.int k2), .val (.int k3), .val (.ref b75), .val (.int (((k4.toUInt32 >>> ((2 : Int32) &&& 31).toUInt32).toInt32) &&& (3 : Int32))), .val (.ref b75), .unset] [(.int k2), (.int k0)])) t_ → Steps p.tables e below (s₁.setTop (entryFrame m #[(.int k0), (.int k1), (.int k2), (.int k3), (.int k4)] maxLocals)) t_ := fun t_ k_ => pre102 t_ (by
              show Steps p.tables e below (T80.setTop (mkF m 96 #[.val (.int k0), .val (.int k1), .val (.int k2), .val (.int k3), .val (.int k4), .val (.ref b64), .val (.int k2), .val (.int k3), .val (.ref b75), .val (.int (((k4.toUInt32 >>> ((2 : Int32) &&& 31).toUInt32).toInt32) &&& (3 : Int32))), .unset, .unset] [(.int (3 : Int32)), (.int (((k4.toUInt32 >>> ((2 : Int32) &&& 31).toUInt32).toInt32) &&& (3 : Int32)))])) _
              refine XS.icmpYes X80.here hx rfl (pc0 := 96) (pc' := 109) rfl (hb hby at_96) rfl (feq hc96_103).2 (by decide) (by decide) ?_
              show Steps p.tables e below (T80.setTop (mkF m 109 #[.val (.int k0), .val (.int k1), .val (.int k2), .val (.int k3), .val (.int k4), .val (.ref b64), .val (.int k2), .val (.int k3), .val (.ref b75), .val (.int (((k4.toUInt32 >>> ((2 : Int32) &&& 31).toUInt32).toInt32) &&& (3 : Int32))), .unset, .unset] [])) _
              refine XS.aload X80.here hx rfl (hb hby at_109) rfl rfl ?_
              show Steps p.tables e below (T80.setTop (mkF m 111 #[.val (.int k0), .val (.int k1), .val (.int k2), .val (.int k3), .val (.int k4), .val (.ref b64), .val (.int k2), .val (.int k3), .val (.ref b75), .val (.int (((k4.toUInt32 >>> ((2 : Int32) &&& 31).toUInt32).toInt32) &&& (3 : Int32))), .unset, .unset] [(.ref b75)])) _
              refine XS.astore X80.here hx rfl (hb hby at_111) rfl rfl (l' := #[.val (.int k0), .val (.int k1), .val (.int k2), .val (.int k3), .val (.int k4), .val (.ref b64), .val (.int k2), .val (.int k3), .val (.ref b75), .val (.int (((k4.toUInt32 >>> ((2 : Int32) &&& 31).toUInt32).toInt32) &&& (3 : Int32))), .val (.ref b75), .unset]) rfl ?_
              show Steps p.tables e below (T80.setTop (mkF m 113 #[.val (.int k0), .val (.int k1), .val (.int k2), .val (.int k3), .val (.int k4), .val (.ref b64), .val (.int k2), .val (.int k3), .val (.ref b75), .val (.int (((k4.toUInt32 >>> ((2 : Int32) &&& 31).toUInt32).toInt32) &&& (3 : Int32))), .val (.ref b75), .unset] [])) _
              refine XS.iloadN X80.here hx rfl (hb hby at_113) rfl ?_
              show Steps p.tables e below (T80.setTop (mkF m 114 #[.val (.int k0), .val (.int k1), .val (.int k2), .val (.int k3), .val (.int k4), .val (.ref b64), .val (.int k2), .val (.int k3), .val (.ref b75), .val (.int (((k4.toUInt32 >>> ((2 : Int32) &&& 31).toUInt32).toInt32) &&& (3 : Int32))), .val (.ref b75), .unset] [(.int k0)])) _
              refine XS.iload X80.here hx rfl (hb hby at_114) rfl ?_
              show Steps p.tables e below (T80.setTop (mkF m 116 #[.val (.int k0), .val (.int k1), .val (.int k2), .val (.int k3), .val (.int k4), .val (.ref b64), .val (.int k2), .val (.int k3), .val (.ref b75), .val (.int (((k4.toUInt32 >>> ((2 : Int32) &&& 31).toUInt32).toInt32) &&& (3 : Int32))), .val (.ref b75), .unset] [(.int k2), (.int k0)])) _
              exact k_)
            by_cases hc116_107 : k0 = k2
            · have pre108 : ∀ t_, Steps p.tables e below (T80.setTop (mkF m 122 #[.val (.int k0), .val (.int k1), .val (.int k2), .val (.int k3), .val (.int k4), .val (.ref b64), .val (.int k2), .val (.int k3), .val (.ref b75), .val (.int (((k4.toUInt32 >>> ((2 : Int32) &&& 31).toUInt32).toInt32) &&& (3 : Int32))), .val (.ref b75), .unset] [(.int k3), (.int k1)])) t_ → Steps p.tables e below (s₁.setTop (entryFrame m #[(.int k0), (.int k1), (.int k2), (.int k3), (.int k4)] maxLocals)) t_ := fun t_ k_ => pre106 t_ (by
                show Steps p.tables e below (T80.setTop (mkF m 116 #[.val (.int k0), .val (.int k1), .val (.int k2), .val (.int k3), .val (.int k4), .val (.ref b64), .val (.int k2), .val (.int k3), .val (.ref b75), .val (.int (((k4.toUInt32 >>> ((2 : Int32) &&& 31).toUInt32).toInt32) &&& (3 : Int32))), .val (.ref b75), .unset] [(.int k2), (.int k0)])) _
                refine XS.icmpNo X80.here hx rfl (hb hby at_116) rfl (teq hc116_107).2 ?_
                show Steps p.tables e below (T80.setTop (mkF m 119 #[.val (.int k0), .val (.int k1), .val (.int k2), .val (.int k3), .val (.int k4), .val (.ref b64), .val (.int k2), .val (.int k3), .val (.ref b75), .val (.int (((k4.toUInt32 >>> ((2 : Int32) &&& 31).toUInt32).toInt32) &&& (3 : Int32))), .val (.ref b75), .unset] [])) _
                refine XS.iloadN X80.here hx rfl (hb hby at_119) rfl ?_
                show Steps p.tables e below (T80.setTop (mkF m 120 #[.val (.int k0), .val (.int k1), .val (.int k2), .val (.int k3), .val (.int k4), .val (.ref b64), .val (.int k2), .val (.int k3), .val (.ref b75), .val (.int (((k4.toUInt32 >>> ((2 : Int32) &&& 31).toUInt32).toInt32) &&& (3 : Int32))), .val (.ref b75), .unset] [(.int k1)])) _
                refine XS.iload X80.here hx rfl (hb hby at_120) rfl ?_
                show Steps p.tables e below (T80.setTop (mkF m 122 #[.val (.int k0), .val (.int k1), .val (.int k2), .val (.int k3), .val (.int k4), .val (.ref b64), .val (.int k2), .val (.int k3), .val (.ref b75), .val (.int (((k4.toUInt32 >>> ((2 : Int32) &&& 31).toUInt32).toInt32) &&& (3 : Int32))), .val (.ref b75), .unset] [(.int k3), (.int k1)])) _
                exact k_)
              by_cases hc122_109 : k1 = k3
              · obtain ⟨cq110, kq110, q110a, q110b, q110c⟩ := isOf hZ rfl c82
                obtain ⟨v110, _, ⟨T110, L110, k110, n110⟩, -, X110, ⟨Lc110, hQ110, l110, y110, z110⟩, st110⟩ := X80.virtualBack hx (y := (⟨"com/example/fissure/fissure/games/breakable/Cube", "equals", "(Ljava/lang/Object;)Z"⟩ : MethodName)) (z := (⟨"com/example/fissure/fissure/games/breakable/Cube", "equals", "(Ljava/lang/Object;)Z"⟩ : MethodName)) hown (mvT hZ (hw _ (List.mem_of_getElem? (i := 15) rfl))) (mvT hZ (hw _ (List.mem_of_getElem? (i := 16) rfl))) (notFace_of_selects (args := #[]) (mvT hZ (hw _ (List.mem_of_getElem? (i := 18) rfl)))) (mvT hZ (hw _ (List.mem_of_getElem? (i := 18) rfl))) (mvT hZ (hw _ (List.mem_of_getElem? (i := 17) rfl))) (by decide) (backOf (W := 0) (rm_eqC l Z a0 hw [] b64 b75 k0 k1 k2 k3 T80.heap n0 Zs81 E80x c83 c84 F80_x F80_z) hZ (hw _ (List.mem_of_getElem? (i := 19) rfl)) (hw _ (List.mem_of_getElem? (i := 2) rfl)) (by decide) (by decide)) q110a q110c (g := (mkF m 136 #[.val (.int k0), .val (.int k1), .val (.int k2), .val (.int k3), .val (.int k4), .val (.ref b64), .val (.int k2), .val (.int k3), .val (.ref b75), .val (.int (((k4.toUInt32 >>> ((2 : Int32) &&& 31).toUInt32).toInt32) &&& (3 : Int32))), .val (.ref b75), .val (.int (1 : Int32))] [(.ref b75), (.ref b64)])) rfl (by rw [hml]; rfl) (Steps.refl _) (argsL := [(.ref b75)]) (rest := []) (lenOf pd_3 rfl) rfl (by show 2 * 0 + _ ≤ _; exact Nat.le_of_eq rfl) (hb hby at_136) (fun _ _ => ⟨rfl, rfl, (by decide : 2 + 0 ≤ _), (by decide : 6 + 0 ≤ _)⟩)
                dsimp only [Pt.U, Pt.locs, Pt.cells, Pt.slots] at X110 l110 y110 z110 st110 hQ110
                subst l110 y110 z110
                obtain ⟨hv110, N110q, e110⟩ := hQ110
                have N110 := Fr.app N80 N110q
                have hw110 : v110 = some (.int (1 : Int32)) := hv110.trans (congrArg (fun z => some (Value.int z)) (own_yes hc116_107 hc122_109))
                subst hw110
                have pre111 : ∀ t_, Steps p.tables e below (T110.setTop (mkF m 148 #[.val (.int k0), .val (.int k1), .val (.int k2), .val (.int k3), .val (.int k4), .val (.ref b64), .val (.int k2), .val (.int k3), .val (.ref b75), .val (.int (((k4.toUInt32 >>> ((2 : Int32) &&& 31).toUInt32).toInt32) &&& (3 : Int32))), .val (.ref b75), .val (.int (1 : Int32))] [(.int (((k4.toUInt32 >>> ((2 : Int32) &&& 31).toUInt32).toInt32) &&& (3 : Int32)))])) t_ → Steps p.tables e below (s₁.setTop (entryFrame m #[(.int k0), (.int k1), (.int k2), (.int k3), (.int k4)] maxLocals)) t_ := fun t_ k_ => pre108 t_ (by
                  show Steps p.tables e below (T80.setTop (mkF m 122 #[.val (.int k0), .val (.int k1), .val (.int k2), .val (.int k3), .val (.int k4), .val (.ref b64), .val (.int k2), .val (.int k3), .val (.ref b75), .val (.int (((k4.toUInt32 >>> ((2 : Int32) &&& 31).toUInt32).toInt32) &&& (3 : Int32))), .val (.ref b75), .unset] [(.int k3), (.int k1)])) _
                  refine XS.icmpNo X80.here hx rfl (hb hby at_122) rfl (teq hc122_109).2 ?_
                  show Steps p.tables e below (T80.setTop (mkF m 125 #[.val (.int k0), .val (.int k1), .val (.int k2), .val (.int k3), .val (.int k4), .val (.ref b64), .val (.int k2), .val (.int k3), .val (.ref b75), .val (.int (((k4.toUInt32 >>> ((2 : Int32) &&& 31).toUInt32).toInt32) &&& (3 : Int32))), .val (.ref b75), .unset] [])) _
                  refine XS.iconst X80.here hx rfl (hb hby at_125) ?_
                  show Steps p.tables e below (T80.setTop (mkF m 126 #[.val (.int k0), .val (.int k1), .val (.int k2), .val (.int k3), .val (.int k4), .val (.ref b64), .val (.int k2), .val (.int k3), .val (.ref b75), .val (.int (((k4.toUInt32 >>> ((2 : Int32) &&& 31).toUInt32).toInt32) &&& (3 : Int32))), .val (.ref b75), .unset] [(.int (1 : Int32))])) _
                  refine XS.goto X80.here hx rfl (pc0 := 126) (pc' := 130) rfl (hb hby at_126) (by decide) (by decide) ?_
                  show Steps p.tables e below (T80.setTop (mkF m 130 #[.val (.int k0), .val (.int k1), .val (.int k2), .val (.int k3), .val (.int k4), .val (.ref b64), .val (.int k2), .val (.int k3), .val (.ref b75), .val (.int (((k4.toUInt32 >>> ((2 : Int32) &&& 31).toUInt32).toInt32) &&& (3 : Int32))), .val (.ref b75), .unset] [(.int (1 : Int32))])) _
                  refine XS.istore X80.here hx rfl (hb hby at_130) rfl (l' := #[.val (.int k0), .val (.int k1), .val (.int k2), .val (.int k3), .val (.int k4), .val (.ref b64), .val (.int k2), .val (.int k3), .val (.ref b75), .val (.int (((k4.toUInt32 >>> ((2 : Int32) &&& 31).toUInt32).toInt32) &&& (3 : Int32))), .val (.ref b75), .val (.int (1 : Int32))]) rfl ?_
                  show Steps p.tables e below (T80.setTop (mkF m 132 #[.val (.int k0), .val (.int k1), .val (.int k2), .val (.int k3), .val (.int k4), .val (.ref b64), .val (.int k2), .val (.int k3), .val (.ref b75), .val (.int (((k4.toUInt32 >>> ((2 : Int32) &&& 31).toUInt32).toInt32) &&& (3 : Int32))), .val (.ref b75), .val (.int (1 : Int32))] [])) _
                  refine XS.aload X80.here hx rfl (hb hby at_132) rfl rfl ?_
                  show Steps p.tables e below (T80.setTop (mkF m 134 #[.val (.int k0), .val (.int k1), .val (.int k2), .val (.int k3), .val (.int k4), .val (.ref b64), .val (.int k2), .val (.int k3), .val (.ref b75), .val (.int (((k4.toUInt32 >>> ((2 : Int32) &&& 31).toUInt32).toInt32) &&& (3 : Int32))), .val (.ref b75), .val (.int (1 : Int32))] [(.ref b64)])) _
                  refine XS.aload X80.here hx rfl (hb hby at_134) rfl rfl ?_
                  show Steps p.tables e below (T80.setTop (mkF m 136 #[.val (.int k0), .val (.int k1), .val (.int k2), .val (.int k3), .val (.int k4), .val (.ref b64), .val (.int k2), .val (.int k3), .val (.ref b75), .val (.int (((k4.toUInt32 >>> ((2 : Int32) &&& 31).toUInt32).toInt32) &&& (3 : Int32))), .val (.ref b75), .val (.int (1 : Int32))] [(.ref b75), (.ref b64)])) _
                  refine st110.trans ?_
                  show Steps p.tables e below (T110.setTop (mkF m 139 #[.val (.int k0), .val (.int k1), .val (.int k2), .val (.int k3), .val (.int k4), .val (.ref b64), .val (.int k2), .val (.int k3), .val (.ref b75), .val (.int (((k4.toUInt32 >>> ((2 : Int32) &&& 31).toUInt32).toInt32) &&& (3 : Int32))), .val (.ref b75), .val (.int (1 : Int32))] [(.int (1 : Int32))])) _
                  refine XS.iload X110.here hx rfl (hb hby at_139) rfl ?_
                  show Steps p.tables e below (T110.setTop (mkF m 141 #[.val (.int k0), .val (.int k1), .val (.int k2), .val (.int k3), .val (.int k4), .val (.ref b64), .val (.int k2), .val (.int k3), .val (.ref b75), .val (.int (((k4.toUInt32 >>> ((2 : Int32) &&& 31).toUInt32).toInt32) &&& (3 : Int32))), .val (.ref b75), .val (.int (1 : Int32))] [(.int (1 : Int32)), (.int (1 : Int32))])) _
                  refine XS.icmpYes X110.here hx rfl (pc0 := 141) (pc' := 146) rfl (hb hby at_141) rfl (teq (rfl : (1 : Int32) = (1 : Int32))).1 (by decide) (by decide) ?_
                  show Steps p.tables e below (T110.setTop (mkF m 146 #[.val (.int k0), .val (.int k1), .val (.int k2), .val (.int k3), .val (.int k4), .val (.ref b64), .val (.int k2), .val (.int k3), .val (.ref b75), .val (.int (((k4.toUInt32 >>> ((2 : Int32) &&& 31).toUInt32).toInt32) &&& (3 : Int32))), .val (.ref b75), .val (.int (1 : Int32))] [])) _
                  refine XS.iload X110.here hx rfl (hb hby at_146) rfl ?_
                  show Steps p.tables e below (T110.setTop (mkF m 148 #[.val (.int k0), .val (.int k1), .val (.int k2), .val (.int k3), .val (.int k4), .val (.ref b64), .val (.int k2), .val (.int k3), .val (.ref b75), .val (.int (((k4.toUInt32 >>> ((2 : Int32) &&& 31).toUInt32).toInt32) &&& (3 : Int32))), .val (.ref b75), .val (.int (1 : Int32))] [(.int (((k4.toUInt32 >>> ((2 : Int32) &&& 31).toUInt32).toInt32) &&& (3 : Int32)))])) _
                  exact k_)
                by_cases hc148_112 : (((k4.toUInt32 >>> ((2 : Int32) &&& 31).toUInt32).toInt32) &&& (3 : Int32)) = (0 : Int32)
                · obtain ⟨cq113, kq113, q113a, q113b, q113c⟩ := isOf hZ e110 E80x
                  obtain ⟨v113, _, ⟨T113, L113, k113, n113⟩, -, X113, ⟨Lc113, hQ113, l113, y113, z113⟩, st113⟩ := X110.virtualBack hx (y := (⟨"com/example/fissure/fissure/games/breakable/Cube", "equals", "(Ljava/lang/Object;)Z"⟩ : MethodName)) (z := (⟨"com/example/fissure/fissure/games/breakable/Cube", "equals", "(Ljava/lang/Object;)Z"⟩ : MethodName)) hown (mvT hZ (hw _ (List.mem_of_getElem? (i := 15) rfl))) (mvT hZ (hw _ (List.mem_of_getElem? (i := 16) rfl))) (notFace_of_selects (args := #[]) (mvT hZ (hw _ (List.mem_of_getElem? (i := 18) rfl)))) (mvT hZ (hw _ (List.mem_of_getElem? (i := 18) rfl))) (mvT hZ (hw _ (List.mem_of_getElem? (i := 17) rfl))) (by decide) (backOf (W := 0) (rm_eqC l Z a0 hw [] b75 b64 k2 k3 k0 k1 T80.heap n0 Zs81 c82 F80_x F80_z c83 c84) hZ (hw _ (List.mem_of_getElem? (i := 19) rfl)) (hw _ (List.mem_of_getElem? (i := 2) rfl)) (by decide) (by decide)) q113a q113c (g := (mkF m 155 #[.val (.int k0), .val (.int k1), .val (.int k2), .val (.int k3), .val (.int k4), .val (.ref b64), .val (.int k2), .val (.int k3), .val (.ref b75), .val (.int (((k4.toUInt32 >>> ((2 : Int32) &&& 31).toUInt32).toInt32) &&& (3 : Int32))), .val (.ref b75), .val (.int (1 : Int32))] [(.ref b64), (.ref b75)])) rfl (by rw [hml]; rfl) (Steps.refl _) (argsL := [(.ref b64)]) (rest := []) (lenOf pd_3 rfl) rfl (by show 2 * 0 + _ ≤ _; exact Nat.le_of_eq rfl) (hb hby at_155) (fun _ _ => ⟨rfl, e110, (by decide : 2 + 0 ≤ _), (by decide : 6 + 0 ≤ _)⟩)
                  dsimp only [Pt.U, Pt.locs, Pt.cells, Pt.slots] at X113 l113 y113 z113 st113 hQ113
                  subst l113 y113 z113
                  obtain ⟨hv113, N113q, e113⟩ := hQ113
                  have N113 := Fr.app N110 N113q
                  have hw113 : v113 = some (.int (1 : Int32)) := hv113.trans (congrArg (fun z => some (Value.int z)) (own_yes hc116_107.symm hc122_109.symm))
                  subst hw113
                  have pre114 : ∀ t_, Steps p.tables e below (T113.setTop (mkF m 166 #[.val (.int k0), .val (.int k1), .val (.int k2), .val (.int k3), .val (.int k4), .val (.ref b64), .val (.int k2), .val (.int k3), .val (.ref b75), .val (.int (((k4.toUInt32 >>> ((2 : Int32) &&& 31).toUInt32).toInt32) &&& (3 : Int32))), .val (.ref b75), .val (.int (1 : Int32))] [(.int (1 : Int32))])) t_ → Steps p.tables e below (s₁.setTop (entryFrame m #[(.int k0), (.int k1), (.int k2), (.int k3), (.int k4)] maxLocals)) t_ := fun t_ k_ => pre111 t_ (by
                    show Steps p.tables e below (T110.setTop (mkF m 148 #[.val (.int k0), .val (.int k1), .val (.int k2), .val (.int k3), .val (.int k4), .val (.ref b64), .val (.int k2), .val (.int k3), .val (.ref b75), .val (.int (((k4.toUInt32 >>> ((2 : Int32) &&& 31).toUInt32).toInt32) &&& (3 : Int32))), .val (.ref b75), .val (.int (1 : Int32))] [(.int (((k4.toUInt32 >>> ((2 : Int32) &&& 31).toUInt32).toInt32) &&& (3 : Int32)))])) _
                    refine XS.ifNo X110.here hx rfl (hb hby at_148) rfl ((if0 _ _).trans (teq hc148_112).2) ?_
                    show Steps p.tables e below (T110.setTop (mkF m 151 #[.val (.int k0), .val (.int k1), .val (.int k2), .val (.int k3), .val (.int k4), .val (.ref b64), .val (.int k2), .val (.int k3), .val (.ref b75), .val (.int (((k4.toUInt32 >>> ((2 : Int32) &&& 31).toUInt32).toInt32) &&& (3 : Int32))), .val (.ref b75), .val (.int (1 : Int32))] [])) _
                    refine XS.aload X110.here hx rfl (hb hby at_151) rfl rfl ?_
                    show Steps p.tables e below (T110.setTop (mkF m 153 #[.val (.int k0), .val (.int k1), .val (.int k2), .val (.int k3), .val (.int k4), .val (.ref b64), .val (.int k2), .val (.int k3), .val (.ref b75), .val (.int (((k4.toUInt32 >>> ((2 : Int32) &&& 31).toUInt32).toInt32) &&& (3 : Int32))), .val (.ref b75), .val (.int (1 : Int32))] [(.ref b75)])) _
                    refine XS.aload X110.here hx rfl (hb hby at_153) rfl rfl ?_
                    show Steps p.tables e below (T110.setTop (mkF m 155 #[.val (.int k0), .val (.int k1), .val (.int k2), .val (.int k3), .val (.int k4), .val (.ref b64), .val (.int k2), .val (.int k3), .val (.ref b75), .val (.int (((k4.toUInt32 >>> ((2 : Int32) &&& 31).toUInt32).toInt32) &&& (3 : Int32))), .val (.ref b75), .val (.int (1 : Int32))] [(.ref b64), (.ref b75)])) _
                    refine st113.trans ?_
                    show Steps p.tables e below (T113.setTop (mkF m 158 #[.val (.int k0), .val (.int k1), .val (.int k2), .val (.int k3), .val (.int k4), .val (.ref b64), .val (.int k2), .val (.int k3), .val (.ref b75), .val (.int (((k4.toUInt32 >>> ((2 : Int32) &&& 31).toUInt32).toInt32) &&& (3 : Int32))), .val (.ref b75), .val (.int (1 : Int32))] [(.int (1 : Int32))])) _
                    refine XS.iload X113.here hx rfl (hb hby at_158) rfl ?_
                    show Steps p.tables e below (T113.setTop (mkF m 160 #[.val (.int k0), .val (.int k1), .val (.int k2), .val (.int k3), .val (.int k4), .val (.ref b64), .val (.int k2), .val (.int k3), .val (.ref b75), .val (.int (((k4.toUInt32 >>> ((2 : Int32) &&& 31).toUInt32).toInt32) &&& (3 : Int32))), .val (.ref b75), .val (.int (1 : Int32))] [(.int (1 : Int32)), (.int (1 : Int32))])) _
                    refine XS.icmpYes X113.here hx rfl (pc0 := 160) (pc' := 165) rfl (hb hby at_160) rfl (teq (rfl : (1 : Int32) = (1 : Int32))).1 (by decide) (by decide) ?_
                    show Steps p.tables e below (T113.setTop (mkF m 165 #[.val (.int k0), .val (.int k1), .val (.int k2), .val (.int k3), .val (.int k4), .val (.ref b64), .val (.int k2), .val (.int k3), .val (.ref b75), .val (.int (((k4.toUInt32 >>> ((2 : Int32) &&& 31).toUInt32).toInt32) &&& (3 : Int32))), .val (.ref b75), .val (.int (1 : Int32))] [])) _
                    refine XS.iconst X113.here hx rfl (hb hby at_165) ?_
                    show Steps p.tables e below (T113.setTop (mkF m 166 #[.val (.int k0), .val (.int k1), .val (.int k2), .val (.int k3), .val (.int k4), .val (.ref b64), .val (.int k2), .val (.int k3), .val (.ref b75), .val (.int (((k4.toUInt32 >>> ((2 : Int32) &&& 31).toUInt32).toInt32) &&& (3 : Int32))), .val (.ref b75), .val (.int (1 : Int32))] [(.int (1 : Int32))])) _
                    exact k_)
                  obtain ⟨fs, hr, hrun, hended, hW, hsame⟩ := X113.leave (v := some (.int (1 : Int32))) (fun h => by rw [Bd.returns] at h; cases h)
                  refine ⟨_, _, pre114 _ ?_, hrun, hended, _, _, rfl, ?_, ⟨_, rfl⟩, hW, hsame.mono (by decide) (by decide)⟩
                  · show Steps p.tables e below (T113.setTop (mkF m 166 #[.val (.int k0), .val (.int k1), .val (.int k2), .val (.int k3), .val (.int k4), .val (.ref b64), .val (.int k2), .val (.int k3), .val (.ref b75), .val (.int (((k4.toUInt32 >>> ((2 : Int32) &&& 31).toUInt32).toInt32) &&& (3 : Int32))), .val (.ref b75), .val (.int (1 : Int32))] [(.int (1 : Int32))])) _
                    exact retN X113 hx (t := .boolean) Bd.returns (by simp) (hb hby at_166) hr
                  · show Q_0 Z k0 k1 k2 k3 k4 w_cache cl_cache bx h0 n0 _ T113.heap _
                    rw [e113]
                    exact ⟨rfl, N113⟩
                · have pre115 : ∀ t_, Steps p.tables e below (T110.setTop (mkF m 166 #[.val (.int k0), .val (.int k1), .val (.int k2), .val (.int k3), .val (.int k4), .val (.ref b64), .val (.int k2), .val (.int k3), .val (.ref b75), .val (.int (((k4.toUInt32 >>> ((2 : Int32) &&& 31).toUInt32).toInt32) &&& (3 : Int32))), .val (.ref b75), .val (.int (1 : Int32))] [(.int (1 : Int32))])) t_ → Steps p.tables e below (s₁.setTop (entryFrame m #[(.int k0), (.int k1), (.int k2), (.int k3), (.int k4)] maxLocals)) t_ := fun t_ k_ => pre111 t_ (by
                    show Steps p.tables e below (T110.setTop (mkF m 148 #[.val (.int k0), .val (.int k1), .val (.int k2), .val (.int k3), .val (.int k4), .val (.ref b64), .val (.int k2), .val (.int k3), .val (.ref b75), .val (.int (((k4.toUInt32 >>> ((2 : Int32) &&& 31).toUInt32).toInt32) &&& (3 : Int32))), .val (.ref b75), .val (.int (1 : Int32))] [(.int (((k4.toUInt32 >>> ((2 : Int32) &&& 31).toUInt32).toInt32) &&& (3 : Int32)))])) _
                    refine XS.ifYes X110.here hx rfl (pc0 := 148) (pc' := 165) rfl (hb hby at_148) rfl ((if0 _ _).trans (feq hc148_112).2) (by decide) (by decide) ?_
                    show Steps p.tables e below (T110.setTop (mkF m 165 #[.val (.int k0), .val (.int k1), .val (.int k2), .val (.int k3), .val (.int k4), .val (.ref b64), .val (.int k2), .val (.int k3), .val (.ref b75), .val (.int (((k4.toUInt32 >>> ((2 : Int32) &&& 31).toUInt32).toInt32) &&& (3 : Int32))), .val (.ref b75), .val (.int (1 : Int32))] [])) _
                    refine XS.iconst X110.here hx rfl (hb hby at_165) ?_
                    show Steps p.tables e below (T110.setTop (mkF m 166 #[.val (.int k0), .val (.int k1), .val (.int k2), .val (.int k3), .val (.int k4), .val (.ref b64), .val (.int k2), .val (.int k3), .val (.ref b75), .val (.int (((k4.toUInt32 >>> ((2 : Int32) &&& 31).toUInt32).toInt32) &&& (3 : Int32))), .val (.ref b75), .val (.int (1 : Int32))] [(.int (1 : Int32))])) _
                    exact k_)
                  obtain ⟨fs, hr, hrun, hended, hW, hsame⟩ := X110.leave (v := some (.int (1 : Int32))) (fun h => by rw [Bd.returns] at h; cases h)
                  refine ⟨_, _, pre115 _ ?_, hrun, hended, _, _, rfl, ?_, ⟨_, rfl⟩, hW, hsame.mono (by decide) (by decide)⟩
                  · show Steps p.tables e below (T110.setTop (mkF m 166 #[.val (.int k0), .val (.int k1), .val (.int k2), .val (.int k3), .val (.int k4), .val (.ref b64), .val (.int k2), .val (.int k3), .val (.ref b75), .val (.int (((k4.toUInt32 >>> ((2 : Int32) &&& 31).toUInt32).toInt32) &&& (3 : Int32))), .val (.ref b75), .val (.int (1 : Int32))] [(.int (1 : Int32))])) _
                    exact retN X110 hx (t := .boolean) Bd.returns (by simp) (hb hby at_166) hr
                  · show Q_0 Z k0 k1 k2 k3 k4 w_cache cl_cache bx h0 n0 _ T110.heap _
                    rw [e110]
                    exact ⟨rfl, N110⟩
              · obtain ⟨cq116, kq116, q116a, q116b, q116c⟩ := isOf hZ rfl c82
                obtain ⟨v116, _, ⟨T116, L116, k116, n116⟩, -, X116, ⟨Lc116, hQ116, l116, y116, z116⟩, st116⟩ := X80.virtualBack hx (y := (⟨"com/example/fissure/fissure/games/breakable/Cube", "equals", "(Ljava/lang/Object;)Z"⟩ : MethodName)) (z := (⟨"com/example/fissure/fissure/games/breakable/Cube", "equals", "(Ljava/lang/Object;)Z"⟩ : MethodName)) hown (mvT hZ (hw _ (List.mem_of_getElem? (i := 15) rfl))) (mvT hZ (hw _ (List.mem_of_getElem? (i := 16) rfl))) (notFace_of_selects (args := #[]) (mvT hZ (hw _ (List.mem_of_getElem? (i := 18) rfl)))) (mvT hZ (hw _ (List.mem_of_getElem? (i := 18) rfl))) (mvT hZ (hw _ (List.mem_of_getElem? (i := 17) rfl))) (by decide) (backOf (W := 0) (rm_eqC l Z a0 hw [] b64 b75 k0 k1 k2 k3 T80.heap n0 Zs81 E80x c83 c84 F80_x F80_z) hZ (hw _ (List.mem_of_getElem? (i := 19) rfl)) (hw _ (List.mem_of_getElem? (i := 2) rfl)) (by decide) (by decide)) q116a q116c (g := (mkF m 136 #[.val (.int k0), .val (.int k1), .val (.int k2), .val (.int k3), .val (.int k4), .val (.ref b64), .val (.int k2), .val (.int k3), .val (.ref b75), .val (.int (((k4.toUInt32 >>> ((2 : Int32) &&& 31).toUInt32).toInt32) &&& (3 : Int32))), .val (.ref b75), .val (.int (0 : Int32))] [(.ref b75), (.ref b64)])) rfl (by rw [hml]; rfl) (Steps.refl _) (argsL := [(.ref b75)]) (rest := []) (lenOf pd_3 rfl) rfl (by show 2 * 0 + _ ≤ _; exact Nat.le_of_eq rfl) (hb hby at_136) (fun _ _ => ⟨rfl, rfl, (by decide : 2 + 0 ≤ _), (by decide : 6 + 0 ≤ _)⟩)
                dsimp only [Pt.U, Pt.locs, Pt.cells, Pt.slots] at X116 l116 y116 z116 st116 hQ116
                subst l116 y116 z116
                obtain ⟨hv116, N116q, e116⟩ := hQ116
                have N116 := Fr.app N80 N116q
                have hw116 : v116 = some (.int (0 : Int32)) := hv116.trans (congrArg (fun z => some (Value.int z)) (own_n2 hc116_107 hc122_109))
                subst hw116
                have pre117 : ∀ t_, Steps p.tables e below (T116.setTop (mkF m 148 #[.val (.int k0), .val (.int k1), .val (.int k2), .val (.int k3), .val (.int k4), .val (.ref b64), .val (.int k2), .val (.int k3), .val (.ref b75), .val (.int (((k4.toUInt32 >>> ((2 : Int32) &&& 31).toUInt32).toInt32) &&& (3 : Int32))), .val (.ref b75), .val (.int (0 : Int32))] [(.int (((k4.toUInt32 >>> ((2 : Int32) &&& 31).toUInt32).toInt32) &&& (3 : Int32)))])) t_ → Steps p.tables e below (s₁.setTop (entryFrame m #[(.int k0), (.int k1), (.int k2), (.int k3), (.int k4)] maxLocals)) t_ := fun t_ k_ => pre108 t_ (by
                  show Steps p.tables e below (T80.setTop (mkF m 122 #[.val (.int k0), .val (.int k1), .val (.int k2), .val (.int k3), .val (.int k4), .val (.ref b64), .val (.int k2), .val (.int k3), .val (.ref b75), .val (.int (((k4.toUInt32 >>> ((2 : Int32) &&& 31).toUInt32).toInt32) &&& (3 : Int32))), .val (.ref b75), .unset] [(.int k3), (.int k1)])) _
                  refine XS.icmpYes X80.here hx rfl (pc0 := 122) (pc' := 129) rfl (hb hby at_122) rfl (feq hc122_109).2 (by decide) (by decide) ?_
                  show Steps p.tables e below (T80.setTop (mkF m 129 #[.val (.int k0), .val (.int k1), .val (.int k2), .val (.int k3), .val (.int k4), .val (.ref b64), .val (.int k2), .val (.int k3), .val (.ref b75), .val (.int (((k4.toUInt32 >>> ((2 : Int32) &&& 31).toUInt32).toInt32) &&& (3 : Int32))), .val (.ref b75), .unset] [])) _
                  refine XS.iconst X80.here hx rfl (hb hby at_129) ?_
                  show Steps p.tables e below (T80.setTop (mkF m 130 #[.val (.int k0), .val (.int k1), .val (.int k2), .val (.int k3), .val (.int k4), .val (.ref b64), .val (.int k2), .val (.int k3), .val (.ref b75), .val (.int (((k4.toUInt32 >>> ((2 : Int32) &&& 31).toUInt32).toInt32) &&& (3 : Int32))), .val (.ref b75), .unset] [(.int (0 : Int32))])) _
                  refine XS.istore X80.here hx rfl (hb hby at_130) rfl (l' := #[.val (.int k0), .val (.int k1), .val (.int k2), .val (.int k3), .val (.int k4), .val (.ref b64), .val (.int k2), .val (.int k3), .val (.ref b75), .val (.int (((k4.toUInt32 >>> ((2 : Int32) &&& 31).toUInt32).toInt32) &&& (3 : Int32))), .val (.ref b75), .val (.int (0 : Int32))]) rfl ?_
                  show Steps p.tables e below (T80.setTop (mkF m 132 #[.val (.int k0), .val (.int k1), .val (.int k2), .val (.int k3), .val (.int k4), .val (.ref b64), .val (.int k2), .val (.int k3), .val (.ref b75), .val (.int (((k4.toUInt32 >>> ((2 : Int32) &&& 31).toUInt32).toInt32) &&& (3 : Int32))), .val (.ref b75), .val (.int (0 : Int32))] [])) _
                  refine XS.aload X80.here hx rfl (hb hby at_132) rfl rfl ?_
                  show Steps p.tables e below (T80.setTop (mkF m 134 #[.val (.int k0), .val (.int k1), .val (.int k2), .val (.int k3), .val (.int k4), .val (.ref b64), .val (.int k2), .val (.int k3), .val (.ref b75), .val (.int (((k4.toUInt32 >>> ((2 : Int32) &&& 31).toUInt32).toInt32) &&& (3 : Int32))), .val (.ref b75), .val (.int (0 : Int32))] [(.ref b64)])) _
                  refine XS.aload X80.here hx rfl (hb hby at_134) rfl rfl ?_
                  show Steps p.tables e below (T80.setTop (mkF m 136 #[.val (.int k0), .val (.int k1), .val (.int k2), .val (.int k3), .val (.int k4), .val (.ref b64), .val (.int k2), .val (.int k3), .val (.ref b75), .val (.int (((k4.toUInt32 >>> ((2 : Int32) &&& 31).toUInt32).toInt32) &&& (3 : Int32))), .val (.ref b75), .val (.int (0 : Int32))] [(.ref b75), (.ref b64)])) _
                  refine st116.trans ?_
                  show Steps p.tables e below (T116.setTop (mkF m 139 #[.val (.int k0), .val (.int k1), .val (.int k2), .val (.int k3), .val (.int k4), .val (.ref b64), .val (.int k2), .val (.int k3), .val (.ref b75), .val (.int (((k4.toUInt32 >>> ((2 : Int32) &&& 31).toUInt32).toInt32) &&& (3 : Int32))), .val (.ref b75), .val (.int (0 : Int32))] [(.int (0 : Int32))])) _
                  refine XS.iload X116.here hx rfl (hb hby at_139) rfl ?_
                  show Steps p.tables e below (T116.setTop (mkF m 141 #[.val (.int k0), .val (.int k1), .val (.int k2), .val (.int k3), .val (.int k4), .val (.ref b64), .val (.int k2), .val (.int k3), .val (.ref b75), .val (.int (((k4.toUInt32 >>> ((2 : Int32) &&& 31).toUInt32).toInt32) &&& (3 : Int32))), .val (.ref b75), .val (.int (0 : Int32))] [(.int (0 : Int32)), (.int (0 : Int32))])) _
                  refine XS.icmpYes X116.here hx rfl (pc0 := 141) (pc' := 146) rfl (hb hby at_141) rfl (teq (rfl : (0 : Int32) = (0 : Int32))).1 (by decide) (by decide) ?_
                  show Steps p.tables e below (T116.setTop (mkF m 146 #[.val (.int k0), .val (.int k1), .val (.int k2), .val (.int k3), .val (.int k4), .val (.ref b64), .val (.int k2), .val (.int k3), .val (.ref b75), .val (.int (((k4.toUInt32 >>> ((2 : Int32) &&& 31).toUInt32).toInt32) &&& (3 : Int32))), .val (.ref b75), .val (.int (0 : Int32))] [])) _
                  refine XS.iload X116.here hx rfl (hb hby at_146) rfl ?_
                  show Steps p.tables e below (T116.setTop (mkF m 148 #[.val (.int k0), .val (.int k1), .val (.int k2), .val (.int k3), .val (.int k4), .val (.ref b64), .val (.int k2), .val (.int k3), .val (.ref b75), .val (.int (((k4.toUInt32 >>> ((2 : Int32) &&& 31).toUInt32).toInt32) &&& (3 : Int32))), .val (.ref b75), .val (.int (0 : Int32))] [(.int (((k4.toUInt32 >>> ((2 : Int32) &&& 31).toUInt32).toInt32) &&& (3 : Int32)))])) _
                  exact k_)
                by_cases hc148_118 : (((k4.toUInt32 >>> ((2 : Int32) &&& 31).toUInt32).toInt32) &&& (3 : Int32)) = (0 : Int32)
                · obtain ⟨cq119, kq119, q119a, q119b, q119c⟩ := isOf hZ e116 E80x
                  obtain ⟨v119, _, ⟨T119, L119, k119, n119⟩, -, X119, ⟨Lc119, hQ119, l119, y119, z119⟩, st119⟩ := X116.virtualBack hx (y := (⟨"com/example/fissure/fissure/games/breakable/Cube", "equals", "(Ljava/lang/Object;)Z"⟩ : MethodName)) (z := (⟨"com/example/fissure/fissure/games/breakable/Cube", "equals", "(Ljava/lang/Object;)Z"⟩ : MethodName)) hown (mvT hZ (hw _ (List.mem_of_getElem? (i := 15) rfl))) (mvT hZ (hw _ (List.mem_of_getElem? (i := 16) rfl))) (notFace_of_selects (args := #[]) (mvT hZ (hw _ (List.mem_of_getElem? (i := 18) rfl)))) (mvT hZ (hw _ (List.mem_of_getElem? (i := 18) rfl))) (mvT hZ (hw _ (List.mem_of_getElem? (i := 17) rfl))) (by decide) (backOf (W := 0) (rm_eqC l Z a0 hw [] b75 b64 k2 k3 k0 k1 T80.heap n0 Zs81 c82 F80_x F80_z c83 c84) hZ (hw _ (List.mem_of_getElem? (i := 19) rfl)) (hw _ (List.mem_of_getElem? (i := 2) rfl)) (by decide) (by decide)) q119a q119c (g := (mkF m 155 #[.val (.int k0), .val (.int k1), .val (.int k2), .val (.int k3), .val (.int k4), .val (.ref b64), .val (.int k2), .val (.int k3), .val (.ref b75), .val (.int (((k4.toUInt32 >>> ((2 : Int32) &&& 31).toUInt32).toInt32) &&& (3 : Int32))), .val (.ref b75), .val (.int (0 : Int32))] [(.ref b64), (.ref b75)])) rfl (by rw [hml]; rfl) (Steps.refl _) (argsL := [(.ref b64)]) (rest := []) (lenOf pd_3 rfl) rfl (by show 2 * 0 + _ ≤ _; exact Nat.le_of_eq rfl) (hb hby at_155) (fun _ _ => ⟨rfl, e116, (by decide : 2 + 0 ≤ _), (by decide : 6 + 0 ≤ _)⟩)
                  dsimp only [Pt.U, Pt.locs, Pt.cells, Pt.slots] at X119 l119 y119 z119 st119 hQ119
                  subst l119 y119 z119
                  obtain ⟨hv119, N119q, e119⟩ := hQ119
                  have N119 := Fr.app N116 N119q
                  have hw119 : v119 = some (.int (0 : Int32)) := hv119.trans (congrArg (fun z => some (Value.int z)) (own_n2 hc116_107.symm (fun h_ => hc122_109 h_.symm)))
                  subst hw119
                  have pre120 : ∀ t_, Steps p.tables e below (T119.setTop (mkF m 166 #[.val (.int k0), .val (.int k1), .val (.int k2), .val (.int k3), .val (.int k4), .val (.ref b64), .val (.int k2), .val (.int k3), .val (.ref b75), .val (.int (((k4.toUInt32 >>> ((2 : Int32) &&& 31).toUInt32).toInt32) &&& (3 : Int32))), .val (.ref b75), .val (.int (0 : Int32))] [(.int (1 : Int32))])) t_ → Steps p.tables e below (s₁.setTop (entryFrame m #[(.int k0), (.int k1), (.int k2), (.int k3), (.int k4)] maxLocals)) t_ := fun t_ k_ => pre117 t_ (by
                    show Steps p.tables e below (T116.setTop (mkF m 148 #[.val (.int k0), .val (.int k1), .val (.int k2), .val (.int k3), .val (.int k4), .val (.ref b64), .val (.int k2), .val (.int k3), .val (.ref b75), .val (.int (((k4.toUInt32 >>> ((2 : Int32) &&& 31).toUInt32).toInt32) &&& (3 : Int32))), .val (.ref b75), .val (.int (0 : Int32))] [(.int (((k4.toUInt32 >>> ((2 : Int32) &&& 31).toUInt32).toInt32) &&& (3 : Int32)))])) _
                    refine XS.ifNo X116.here hx rfl (hb hby at_148) rfl ((if0 _ _).trans (teq hc148_118).2) ?_
                    show Steps p.tables e below (T116.setTop (mkF m 151 #[.val (.int k0), .val (.int k1), .val (.int k2), .val (.int k3), .val (.int k4), .val (.ref b64), .val (.int k2), .val (.int k3), .val (.ref b75), .val (.int (((k4.toUInt32 >>> ((2 : Int32) &&& 31).toUInt32).toInt32) &&& (3 : Int32))), .val (.ref b75), .val (.int (0 : Int32))] [])) _
                    refine XS.aload X116.here hx rfl (hb hby at_151) rfl rfl ?_
                    show Steps p.tables e below (T116.setTop (mkF m 153 #[.val (.int k0), .val (.int k1), .val (.int k2), .val (.int k3), .val (.int k4), .val (.ref b64), .val (.int k2), .val (.int k3), .val (.ref b75), .val (.int (((k4.toUInt32 >>> ((2 : Int32) &&& 31).toUInt32).toInt32) &&& (3 : Int32))), .val (.ref b75), .val (.int (0 : Int32))] [(.ref b75)])) _
                    refine XS.aload X116.here hx rfl (hb hby at_153) rfl rfl ?_
                    show Steps p.tables e below (T116.setTop (mkF m 155 #[.val (.int k0), .val (.int k1), .val (.int k2), .val (.int k3), .val (.int k4), .val (.ref b64), .val (.int k2), .val (.int k3), .val (.ref b75), .val (.int (((k4.toUInt32 >>> ((2 : Int32) &&& 31).toUInt32).toInt32) &&& (3 : Int32))), .val (.ref b75), .val (.int (0 : Int32))] [(.ref b64), (.ref b75)])) _
                    refine st119.trans ?_
                    show Steps p.tables e below (T119.setTop (mkF m 158 #[.val (.int k0), .val (.int k1), .val (.int k2), .val (.int k3), .val (.int k4), .val (.ref b64), .val (.int k2), .val (.int k3), .val (.ref b75), .val (.int (((k4.toUInt32 >>> ((2 : Int32) &&& 31).toUInt32).toInt32) &&& (3 : Int32))), .val (.ref b75), .val (.int (0 : Int32))] [(.int (0 : Int32))])) _
                    refine XS.iload X119.here hx rfl (hb hby at_158) rfl ?_
                    show Steps p.tables e below (T119.setTop (mkF m 160 #[.val (.int k0), .val (.int k1), .val (.int k2), .val (.int k3), .val (.int k4), .val (.ref b64), .val (.int k2), .val (.int k3), .val (.ref b75), .val (.int (((k4.toUInt32 >>> ((2 : Int32) &&& 31).toUInt32).toInt32) &&& (3 : Int32))), .val (.ref b75), .val (.int (0 : Int32))] [(.int (0 : Int32)), (.int (0 : Int32))])) _
                    refine XS.icmpYes X119.here hx rfl (pc0 := 160) (pc' := 165) rfl (hb hby at_160) rfl (teq (rfl : (0 : Int32) = (0 : Int32))).1 (by decide) (by decide) ?_
                    show Steps p.tables e below (T119.setTop (mkF m 165 #[.val (.int k0), .val (.int k1), .val (.int k2), .val (.int k3), .val (.int k4), .val (.ref b64), .val (.int k2), .val (.int k3), .val (.ref b75), .val (.int (((k4.toUInt32 >>> ((2 : Int32) &&& 31).toUInt32).toInt32) &&& (3 : Int32))), .val (.ref b75), .val (.int (0 : Int32))] [])) _
                    refine XS.iconst X119.here hx rfl (hb hby at_165) ?_
                    show Steps p.tables e below (T119.setTop (mkF m 166 #[.val (.int k0), .val (.int k1), .val (.int k2), .val (.int k3), .val (.int k4), .val (.ref b64), .val (.int k2), .val (.int k3), .val (.ref b75), .val (.int (((k4.toUInt32 >>> ((2 : Int32) &&& 31).toUInt32).toInt32) &&& (3 : Int32))), .val (.ref b75), .val (.int (0 : Int32))] [(.int (1 : Int32))])) _
                    exact k_)
                  obtain ⟨fs, hr, hrun, hended, hW, hsame⟩ := X119.leave (v := some (.int (1 : Int32))) (fun h => by rw [Bd.returns] at h; cases h)
                  refine ⟨_, _, pre120 _ ?_, hrun, hended, _, _, rfl, ?_, ⟨_, rfl⟩, hW, hsame.mono (by decide) (by decide)⟩
                  · show Steps p.tables e below (T119.setTop (mkF m 166 #[.val (.int k0), .val (.int k1), .val (.int k2), .val (.int k3), .val (.int k4), .val (.ref b64), .val (.int k2), .val (.int k3), .val (.ref b75), .val (.int (((k4.toUInt32 >>> ((2 : Int32) &&& 31).toUInt32).toInt32) &&& (3 : Int32))), .val (.ref b75), .val (.int (0 : Int32))] [(.int (1 : Int32))])) _
                    exact retN X119 hx (t := .boolean) Bd.returns (by simp) (hb hby at_166) hr
                  · show Q_0 Z k0 k1 k2 k3 k4 w_cache cl_cache bx h0 n0 _ T119.heap _
                    rw [e119]
                    exact ⟨rfl, N119⟩
                · have pre121 : ∀ t_, Steps p.tables e below (T116.setTop (mkF m 166 #[.val (.int k0), .val (.int k1), .val (.int k2), .val (.int k3), .val (.int k4), .val (.ref b64), .val (.int k2), .val (.int k3), .val (.ref b75), .val (.int (((k4.toUInt32 >>> ((2 : Int32) &&& 31).toUInt32).toInt32) &&& (3 : Int32))), .val (.ref b75), .val (.int (0 : Int32))] [(.int (1 : Int32))])) t_ → Steps p.tables e below (s₁.setTop (entryFrame m #[(.int k0), (.int k1), (.int k2), (.int k3), (.int k4)] maxLocals)) t_ := fun t_ k_ => pre117 t_ (by
                    show Steps p.tables e below (T116.setTop (mkF m 148 #[.val (.int k0), .val (.int k1), .val (.int k2), .val (.int k3), .val (.int k4), .val (.ref b64), .val (.int k2), .val (.int k3), .val (.ref b75), .val (.int (((k4.toUInt32 >>> ((2 : Int32) &&& 31).toUInt32).toInt32) &&& (3 : Int32))), .val (.ref b75), .val (.int (0 : Int32))] [(.int (((k4.toUInt32 >>> ((2 : Int32) &&& 31).toUInt32).toInt32) &&& (3 : Int32)))])) _
                    refine XS.ifYes X116.here hx rfl (pc0 := 148) (pc' := 165) rfl (hb hby at_148) rfl ((if0 _ _).trans (feq hc148_118).2) (by decide) (by decide) ?_
                    show Steps p.tables e below (T116.setTop (mkF m 165 #[.val (.int k0), .val (.int k1), .val (.int k2), .val (.int k3), .val (.int k4), .val (.ref b64), .val (.int k2), .val (.int k3), .val (.ref b75), .val (.int (((k4.toUInt32 >>> ((2 : Int32) &&& 31).toUInt32).toInt32) &&& (3 : Int32))), .val (.ref b75), .val (.int (0 : Int32))] [])) _
                    refine XS.iconst X116.here hx rfl (hb hby at_165) ?_
                    show Steps p.tables e below (T116.setTop (mkF m 166 #[.val (.int k0), .val (.int k1), .val (.int k2), .val (.int k3), .val (.int k4), .val (.ref b64), .val (.int k2), .val (.int k3), .val (.ref b75), .val (.int (((k4.toUInt32 >>> ((2 : Int32) &&& 31).toUInt32).toInt32) &&& (3 : Int32))), .val (.ref b75), .val (.int (0 : Int32))] [(.int (1 : Int32))])) _
                    exact k_)
                  obtain ⟨fs, hr, hrun, hended, hW, hsame⟩ := X116.leave (v := some (.int (1 : Int32))) (fun h => by rw [Bd.returns] at h; cases h)
                  refine ⟨_, _, pre121 _ ?_, hrun, hended, _, _, rfl, ?_, ⟨_, rfl⟩, hW, hsame.mono (by decide) (by decide)⟩
                  · show Steps p.tables e below (T116.setTop (mkF m 166 #[.val (.int k0), .val (.int k1), .val (.int k2), .val (.int k3), .val (.int k4), .val (.ref b64), .val (.int k2), .val (.int k3), .val (.ref b75), .val (.int (((k4.toUInt32 >>> ((2 : Int32) &&& 31).toUInt32).toInt32) &&& (3 : Int32))), .val (.ref b75), .val (.int (0 : Int32))] [(.int (1 : Int32))])) _
                    exact retN X116 hx (t := .boolean) Bd.returns (by simp) (hb hby at_166) hr
                  · show Q_0 Z k0 k1 k2 k3 k4 w_cache cl_cache bx h0 n0 _ T116.heap _
                    rw [e116]
                    exact ⟨rfl, N116⟩
            · obtain ⟨cq122, kq122, q122a, q122b, q122c⟩ := isOf hZ rfl c82
              obtain ⟨v122, _, ⟨T122, L122, k122, n122⟩, -, X122, ⟨Lc122, hQ122, l122, y122, z122⟩, st122⟩ := X80.virtualBack hx (y := (⟨"com/example/fissure/fissure/games/breakable/Cube", "equals", "(Ljava/lang/Object;)Z"⟩ : MethodName)) (z := (⟨"com/example/fissure/fissure/games/breakable/Cube", "equals", "(Ljava/lang/Object;)Z"⟩ : MethodName)) hown (mvT hZ (hw _ (List.mem_of_getElem? (i := 15) rfl))) (mvT hZ (hw _ (List.mem_of_getElem? (i := 16) rfl))) (notFace_of_selects (args := #[]) (mvT hZ (hw _ (List.mem_of_getElem? (i := 18) rfl)))) (mvT hZ (hw _ (List.mem_of_getElem? (i := 18) rfl))) (mvT hZ (hw _ (List.mem_of_getElem? (i := 17) rfl))) (by decide) (backOf (W := 0) (rm_eqC l Z a0 hw [] b64 b75 k0 k1 k2 k3 T80.heap n0 Zs81 E80x c83 c84 F80_x F80_z) hZ (hw _ (List.mem_of_getElem? (i := 19) rfl)) (hw _ (List.mem_of_getElem? (i := 2) rfl)) (by decide) (by decide)) q122a q122c (g := (mkF m 136 #[.val (.int k0), .val (.int k1), .val (.int k2), .val (.int k3), .val (.int k4), .val (.ref b64), .val (.int k2), .val (.int k3), .val (.ref b75), .val (.int (((k4.toUInt32 >>> ((2 : Int32) &&& 31).toUInt32).toInt32) &&& (3 : Int32))), .val (.ref b75), .val (.int (0 : Int32))] [(.ref b75), (.ref b64)])) rfl (by rw [hml]; rfl) (Steps.refl _) (argsL := [(.ref b75)]) (rest := []) (lenOf pd_3 rfl) rfl (by show 2 * 0 + _ ≤ _; exact Nat.le_of_eq rfl) (hb hby at_136) (fun _ _ => ⟨rfl, rfl, (by decide : 2 + 0 ≤ _), (by decide : 6 + 0 ≤ _)⟩)
              dsimp only [Pt.U, Pt.locs, Pt.cells, Pt.slots] at X122 l122 y122 z122 st122 hQ122
              subst l122 y122 z122
              obtain ⟨hv122, N122q, e122⟩ := hQ122
              have N122 := Fr.app N80 N122q
              have hw122 : v122 = some (.int (0 : Int32)) := hv122.trans (congrArg (fun z => some (Value.int z)) (own_n1 hc116_107))
              subst hw122
              have pre123 : ∀ t_, Steps p.tables e below (T122.setTop (mkF m 148 #[.val (.int k0), .val (.int k1), .val (.int k2), .val (.int k3), .val (.int k4), .val (.ref b64), .val (.int k2), .val (.int k3), .val (.ref b75), .val (.int (((k4.toUInt32 >>> ((2 : Int32) &&& 31).toUInt32).toInt32) &&& (3 : Int32))), .val (.ref b75), .val (.int (0 : Int32))] [(.int (((k4.toUInt32 >>> ((2 : Int32) &&& 31).toUInt32).toInt32) &&& (3 : Int32)))])) t_ → Steps p.tables e below (s₁.setTop (entryFrame m #[(.int k0), (.int k1), (.int k2), (.int k3), (.int k4)] maxLocals)) t_ := fun t_ k_ => pre106 t_ (by
                show Steps p.tables e below (T80.setTop (mkF m 116 #[.val (.int k0), .val (.int k1), .val (.int k2), .val (.int k3), .val (.int k4), .val (.ref b64), .val (.int k2), .val (.int k3), .val (.ref b75), .val (.int (((k4.toUInt32 >>> ((2 : Int32) &&& 31).toUInt32).toInt32) &&& (3 : Int32))), .val (.ref b75), .unset] [(.int k2), (.int k0)])) _
                refine XS.icmpYes X80.here hx rfl (pc0 := 116) (pc' := 129) rfl (hb hby at_116) rfl (feq hc116_107).2 (by decide) (by decide) ?_
                show Steps p.tables e below (T80.setTop (mkF m 129 #[.val (.int k0), .val (.int k1), .val (.int k2), .val (.int k3), .val (.int k4), .val (.ref b64), .val (.int k2), .val (.int k3), .val (.ref b75), .val (.int (((k4.toUInt32 >>> ((2 : Int32) &&& 31).toUInt32).toInt32) &&& (3 : Int32))), .val (.ref b75), .unset] [])) _
                refine XS.iconst X80.here hx rfl (hb hby at_129) ?_
                show Steps p.tables e below (T80.setTop (mkF m 130 #[.val (.int k0), .val (.int k1), .val (.int k2), .val (.int k3), .val (.int k4), .val (.ref b64), .val (.int k2), .val (.int k3), .val (.ref b75), .val (.int (((k4.toUInt32 >>> ((2 : Int32) &&& 31).toUInt32).toInt32) &&& (3 : Int32))), .val (.ref b75), .unset] [(.int (0 : Int32))])) _
                refine XS.istore X80.here hx rfl (hb hby at_130) rfl (l' := #[.val (.int k0), .val (.int k1), .val (.int k2), .val (.int k3), .val (.int k4), .val (.ref b64), .val (.int k2), .val (.int k3), .val (.ref b75), .val (.int (((k4.toUInt32 >>> ((2 : Int32) &&& 31).toUInt32).toInt32) &&& (3 : Int32))), .val (.ref b75), .val (.int (0 : Int32))]) rfl ?_
                show Steps p.tables e below (T80.setTop (mkF m 132 #[.val (.int k0), .val (.int k1), .val (.int k2), .val (.int k3), .val (.int k4), .val (.ref b64), .val (.int k2), .val (.int k3), .val (.ref b75), .val (.int (((k4.toUInt32 >>> ((2 : Int32) &&& 31).toUInt32).toInt32) &&& (3 : Int32))), .val (.ref b75), .val (.int (0 : Int32))] [])) _
                refine XS.aload X80.here hx rfl (hb hby at_132) rfl rfl ?_
                show Steps p.tables e below (T80.setTop (mkF m 134 #[.val (.int k0), .val (.int k1), .val (.int k2), .val (.int k3), .val (.int k4), .val (.ref b64), .val (.int k2), .val (.int k3), .val (.ref b75), .val (.int (((k4.toUInt32 >>> ((2 : Int32) &&& 31).toUInt32).toInt32) &&& (3 : Int32))), .val (.ref b75), .val (.int (0 : Int32))] [(.ref b64)])) _
                refine XS.aload X80.here hx rfl (hb hby at_134) rfl rfl ?_
                show Steps p.tables e below (T80.setTop (mkF m 136 #[.val (.int k0), .val (.int k1), .val (.int k2), .val (.int k3), .val (.int k4), .val (.ref b64), .val (.int k2), .val (.int k3), .val (.ref b75), .val (.int (((k4.toUInt32 >>> ((2 : Int32) &&& 31).toUInt32).toInt32) &&& (3 : Int32))), .val (.ref b75), .val (.int (0 : Int32))] [(.ref b75), (.ref b64)])) _
                refine st122.trans ?_
                show Steps p.tables e below (T122.setTop (mkF m 139 #[.val (.int k0), .val (.int k1), .val (.int k2), .val (.int k3), .val (.int k4), .val (.ref b64), .val (.int k2), .val (.int k3), .val (.ref b75), .val (.int (((k4.toUInt32 >>> ((2 : Int32) &&& 31).toUInt32).toInt32) &&& (3 : Int32))), .val (.ref b75), .val (.int (0 : Int32))] [(.int (0 : Int32))])) _
                refine XS.iload X122.here hx rfl (hb hby at_139) rfl ?_
                show Steps p.tables e below (T122.setTop (mkF m 141 #[.val (.int k0), .val (.int k1), .val (.int k2), .val (.int k3), .val (.int k4), .val (.ref b64), .val (.int k2), .val (.int k3), .val (.ref b75), .val (.int (((k4.toUInt32 >>> ((2 : Int32) &&& 31).toUInt32).toInt32) &&& (3 : Int32))), .val (.ref b75), .val (.int (0 : Int32))] [(.int (0 : Int32)), (.int (0 : Int32))])) _
                refine XS.icmpYes X122.here hx rfl (pc0 := 141) (pc' := 146) rfl (hb hby at_141) rfl (teq (rfl : (0 : Int32) = (0 : Int32))).1 (by decide) (by decide) ?_
                show Steps p.tables e below (T122.setTop (mkF m 146 #[.val (.int k0), .val (.int k1), .val (.int k2), .val (.int k3), .val (.int k4), .val (.ref b64), .val (.int k2), .val (.int k3), .val (.ref b75), .val (.int (((k4.toUInt32 >>> ((2 : Int32) &&& 31).toUInt32).toInt32) &&& (3 : Int32))), .val (.ref b75), .val (.int (0 : Int32))] [])) _
                refine XS.iload X122.here hx rfl (hb hby at_146) rfl ?_
                show Steps p.tables e below (T122.setTop (mkF m 148 #[.val (.int k0), .val (.int k1), .val (.int k2), .val (.int k3), .val (.int k4), .val (.ref b64), .val (.int k2), .val (.int k3), .val (.ref b75), .val (.int (((k4.toUInt32 >>> ((2 : Int32) &&& 31).toUInt32).toInt32) &&& (3 : Int32))), .val (.ref b75), .val (.int (0 : Int32))] [(.int (((k4.toUInt32 >>> ((2 : Int32) &&& 31).toUInt32).toInt32) &&& (3 : Int32)))])) _
                exact k_)
              by_cases hc148_124 : (((k4.toUInt32 >>> ((2 : Int32) &&& 31).toUInt32).toInt32) &&& (3 : Int32)) = (0 : Int32)
              · obtain ⟨cq125, kq125, q125a, q125b, q125c⟩ := isOf hZ e122 E80x
                obtain ⟨v125, _, ⟨T125, L125, k125, n125⟩, -, X125, ⟨Lc125, hQ125, l125, y125, z125⟩, st125⟩ := X122.virtualBack hx (y := (⟨"com/example/fissure/fissure/games/breakable/Cube", "equals", "(Ljava/lang/Object;)Z"⟩ : MethodName)) (z := (⟨"com/example/fissure/fissure/games/breakable/Cube", "equals", "(Ljava/lang/Object;)Z"⟩ : MethodName)) hown (mvT hZ (hw _ (List.mem_of_getElem? (i := 15) rfl))) (mvT hZ (hw _ (List.mem_of_getElem? (i := 16) rfl))) (notFace_of_selects (args := #[]) (mvT hZ (hw _ (List.mem_of_getElem? (i := 18) rfl)))) (mvT hZ (hw _ (List.mem_of_getElem? (i := 18) rfl))) (mvT hZ (hw _ (List.mem_of_getElem? (i := 17) rfl))) (by decide) (backOf (W := 0) (rm_eqC l Z a0 hw [] b75 b64 k2 k3 k0 k1 T80.heap n0 Zs81 c82 F80_x F80_z c83 c84) hZ (hw _ (List.mem_of_getElem? (i := 19) rfl)) (hw _ (List.mem_of_getElem? (i := 2) rfl)) (by decide) (by decide)) q125a q125c (g := (mkF m 155 #[.val (.int k0), .val (.int k1), .val (.int k2), .val (.int k3), .val (.int k4), .val (.ref b64), .val (.int k2), .val (.int k3), .val (.ref b75), .val (.int (((k4.toUInt32 >>> ((2 : Int32) &&& 31).toUInt32).toInt32) &&& (3 : Int32))), .val (.ref b75), .val (.int (0 : Int32))] [(.ref b64), (.ref b75)])) rfl (by rw [hml]; rfl) (Steps.refl _) (argsL := [(.ref b64)]) (rest := []) (lenOf pd_3 rfl) rfl (by show 2 * 0 + _ ≤ _; exact Nat.le_of_eq rfl) (hb hby at_155) (fun _ _ => ⟨rfl, e122, (by decide : 2 + 0 ≤ _), (by decide : 6 + 0 ≤ _)⟩)
                dsimp only [Pt.U, Pt.locs, Pt.cells, Pt.slots] at X125 l125 y125 z125 st125 hQ125
                subst l125 y125 z125
                obtain ⟨hv125, N125q, e125⟩ := hQ125
                have N125 := Fr.app N122 N125q
                have hw125 : v125 = some (.int (0 : Int32)) := hv125.trans (congrArg (fun z => some (Value.int z)) (own_n1 (fun h_ => hc116_107 h_.symm)))
                subst hw125
                have pre126 : ∀ t_, Steps p.tables e below (T125.setTop (mkF m 166 #[.val (.int k0), .val (.int k1), .val (.int k2), .val (.int k3), .val (.int k4), .val (.ref b64), .val (.int k2), .val (.int k3), .val (.ref b75), .val (.int (((k4.toUInt32 >>> ((2 : Int32) &&& 31).toUInt32).toInt32) &&& (3 : Int32))), .val (.ref b75), .val (.int (0 : Int32))] [(.int (1 : Int32))])) t_ → Steps p.tables e below (s₁.setTop (entryFrame m #[(.int k0), (.int k1), (.int k2), (.int k3), (.int k4)] maxLocals)) t_ := fun t_ k_ => pre123 t_ (by
                  show Steps p.tables e below (T122.setTop (mkF m 148 #[.val (.int k0), .val (.int k1), .val (.int k2), .val (.int k3), .val (.int k4), .val (.ref b64), .val (.int k2), .val (.int k3), .val (.ref b75), .val (.int (((k4.toUInt32 >>> ((2 : Int32) &&& 31).toUInt32).toInt32) &&& (3 : Int32))), .val (.ref b75), .val (.int (0 : Int32))] [(.int (((k4.toUInt32 >>> ((2 : Int32) &&& 31).toUInt32).toInt32) &&& (3 : Int32)))])) _
                  refine XS.ifNo X122.here hx rfl (hb hby at_148) rfl ((if0 _ _).trans (teq hc148_124).2) ?_
                  show Steps p.tables e below (T122.setTop (mkF m 151 #[.val (.int k0), .val (.int k1), .val (.int k2), .val (.int k3), .val (.int k4), .val (.ref b64), .val (.int k2), .val (.int k3), .val (.ref b75), .val (.int (((k4.toUInt32 >>> ((2 : Int32) &&& 31).toUInt32).toInt32) &&& (3 : Int32))), .val (.ref b75), .val (.int (0 : Int32))] [])) _
                  refine XS.aload X122.here hx rfl (hb hby at_151) rfl rfl ?_
                  show Steps p.tables e below (T122.setTop (mkF m 153 #[.val (.int k0), .val (.int k1), .val (.int k2), .val (.int k3), .val (.int k4), .val (.ref b64), .val (.int k2), .val (.int k3), .val (.ref b75), .val (.int (((k4.toUInt32 >>> ((2 : Int32) &&& 31).toUInt32).toInt32) &&& (3 : Int32))), .val (.ref b75), .val (.int (0 : Int32))] [(.ref b75)])) _
                  refine XS.aload X122.here hx rfl (hb hby at_153) rfl rfl ?_
                  show Steps p.tables e below (T122.setTop (mkF m 155 #[.val (.int k0), .val (.int k1), .val (.int k2), .val (.int k3), .val (.int k4), .val (.ref b64), .val (.int k2), .val (.int k3), .val (.ref b75), .val (.int (((k4.toUInt32 >>> ((2 : Int32) &&& 31).toUInt32).toInt32) &&& (3 : Int32))), .val (.ref b75), .val (.int (0 : Int32))] [(.ref b64), (.ref b75)])) _
                  refine st125.trans ?_
                  show Steps p.tables e below (T125.setTop (mkF m 158 #[.val (.int k0), .val (.int k1), .val (.int k2), .val (.int k3), .val (.int k4), .val (.ref b64), .val (.int k2), .val (.int k3), .val (.ref b75), .val (.int (((k4.toUInt32 >>> ((2 : Int32) &&& 31).toUInt32).toInt32) &&& (3 : Int32))), .val (.ref b75), .val (.int (0 : Int32))] [(.int (0 : Int32))])) _
                  refine XS.iload X125.here hx rfl (hb hby at_158) rfl ?_
                  show Steps p.tables e below (T125.setTop (mkF m 160 #[.val (.int k0), .val (.int k1), .val (.int k2), .val (.int k3), .val (.int k4), .val (.ref b64), .val (.int k2), .val (.int k3), .val (.ref b75), .val (.int (((k4.toUInt32 >>> ((2 : Int32) &&& 31).toUInt32).toInt32) &&& (3 : Int32))), .val (.ref b75), .val (.int (0 : Int32))] [(.int (0 : Int32)), (.int (0 : Int32))])) _
                  refine XS.icmpYes X125.here hx rfl (pc0 := 160) (pc' := 165) rfl (hb hby at_160) rfl (teq (rfl : (0 : Int32) = (0 : Int32))).1 (by decide) (by decide) ?_
                  show Steps p.tables e below (T125.setTop (mkF m 165 #[.val (.int k0), .val (.int k1), .val (.int k2), .val (.int k3), .val (.int k4), .val (.ref b64), .val (.int k2), .val (.int k3), .val (.ref b75), .val (.int (((k4.toUInt32 >>> ((2 : Int32) &&& 31).toUInt32).toInt32) &&& (3 : Int32))), .val (.ref b75), .val (.int (0 : Int32))] [])) _
                  refine XS.iconst X125.here hx rfl (hb hby at_165) ?_
                  show Steps p.tables e below (T125.setTop (mkF m 166 #[.val (.int k0), .val (.int k1), .val (.int k2), .val (.int k3), .val (.int k4), .val (.ref b64), .val (.int k2), .val (.int k3), .val (.ref b75), .val (.int (((k4.toUInt32 >>> ((2 : Int32) &&& 31).toUInt32).toInt32) &&& (3 : Int32))), .val (.ref b75), .val (.int (0 : Int32))] [(.int (1 : Int32))])) _
                  exact k_)
                obtain ⟨fs, hr, hrun, hended, hW, hsame⟩ := X125.leave (v := some (.int (1 : Int32))) (fun h => by rw [Bd.returns] at h; cases h)
                refine ⟨_, _, pre126 _ ?_, hrun, hended, _, _, rfl, ?_, ⟨_, rfl⟩, hW, hsame.mono (by decide) (by decide)⟩
                · show Steps p.tables e below (T125.setTop (mkF m 166 #[.val (.int k0), .val (.int k1), .val (.int k2), .val (.int k3), .val (.int k4), .val (.ref b64), .val (.int k2), .val (.int k3), .val (.ref b75), .val (.int (((k4.toUInt32 >>> ((2 : Int32) &&& 31).toUInt32).toInt32) &&& (3 : Int32))), .val (.ref b75), .val (.int (0 : Int32))] [(.int (1 : Int32))])) _
                  exact retN X125 hx (t := .boolean) Bd.returns (by simp) (hb hby at_166) hr
                · show Q_0 Z k0 k1 k2 k3 k4 w_cache cl_cache bx h0 n0 _ T125.heap _
                  rw [e125]
                  exact ⟨rfl, N125⟩
              · have pre127 : ∀ t_, Steps p.tables e below (T122.setTop (mkF m 166 #[.val (.int k0), .val (.int k1), .val (.int k2), .val (.int k3), .val (.int k4), .val (.ref b64), .val (.int k2), .val (.int k3), .val (.ref b75), .val (.int (((k4.toUInt32 >>> ((2 : Int32) &&& 31).toUInt32).toInt32) &&& (3 : Int32))), .val (.ref b75), .val (.int (0 : Int32))] [(.int (1 : Int32))])) t_ → Steps p.tables e below (s₁.setTop (entryFrame m #[(.int k0), (.int k1), (.int k2), (.int k3), (.int k4)] maxLocals)) t_ := fun t_ k_ => pre123 t_ (by
                  show Steps p.tables e below (T122.setTop (mkF m 148 #[.val (.int k0), .val (.int k1), .val (.int k2), .val (.int k3), .val (.int k4), .val (.ref b64), .val (.int k2), .val (.int k3), .val (.ref b75), .val (.int (((k4.toUInt32 >>> ((2 : Int32) &&& 31).toUInt32).toInt32) &&& (3 : Int32))), .val (.ref b75), .val (.int (0 : Int32))] [(.int (((k4.toUInt32 >>> ((2 : Int32) &&& 31).toUInt32).toInt32) &&& (3 : Int32)))])) _
                  refine XS.ifYes X122.here hx rfl (pc0 := 148) (pc' := 165) rfl (hb hby at_148) rfl ((if0 _ _).trans (feq hc148_124).2) (by decide) (by decide) ?_
                  show Steps p.tables e below (T122.setTop (mkF m 165 #[.val (.int k0), .val (.int k1), .val (.int k2), .val (.int k3), .val (.int k4), .val (.ref b64), .val (.int k2), .val (.int k3), .val (.ref b75), .val (.int (((k4.toUInt32 >>> ((2 : Int32) &&& 31).toUInt32).toInt32) &&& (3 : Int32))), .val (.ref b75), .val (.int (0 : Int32))] [])) _
                  refine XS.iconst X122.here hx rfl (hb hby at_165) ?_
                  show Steps p.tables e below (T122.setTop (mkF m 166 #[.val (.int k0), .val (.int k1), .val (.int k2), .val (.int k3), .val (.int k4), .val (.ref b64), .val (.int k2), .val (.int k3), .val (.ref b75), .val (.int (((k4.toUInt32 >>> ((2 : Int32) &&& 31).toUInt32).toInt32) &&& (3 : Int32))), .val (.ref b75), .val (.int (0 : Int32))] [(.int (1 : Int32))])) _
                  exact k_)
                obtain ⟨fs, hr, hrun, hended, hW, hsame⟩ := X122.leave (v := some (.int (1 : Int32))) (fun h => by rw [Bd.returns] at h; cases h)
                refine ⟨_, _, pre127 _ ?_, hrun, hended, _, _, rfl, ?_, ⟨_, rfl⟩, hW, hsame.mono (by decide) (by decide)⟩
                · show Steps p.tables e below (T122.setTop (mkF m 166 #[.val (.int k0), .val (.int k1), .val (.int k2), .val (.int k3), .val (.int k4), .val (.ref b64), .val (.int k2), .val (.int k3), .val (.ref b75), .val (.int (((k4.toUInt32 >>> ((2 : Int32) &&& 31).toUInt32).toInt32) &&& (3 : Int32))), .val (.ref b75), .val (.int (0 : Int32))] [(.int (1 : Int32))])) _
                  exact retN X122 hx (t := .boolean) Bd.returns (by simp) (hb hby at_166) hr
                · show Q_0 Z k0 k1 k2 k3 k4 w_cache cl_cache bx h0 n0 _ T122.heap _
                  rw [e122]
                  exact ⟨rfl, N122⟩
    · obtain ⟨T128, h128, X128, e128, E128, A128, D128, -, st128⟩ := newO X68 hx hZ hown (hw _ (List.mem_of_getElem? (i := 0) rfl)) (hw _ (List.mem_of_getElem? (i := 1) rfl)) (hw _ (List.mem_of_getElem? (i := 2) rfl)) rfl (g := (mkF m 39 #[.val (.int k0), .val (.int k1), .val (.int k2), .val (.int k3), .val (.int k4), .val (.ref b64), .val (.int k2), .val (.int k1), .unset, .unset, .unset, .unset] [])) rfl (hb hby at_39) (by decide) (by decide)
      obtain ⟨b128, g128⟩ : ∃ z, z = T68.heap.size := ⟨_, rfl⟩
      rw [← g128] at A128 D128 st128
      have ne_b64_b128 : b64 ≠ b128 := Nat.ne_of_lt (Nat.lt_of_lt_of_le E68x.lt (Nat.le_of_eq g128.symm))
      have gg_b128 : n0 ≤ b128 := Nat.le_trans Zs69 (Nat.le_of_eq g128.symm)
      have sz_b128 : h0.size ≤ b128 := Nat.le_trans O69.1 (Nat.le_of_eq g128.symm)
      have O129 := own_ext_trans O69 E128
      have Zs129 := Nat.le_trans Zs69 (E128).1
      have c130 : Exa Z h128 b64 "com/example/fissure/fissure/games/breakable/Cube" := E68x.ext E128
      have c131 : Fld Z h128 b64 "com/example/fissure/fissure/games/breakable/Cube" "x" "I" (.int k0) := F68_x.ext E128
      have c132 : Fld Z h128 b64 "com/example/fissure/fissure/games/breakable/Cube" "z" "I" (.int k1) := F68_z.ext E128
      have F128_x : Fld Z h128 b128 "com/example/fissure/fissure/games/breakable/Cube" "x" "I" (.int (0 : Int32)) := D128 (Or.inr (hw _ (List.mem_of_getElem? (i := 10) rfl))) (ty := .int) (by decide)
      have F128_y : Fld Z h128 b128 "com/example/fissure/fissure/games/breakable/Cube" "y" "I" (.int (0 : Int32)) := D128 (Or.inr (hw _ (List.mem_of_getElem? (i := 12) rfl))) (ty := .int) (by decide)
      have F128_z : Fld Z h128 b128 "com/example/fissure/fissure/games/breakable/Cube" "z" "I" (.int (0 : Int32)) := D128 (Or.inr (hw _ (List.mem_of_getElem? (i := 14) rfl))) (ty := .int) (by decide)
      obtain ⟨v133, _, ⟨T133, L133, k133, n133⟩, -, X133, ⟨Lc133, hQ133, l133, y133, z133⟩, st133⟩ := X128.specialBack hx (y := (⟨"com/example/fissure/fissure/games/breakable/Cube", "<init>", "(II)V"⟩ : MethodName)) rfl hown (mvT hZ (hw _ (List.mem_of_getElem? (i := 3) rfl))) (mvT hZ (hw _ (List.mem_of_getElem? (i := 4) rfl))) (mvT hZ (hw _ (List.mem_of_getElem? (i := 5) rfl))) (by decide) (backOf (W := 1) (rm_init l Z a0 hw [] b128 k2 k1 (.int (0 : Int32)) (.int (0 : Int32)) (.int (0 : Int32)) h128 n0 Zs129 A128 gg_b128 F128_x F128_y F128_z) hZ (hw _ (List.mem_of_getElem? (i := 5) rfl)) (hw _ (List.mem_of_getElem? (i := 2) rfl)) (by decide) (by decide)) (g := (mkF m 47 #[.val (.int k0), .val (.int k1), .val (.int k2), .val (.int k3), .val (.int k4), .val (.ref b64), .val (.int k2), .val (.int k1), .unset, .unset, .unset, .unset] [(.int k1), (.int k2), (.ref b128), (.ref b128)])) rfl (by rw [hml]; rfl) (Steps.refl _) (a := b128) (argsL := [(.int k2), (.int k1)]) (rest := [(.ref b128)]) (lenOf pd_2 rfl) rfl (by show 2 * 0 + _ ≤ _; exact Nat.le_of_eq rfl) (hb hby at_47) (fun _ _ => ⟨rfl, e128, (by decide : 2 + 0 ≤ _), (by decide : 6 + 0 ≤ _)⟩)
      dsimp only [Pt.U, Pt.locs, Pt.cells, Pt.slots] at X133 l133 y133 z133 st133 hQ133
      subst l133 y133 z133
      obtain ⟨hv133, N133q, M133⟩ := hQ133
      have N133 := Fr.app N68 N133q
      subst hv133
      obtain ⟨K133k, E133x, F133_x, F133_z⟩ := M133
      have O134 := own_ext_keep O129 K133k (allS sz_b128 all0)
      have Zs134 := Nat.le_trans Zs129 K133k.1
      have c135 : Exa Z T133.heap b64 "com/example/fissure/fissure/games/breakable/Cube" := c130.keep K133k
      have c136 : Fld Z T133.heap b64 "com/example/fissure/fissure/games/breakable/Cube" "x" "I" (.int k0) := c131.keep K133k (ninS ne_b64_b128 nin0)
      have c137 : Fld Z T133.heap b64 "com/example/fissure/fissure/games/breakable/Cube" "z" "I" (.int k1) := c132.keep K133k (ninS ne_b64_b128 nin0)
      have c138 : Exa Z T133.heap b128 "com/example/fissure/fissure/games/breakable/Cube" := A128.keep K133k
      have pre139 : ∀ t_, Steps p.tables e below (T133.setTop (mkF m 63 #[.val (.int k0), .val (.int k1), .val (.int k2), .val (.int k3), .val (.int k4), .val (.ref b64), .val (.int k2), .val (.int k1), .val (.ref b128), .val (.int (((k4.toUInt32 >>> ((2 : Int32) &&& 31).toUInt32).toInt32) &&& (3 : Int32))), .unset, .unset] [(.int (1 : Int32)), (.int (((k4.toUInt32 >>> ((2 : Int32) &&& 31).toUInt32).toInt32) &&& (3 : Int32)))])) t_ → Steps p.tables e below (s₁.setTop (entryFrame m #[(.int k0), (.int k1), (.int k2), (.int k3), (.int k4)] maxLocals)) t_ := fun t_ k_ => pre73 t_ (by
        show Steps p.tables e below (T68.setTop (mkF m 29 #[.val (.int k0), .val (.int k1), .val (.int k2), .val (.int k3), .val (.int k4), .val (.ref b64), .val (.int k2), .unset, .unset, .unset, .unset, .unset] [(.int (k4 &&& (2 : Int32)))])) _
        refine XS.ifNo X68.here hx rfl (hb hby at_29) rfl ((if0 _ _).trans (feq hc29_74).1) ?_
        show Steps p.tables e below (T68.setTop (mkF m 32 #[.val (.int k0), .val (.int k1), .val (.int k2), .val (.int k3), .val (.int k4), .val (.ref b64), .val (.int k2), .unset, .unset, .unset, .unset, .unset] [])) _
        refine XS.iloadN X68.here hx rfl (hb hby at_32) rfl ?_
        show Steps p.tables e below (T68.setTop (mkF m 33 #[.val (.int k0), .val (.int k1), .val (.int k2), .val (.int k3), .val (.int k4), .val (.ref b64), .val (.int k2), .unset, .unset, .unset, .unset, .unset] [(.int k1)])) _
        refine XS.goto X68.here hx rfl (pc0 := 33) (pc' := 37) rfl (hb hby at_33) (by decide) (by decide) ?_
        show Steps p.tables e below (T68.setTop (mkF m 37 #[.val (.int k0), .val (.int k1), .val (.int k2), .val (.int k3), .val (.int k4), .val (.ref b64), .val (.int k2), .unset, .unset, .unset, .unset, .unset] [(.int k1)])) _
        refine XS.istore X68.here hx rfl (hb hby at_37) rfl (l' := #[.val (.int k0), .val (.int k1), .val (.int k2), .val (.int k3), .val (.int k4), .val (.ref b64), .val (.int k2), .val (.int k1), .unset, .unset, .unset, .unset]) rfl ?_
        show Steps p.tables e below (T68.setTop (mkF m 39 #[.val (.int k0), .val (.int k1), .val (.int k2), .val (.int k3), .val (.int k4), .val (.ref b64), .val (.int k2), .val (.int k1), .unset, .unset, .unset, .unset] [])) _
        refine st128 _ ?_
        show Steps p.tables e below (T128.setTop (mkF m 42 #[.val (.int k0), .val (.int k1), .val (.int k2), .val (.int k3), .val (.int k4), .val (.ref b64), .val (.int k2), .val (.int k1), .unset, .unset, .unset, .unset] [(.ref b128)])) _
        refine XS.dup X128.here hx rfl (hb hby at_42) rfl rfl ?_
        show Steps p.tables e below (T128.setTop (mkF m 43 #[.val (.int k0), .val (.int k1), .val (.int k2), .val (.int k3), .val (.int k4), .val (.ref b64), .val (.int k2), .val (.int k1), .unset, .unset, .unset, .unset] [(.ref b128), (.ref b128)])) _
        refine XS.iload X128.here hx rfl (hb hby at_43) rfl ?_
        show Steps p.tables e below (T128.setTop (mkF m 45 #[.val (.int k0), .val (.int k1), .val (.int k2), .val (.int k3), .val (.int k4), .val (.ref b64), .val (.int k2), .val (.int k1), .unset, .unset, .unset, .unset] [(.int k2), (.ref b128), (.ref b128)])) _
        refine XS.iload X128.here hx rfl (hb hby at_45) rfl ?_
        show Steps p.tables e below (T128.setTop (mkF m 47 #[.val (.int k0), .val (.int k1), .val (.int k2), .val (.int k3), .val (.int k4), .val (.ref b64), .val (.int k2), .val (.int k1), .unset, .unset, .unset, .unset] [(.int k1), (.int k2), (.ref b128), (.ref b128)])) _
        refine st133.trans ?_
        show Steps p.tables e below (T133.setTop (mkF m 50 #[.val (.int k0), .val (.int k1), .val (.int k2), .val (.int k3), .val (.int k4), .val (.ref b64), .val (.int k2), .val (.int k1), .unset, .unset, .unset, .unset] [(.ref b128)])) _
        refine XS.astore X133.here hx rfl (hb hby at_50) rfl rfl (l' := #[.val (.int k0), .val (.int k1), .val (.int k2), .val (.int k3), .val (.int k4), .val (.ref b64), .val (.int k2), .val (.int k1), .val (.ref b128), .unset, .unset, .unset]) rfl ?_
        show Steps p.tables e below (T133.setTop (mkF m 52 #[.val (.int k0), .val (.int k1), .val (.int k2), .val (.int k3), .val (.int k4), .val (.ref b64), .val (.int k2), .val (.int k1), .val (.ref b128), .unset, .unset, .unset] [])) _
        refine XS.iload X133.here hx rfl (hb hby at_52) rfl ?_
        show Steps p.tables e below (T133.setTop (mkF m 54 #[.val (.int k0), .val (.int k1), .val (.int k2), .val (.int k3), .val (.int k4), .val (.ref b64), .val (.int k2), .val (.int k1), .val (.ref b128), .unset, .unset, .unset] [(.int k4)])) _
        refine XS.iconst X133.here hx rfl (hb hby at_54) ?_
        show Steps p.tables e below (T133.setTop (mkF m 55 #[.val (.int k0), .val (.int k1), .val (.int k2), .val (.int k3), .val (.int k4), .val (.ref b64), .val (.int k2), .val (.int k1), .val (.ref b128), .unset, .unset, .unset] [(.int (2 : Int32)), (.int k4)])) _
        refine XS.iushr X133.here hx rfl (hb hby at_55) rfl ?_
        show Steps p.tables e below (T133.setTop (mkF m 56 #[.val (.int k0), .val (.int k1), .val (.int k2), .val (.int k3), .val (.int k4), .val (.ref b64), .val (.int k2), .val (.int k1), .val (.ref b128), .unset, .unset, .unset] [(.int ((k4.toUInt32 >>> ((2 : Int32) &&& 31).toUInt32).toInt32))])) _
        refine XS.iconst X133.here hx rfl (hb hby at_56) ?_
        show Steps p.tables e below (T133.setTop (mkF m 57 #[.val (.int k0), .val (.int k1), .val (.int k2), .val (.int k3), .val (.int k4), .val (.ref b64), .val (.int k2), .val (.int k1), .val (.ref b128), .unset, .unset, .unset] [(.int (3 : Int32)), (.int ((k4.toUInt32 >>> ((2 : Int32) &&& 31).toUInt32).toInt32))])) _
        refine XS.iand X133.here hx rfl (hb hby at_57) rfl ?_
        show Steps p.tables e below (T133.setTop (mkF m 58 #[.val (.int k0), .val (.int k1), .val (.int k2), .val (.int k3), .val (.int k4), .val (.ref b64), .val (.int k2), .val (.int k1), .val (.ref b128), .unset, .unset, .unset] [(.int (((k4.toUInt32 >>> ((2 : Int32) &&& 31).toUInt32).toInt32) &&& (3 : Int32)))])) _
        refine XS.istore X133.here hx rfl (hb hby at_58) rfl (l' := #[.val (.int k0), .val (.int k1), .val (.int k2), .val (.int k3), .val (.int k4), .val (.ref b64), .val (.int k2), .val (.int k1), .val (.ref b128), .val (.int (((k4.toUInt32 >>> ((2 : Int32) &&& 31).toUInt32).toInt32) &&& (3 : Int32))), .unset, .unset]) rfl ?_
        show Steps p.tables e below (T133.setTop (mkF m 60 #[.val (.int k0), .val (.int k1), .val (.int k2), .val (.int k3), .val (.int k4), .val (.ref b64), .val (.int k2), .val (.int k1), .val (.ref b128), .val (.int (((k4.toUInt32 >>> ((2 : Int32) &&& 31).toUInt32).toInt32) &&& (3 : Int32))), .unset, .unset] [])) _
        refine XS.iload X133.here hx rfl (hb hby at_60) rfl ?_
        show Steps p.tables e below (T133.setTop (mkF m 62 #[.val (.int k0), .val (.int k1), .val (.int k2), .val (.int k3), .val (.int k4), .val (.ref b64), .val (.int k2), .val (.int k1), .val (.ref b128), .val (.int (((k4.toUInt32 >>> ((2 : Int32) &&& 31).toUInt32).toInt32) &&& (3 : Int32))), .unset, .unset] [(.int (((k4.toUInt32 >>> ((2 : Int32) &&& 31).toUInt32).toInt32) &&& (3 : Int32)))])) _
        refine XS.iconst X133.here hx rfl (hb hby at_62) ?_
        show Steps p.tables e below (T133.setTop (mkF m 63 #[.val (.int k0), .val (.int k1), .val (.int k2), .val (.int k3), .val (.int k4), .val (.ref b64), .val (.int k2), .val (.int k1), .val (.ref b128), .val (.int (((k4.toUInt32 >>> ((2 : Int32) &&& 31).toUInt32).toInt32) &&& (3 : Int32))), .unset, .unset] [(.int (1 : Int32)), (.int (((k4.toUInt32 >>> ((2 : Int32) &&& 31).toUInt32).toInt32) &&& (3 : Int32)))])) _
        exact k_)
      by_cases hc63_140 : (((k4.toUInt32 >>> ((2 : Int32) &&& 31).toUInt32).toInt32) &&& (3 : Int32)) = (1 : Int32)
      · obtain ⟨cq141, kq141, q141a, q141b, q141c⟩ := isOf hZ rfl c135
        obtain ⟨v141, _, ⟨T141, L141, k141, n141⟩, -, X141, ⟨Lc141, hQ141, l141, y141, z141⟩, st141⟩ := X133.virtualBack hx (y := (⟨"com/example/fissure/fissure/games/breakable/Cube", "equals", "(Ljava/lang/Object;)Z"⟩ : MethodName)) (z := (⟨"com/example/fissure/fissure/games/breakable/Cube", "equals", "(Ljava/lang/Object;)Z"⟩ : MethodName)) hown (mvT hZ (hw _ (List.mem_of_getElem? (i := 15) rfl))) (mvT hZ (hw _ (List.mem_of_getElem? (i := 16) rfl))) (notFace_of_selects (args := #[]) (mvT hZ (hw _ (List.mem_of_getElem? (i := 18) rfl)))) (mvT hZ (hw _ (List.mem_of_getElem? (i := 18) rfl))) (mvT hZ (hw _ (List.mem_of_getElem? (i := 17) rfl))) (by decide) (backOf (W := 0) (rm_eqN l Z a0 hw [] b64 T133.heap n0 Zs134 ) hZ (hw _ (List.mem_of_getElem? (i := 19) rfl)) (hw _ (List.mem_of_getElem? (i := 2) rfl)) (by decide) (by decide)) q141a q141c (g := (mkF m 136 #[.val (.int k0), .val (.int k1), .val (.int k2), .val (.int k3), .val (.int k4), .val (.ref b64), .val (.int k2), .val (.int k1), .val (.ref b128), .val (.int (((k4.toUInt32 >>> ((2 : Int32) &&& 31).toUInt32).toInt32) &&& (3 : Int32))), .val .null, .val (.int (0 : Int32))] [.null, (.ref b64)])) rfl (by rw [hml]; rfl) (Steps.refl _) (argsL := [.null]) (rest := []) (lenOf pd_3 rfl) rfl (by show 2 * 0 + _ ≤ _; exact Nat.le_of_eq rfl) (hb hby at_136) (fun _ _ => ⟨rfl, rfl, (by decide : 2 + 0 ≤ _), (by decide : 6 + 0 ≤ _)⟩)
        dsimp only [Pt.U, Pt.locs, Pt.cells, Pt.slots] at X141 l141 y141 z141 st141 hQ141
        subst l141 y141 z141
        obtain ⟨hv141, N141q, e141⟩ := hQ141
        have N141 := Fr.app N133 N141q
        subst hv141
        have pre142 : ∀ t_, Steps p.tables e below (T141.setTop (mkF m 166 #[.val (.int k0), .val (.int k1), .val (.int k2), .val (.int k3), .val (.int k4), .val (.ref b64), .val (.int k2), .val (.int k1), .val (.ref b128), .val (.int (((k4.toUInt32 >>> ((2 : Int32) &&& 31).toUInt32).toInt32) &&& (3 : Int32))), .val .null, .val (.int (0 : Int32))] [(.int (1 : Int32))])) t_ → Steps p.tables e below (s₁.setTop (entryFrame m #[(.int k0), (.int k1), (.int k2), (.int k3), (.int k4)] maxLocals)) t_ := fun t_ k_ => pre139 t_ (by
          show Steps p.tables e below (T133.setTop (mkF m 63 #[.val (.int k0), .val (.int k1), .val (.int k2), .val (.int k3), .val (.int k4), .val (.ref b64), .val (.int k2), .val (.int k1), .val (.ref b128), .val (.int (((k4.toUInt32 >>> ((2 : Int32) &&& 31).toUInt32).toInt32) &&& (3 : Int32))), .unset, .unset] [(.int (1 : Int32)), (.int (((k4.toUInt32 >>> ((2 : Int32) &&& 31).toUInt32).toInt32) &&& (3 : Int32)))])) _
          refine XS.icmpNo X133.here hx rfl (hb hby at_63) rfl (teq hc63_140).2 ?_
          show Steps p.tables e below (T133.setTop (mkF m 66 #[.val (.int k0), .val (.int k1), .val (.int k2), .val (.int k3), .val (.int k4), .val (.ref b64), .val (.int k2), .val (.int k1), .val (.ref b128), .val (.int (((k4.toUInt32 >>> ((2 : Int32) &&& 31).toUInt32).toInt32) &&& (3 : Int32))), .unset, .unset] [])) _
          refine XS.aconstNull X133.here hx rfl (hb hby at_66) ?_
          show Steps p.tables e below (T133.setTop (mkF m 67 #[.val (.int k0), .val (.int k1), .val (.int k2), .val (.int k3), .val (.int k4), .val (.ref b64), .val (.int k2), .val (.int k1), .val (.ref b128), .val (.int (((k4.toUInt32 >>> ((2 : Int32) &&& 31).toUInt32).toInt32) &&& (3 : Int32))), .unset, .unset] [.null])) _
          refine XS.astore X133.here hx rfl (hb hby at_67) rfl rfl (l' := #[.val (.int k0), .val (.int k1), .val (.int k2), .val (.int k3), .val (.int k4), .val (.ref b64), .val (.int k2), .val (.int k1), .val (.ref b128), .val (.int (((k4.toUInt32 >>> ((2 : Int32) &&& 31).toUInt32).toInt32) &&& (3 : Int32))), .val .null, .unset]) rfl ?_
          show Steps p.tables e below (T133.setTop (mkF m 69 #[.val (.int k0), .val (.int k1), .val (.int k2), .val (.int k3), .val (.int k4), .val (.ref b64), .val (.int k2), .val (.int k1), .val (.ref b128), .val (.int (((k4.toUInt32 >>> ((2 : Int32) &&& 31).toUInt32).toInt32) &&& (3 : Int32))), .val .null, .unset] [])) _
          refine XS.iconst X133.here hx rfl (hb hby at_69) ?_
          show Steps p.tables e below (T133.setTop (mkF m 70 #[.val (.int k0), .val (.int k1), .val (.int k2), .val (.int k3), .val (.int k4), .val (.ref b64), .val (.int k2), .val (.int k1), .val (.ref b128), .val (.int (((k4.toUInt32 >>> ((2 : Int32) &&& 31).toUInt32).toInt32) &&& (3 : Int32))), .val .null, .unset] [(.int (0 : Int32))])) _
          refine XS.istore X133.here hx rfl (hb hby at_70) rfl (l' := #[.val (.int k0), .val (.int k1), .val (.int k2), .val (.int k3), .val (.int k4), .val (.ref b64), .val (.int k2), .val (.int k1), .val (.ref b128), .val (.int (((k4.toUInt32 >>> ((2 : Int32) &&& 31).toUInt32).toInt32) &&& (3 : Int32))), .val .null, .val (.int (0 : Int32))]) rfl ?_
          show Steps p.tables e below (T133.setTop (mkF m 72 #[.val (.int k0), .val (.int k1), .val (.int k2), .val (.int k3), .val (.int k4), .val (.ref b64), .val (.int k2), .val (.int k1), .val (.ref b128), .val (.int (((k4.toUInt32 >>> ((2 : Int32) &&& 31).toUInt32).toInt32) &&& (3 : Int32))), .val .null, .val (.int (0 : Int32))] [])) _
          refine XS.goto X133.here hx rfl (pc0 := 72) (pc' := 132) rfl (hb hby at_72) (by decide) (by decide) ?_
          show Steps p.tables e below (T133.setTop (mkF m 132 #[.val (.int k0), .val (.int k1), .val (.int k2), .val (.int k3), .val (.int k4), .val (.ref b64), .val (.int k2), .val (.int k1), .val (.ref b128), .val (.int (((k4.toUInt32 >>> ((2 : Int32) &&& 31).toUInt32).toInt32) &&& (3 : Int32))), .val .null, .val (.int (0 : Int32))] [])) _
          refine XS.aload X133.here hx rfl (hb hby at_132) rfl rfl ?_
          show Steps p.tables e below (T133.setTop (mkF m 134 #[.val (.int k0), .val (.int k1), .val (.int k2), .val (.int k3), .val (.int k4), .val (.ref b64), .val (.int k2), .val (.int k1), .val (.ref b128), .val (.int (((k4.toUInt32 >>> ((2 : Int32) &&& 31).toUInt32).toInt32) &&& (3 : Int32))), .val .null, .val (.int (0 : Int32))] [(.ref b64)])) _
          refine XS.aload X133.here hx rfl (hb hby at_134) rfl rfl ?_
          show Steps p.tables e below (T133.setTop (mkF m 136 #[.val (.int k0), .val (.int k1), .val (.int k2), .val (.int k3), .val (.int k4), .val (.ref b64), .val (.int k2), .val (.int k1), .val (.ref b128), .val (.int (((k4.toUInt32 >>> ((2 : Int32) &&& 31).toUInt32).toInt32) &&& (3 : Int32))), .val .null, .val (.int (0 : Int32))] [.null, (.ref b64)])) _
          refine st141.trans ?_
          show Steps p.tables e below (T141.setTop (mkF m 139 #[.val (.int k0), .val (.int k1), .val (.int k2), .val (.int k3), .val (.int k4), .val (.ref b64), .val (.int k2), .val (.int k1), .val (.ref b128), .val (.int (((k4.toUInt32 >>> ((2 : Int32) &&& 31).toUInt32).toInt32) &&& (3 : Int32))), .val .null, .val (.int (0 : Int32))] [(.int (0 : Int32))])) _
          refine XS.iload X141.here hx rfl (hb hby at_139) rfl ?_
          show Steps p.tables e below (T141.setTop (mkF m 141 #[.val (.int k0), .val (.int k1), .val (.int k2), .val (.int k3), .val (.int k4), .val (.ref b64), .val (.int k2), .val (.int k1), .val (.ref b128), .val (.int (((k4.toUInt32 >>> ((2 : Int32) &&& 31).toUInt32).toInt32) &&& (3 : Int32))), .val .null, .val (.int (0 : Int32))] [(.int (0 : Int32)), (.int (0 : Int32))])) _
          refine XS.icmpYes X141.here hx rfl (pc0 := 141) (pc' := 146) rfl (hb hby at_141) rfl (teq (rfl : (0 : Int32) = (0 : Int32))).1 (by decide) (by decide) ?_
          show Steps p.tables e below (T141.setTop (mkF m 146 #[.val (.int k0), .val (.int k1), .val (.int k2), .val (.int k3), .val (.int k4), .val (.ref b64), .val (.int k2), .val (.int k1), .val (.ref b128), .val (.int (((k4.toUInt32 >>> ((2 : Int32) &&& 31).toUInt32).toInt32) &&& (3 : Int32))), .val .null, .val (.int (0 : Int32))] [])) _
          refine XS.iload X141.here hx rfl (hb hby at_146) rfl ?_
          show Steps p.tables e below (T141.setTop (mkF m 148 #[.val (.int k0), .val (.int k1), .val (.int k2), .val (.int k3), .val (.int k4), .val (.ref b64), .val (.int k2), .val (.int k1), .val (.ref b128), .val (.int (((k4.toUInt32 >>> ((2 : Int32) &&& 31).toUInt32).toInt32) &&& (3 : Int32))), .val .null, .val (.int (0 : Int32))] [(.int (((k4.toUInt32 >>> ((2 : Int32) &&& 31).toUInt32).toInt32) &&& (3 : Int32)))])) _
          refine XS.ifYes X141.here hx rfl (pc0 := 148) (pc' := 165) rfl (hb hby at_148) rfl ((if0 _ _).trans (feq (fun q_ => absurd (hc63_140.symm.trans q_) (by decide))).2) (by decide) (by decide) ?_
          show Steps p.tables e below (T141.setTop (mkF m 165 #[.val (.int k0), .val (.int k1), .val (.int k2), .val (.int k3), .val (.int k4), .val (.ref b64), .val (.int k2), .val (.int k1), .val (.ref b128), .val (.int (((k4.toUInt32 >>> ((2 : Int32) &&& 31).toUInt32).toInt32) &&& (3 : Int32))), .val .null, .val (.int (0 : Int32))] [])) _
          refine XS.iconst X141.here hx rfl (hb hby at_165) ?_
          show Steps p.tables e below (T141.setTop (mkF m 166 #[.val (.int k0), .val (.int k1), .val (.int k2), .val (.int k3), .val (.int k4), .val (.ref b64), .val (.int k2), .val (.int k1), .val (.ref b128), .val (.int (((k4.toUInt32 >>> ((2 : Int32) &&& 31).toUInt32).toInt32) &&& (3 : Int32))), .val .null, .val (.int (0 : Int32))] [(.int (1 : Int32))])) _
          exact k_)
        obtain ⟨fs, hr, hrun, hended, hW, hsame⟩ := X141.leave (v := some (.int (1 : Int32))) (fun h => by rw [Bd.returns] at h; cases h)
        refine ⟨_, _, pre142 _ ?_, hrun, hended, _, _, rfl, ?_, ⟨_, rfl⟩, hW, hsame.mono (by decide) (by decide)⟩
        · show Steps p.tables e below (T141.setTop (mkF m 166 #[.val (.int k0), .val (.int k1), .val (.int k2), .val (.int k3), .val (.int k4), .val (.ref b64), .val (.int k2), .val (.int k1), .val (.ref b128), .val (.int (((k4.toUInt32 >>> ((2 : Int32) &&& 31).toUInt32).toInt32) &&& (3 : Int32))), .val .null, .val (.int (0 : Int32))] [(.int (1 : Int32))])) _
          exact retN X141 hx (t := .boolean) Bd.returns (by simp) (hb hby at_166) hr
        · show Q_0 Z k0 k1 k2 k3 k4 w_cache cl_cache bx h0 n0 _ T141.heap _
          rw [e141]
          exact ⟨rfl, N141⟩
      · have pre143 : ∀ t_, Steps p.tables e below (T133.setTop (mkF m 78 #[.val (.int k0), .val (.int k1), .val (.int k2), .val (.int k3), .val (.int k4), .val (.ref b64), .val (.int k2), .val (.int k1), .val (.ref b128), .val (.int (((k4.toUInt32 >>> ((2 : Int32) &&& 31).toUInt32).toInt32) &&& (3 : Int32))), .unset, .unset] [(.int (2 : Int32)), (.int (((k4.toUInt32 >>> ((2 : Int32) &&& 31).toUInt32).toInt32) &&& (3 : Int32)))])) t_ → Steps p.tables e below (s₁.setTop (entryFrame m #[(.int k0), (.int k1), (.int k2), (.int k3), (.int k4)] maxLocals)) t_ := fun t_ k_ => pre139 t_ (by
          show Steps p.tables e below (T133.setTop (mkF m 63 #[.val (.int k0), .val (.int k1), .val (.int k2), .val (.int k3), .val (.int k4), .val (.ref b64), .val (.int k2), .val (.int k1), .val (.ref b128), .val (.int (((k4.toUInt32 >>> ((2 : Int32) &&& 31).toUInt32).toInt32) &&& (3 : Int32))), .unset, .unset] [(.int (1 : Int32)), (.int (((k4.toUInt32 >>> ((2 : Int32) &&& 31).toUInt32).toInt32) &&& (3 : Int32)))])) _
          refine XS.icmpYes X133.here hx rfl (pc0 := 63) (pc' := 75) rfl (hb hby at_63) rfl (feq hc63_140).2 (by decide) (by decide) ?_
          show Steps p.tables e below (T133.setTop (mkF m 75 #[.val (.int k0), .val (.int k1), .val (.int k2), .val (.int k3), .val (.int k4), .val (.ref b64), .val (.int k2), .val (.int k1), .val (.ref b128), .val (.int (((k4.toUInt32 >>> ((2 : Int32) &&& 31).toUInt32).toInt32) &&& (3 : Int32))), .unset, .unset] [])) _
          refine XS.iload X133.here hx rfl (hb hby at_75) rfl ?_
          show Steps p.tables e below (T133.setTop (mkF m 77 #[.val (.int k0), .val (.int k1), .val (.int k2), .val (.int k3), .val (.int k4), .val (.ref b64), .val (.int k2), .val (.int k1), .val (.ref b128), .val (.int (((k4.toUInt32 >>> ((2 : Int32) &&& 31).toUInt32).toInt32) &&& (3 : Int32))), .unset, .unset] [(.int (((k4.toUInt32 >>> ((2 : Int32) &&& 31).toUInt32).toInt32) &&& (3 : Int32)))])) _
          refine XS.iconst X133.here hx rfl (hb hby at_77) ?_
          show Steps p.tables e below (T133.setTop (mkF m 78 #[.val (.int k0), .val (.int k1), .val (.int k2), .val (.int k3), .val (.int k4), .val (.ref b64), .val (.int k2), .val (.int k1), .val (.ref b128), .val (.int (((k4.toUInt32 >>> ((2 : Int32) &&& 31).toUInt32).toInt32) &&& (3 : Int32))), .unset, .unset] [(.int (2 : Int32)), (.int (((k4.toUInt32 >>> ((2 : Int32) &&& 31).toUInt32).toInt32) &&& (3 : Int32)))])) _
          exact k_)
        by_cases hc78_144 : (((k4.toUInt32 >>> ((2 : Int32) &&& 31).toUInt32).toInt32) &&& (3 : Int32)) = (2 : Int32)
        · obtain ⟨v145, _, ⟨T145, L145, k145, n145⟩, -, X145, ⟨Lc145, hQ145, l145, y145, z145⟩, st145⟩ := Jvm.LawKit.callS X133 hx (y := (⟨"java/lang/Integer", "valueOf", "(I)Ljava/lang/Integer;"⟩ : MethodName)) hown (mvT hZ (hw _ (List.mem_of_getElem? (i := 22) rfl))) (mvT hZ (hw _ (List.mem_of_getElem? (i := 23) rfl))) (mvT hZ (hw _ (List.mem_of_getElem? (i := 24) rfl))) (mvT hZ (hw _ (List.mem_of_getElem? (i := 25) rfl))) (by decide) (backOf (W := 0) (rm_valueOf l Z a0 hw [] k0 w_cache cl_cache bx T133.heap n0 Zs134 (S_high.ext O134) (S_cache.ext O134) Bx (own_ext_trans Oz O134)) hZ (hw _ (List.mem_of_getElem? (i := 25) rfl)) (hw _ (List.mem_of_getElem? (i := 24) rfl)) (by decide) (by decide)) (g := (mkF m 82 #[.val (.int k0), .val (.int k1), .val (.int k2), .val (.int k3), .val (.int k4), .val (.ref b64), .val (.int k2), .val (.int k1), .val (.ref b128), .val (.int (((k4.toUInt32 >>> ((2 : Int32) &&& 31).toUInt32).toInt32) &&& (3 : Int32))), .unset, .unset] [(.int k0)])) rfl (by rw [hml]; rfl) (argsL := [(.int k0)]) (rest := []) (lenOf pd_4 rfl) rfl (by show 2 * 0 + _ ≤ _; exact Nat.le_of_eq rfl) (hb hby at_82) (fun _ _ => ⟨rfl, rfl, (by decide : 2 + 1 ≤ _), (by decide : 6 + 1 ≤ _)⟩)
          dsimp only [Pt.U, Pt.locs, Pt.cells, Pt.slots] at X145 l145 y145 z145 st145 hQ145
          subst l145 y145 z145
          obtain ⟨⟨r145, hv145, Er145⟩, N145q, M145⟩ := hQ145
          have N145 := Fr.app N133 N145q
          subst hv145
          have O146 := own_ext_trans O134 M145
          have Zs146 := Nat.le_trans Zs134 (M145).1
          have c147 : Exa Z T145.heap b64 "com/example/fissure/fissure/games/breakable/Cube" := c135.ext M145
          have c148 : Fld Z T145.heap b64 "com/example/fissure/fissure/games/breakable/Cube" "x" "I" (.int k0) := c136.ext M145
          have c149 : Fld Z T145.heap b64 "com/example/fissure/fissure/games/breakable/Cube" "z" "I" (.int k1) := c137.ext M145
          have c150 : Exa Z T145.heap b128 "com/example/fissure/fissure/games/breakable/Cube" := E133x.ext M145
          have c151 : Fld Z T145.heap b128 "com/example/fissure/fissure/games/breakable/Cube" "x" "I" (.int k2) := F133_x.ext M145
          have c152 : Fld Z T145.heap b128 "com/example/fissure/fissure/games/breakable/Cube" "z" "I" (.int k1) := F133_z.ext M145
          obtain ⟨cq153, kq153, q153a, q153b, q153c⟩ := isOf hZ rfl c147
          obtain ⟨v153, _, ⟨T153, L153, k153, n153⟩, -, X153, ⟨Lc153, hQ153, l153, y153, z153⟩, st153⟩ := X145.virtualBack hx (y := (⟨"com/example/fissure/fissure/games/breakable/Cube", "equals", "(Ljava/lang/Object;)Z"⟩ : MethodName)) (z := (⟨"com/example/fissure/fissure/games/breakable/Cube", "equals", "(Ljava/lang/Object;)Z"⟩ : MethodName)) hown (mvT hZ (hw _ (List.mem_of_getElem? (i := 15) rfl))) (mvT hZ (hw _ (List.mem_of_getElem? (i := 16) rfl))) (notFace_of_selects (args := #[]) (mvT hZ (hw _ (List.mem_of_getElem? (i := 18) rfl)))) (mvT hZ (hw _ (List.mem_of_getElem? (i := 18) rfl))) (mvT hZ (hw _ (List.mem_of_getElem? (i := 17) rfl))) (by decide) (backOf (W := 0) (rm_eqI l Z a0 hw [] b64 r145 T145.heap n0 Zs146 Er145) hZ (hw _ (List.mem_of_getElem? (i := 19) rfl)) (hw _ (List.mem_of_getElem? (i := 2) rfl)) (by decide) (by decide)) q153a q153c (g := (mkF m 136 #[.val (.int k0), .val (.int k1), .val (.int k2), .val (.int k3), .val (.int k4), .val (.ref b64), .val (.int k2), .val (.int k1), .val (.ref b128), .val (.int (((k4.toUInt32 >>> ((2 : Int32) &&& 31).toUInt32).toInt32) &&& (3 : Int32))), .val (.ref r145), .val (.int (0 : Int32))] [(.ref r145), (.ref b64)])) rfl (by rw [hml]; rfl) (Steps.refl _) (argsL := [(.ref r145)]) (rest := []) (lenOf pd_3 rfl) rfl (by show 2 * 0 + _ ≤ _; exact Nat.le_of_eq rfl) (hb hby at_136) (fun _ _ => ⟨rfl, rfl, (by decide : 3 + 0 ≤ _), (by decide : 7 + 0 ≤ _)⟩)
          dsimp only [Pt.U, Pt.locs, Pt.cells, Pt.slots] at X153 l153 y153 z153 st153 hQ153
          subst l153 y153 z153
          obtain ⟨hv153, N153q, e153⟩ := hQ153
          have N153 := Fr.app N145 N153q
          subst hv153
          have pre154 : ∀ t_, Steps p.tables e below (T153.setTop (mkF m 166 #[.val (.int k0), .val (.int k1), .val (.int k2), .val (.int k3), .val (.int k4), .val (.ref b64), .val (.int k2), .val (.int k1), .val (.ref b128), .val (.int (((k4.toUInt32 >>> ((2 : Int32) &&& 31).toUInt32).toInt32) &&& (3 : Int32))), .val (.ref r145), .val (.int (0 : Int32))] [(.int (1 : Int32))])) t_ → Steps p.tables e below (s₁.setTop (entryFrame m #[(.int k0), (.int k1), (.int k2), (.int k3), (.int k4)] maxLocals)) t_ := fun t_ k_ => pre143 t_ (by
            show Steps p.tables e below (T133.setTop (mkF m 78 #[.val (.int k0), .val (.int k1), .val (.int k2), .val (.int k3), .val (.int k4), .val (.ref b64), .val (.int k2), .val (.int k1), .val (.ref b128), .val (.int (((k4.toUInt32 >>> ((2 : Int32) &&& 31).toUInt32).toInt32) &&& (3 : Int32))), .unset, .unset] [(.int (2 : Int32)), (.int (((k4.toUInt32 >>> ((2 : Int32) &&& 31).toUInt32).toInt32) &&& (3 : Int32)))])) _
            refine XS.icmpNo X133.here hx rfl (hb hby at_78) rfl (teq hc78_144).2 ?_
            show Steps p.tables e below (T133.setTop (mkF m 81 #[.val (.int k0), .val (.int k1), .val (.int k2), .val (.int k3), .val (.int k4), .val (.ref b64), .val (.int k2), .val (.int k1), .val (.ref b128), .val (.int (((k4.toUInt32 >>> ((2 : Int32) &&& 31).toUInt32).toInt32) &&& (3 : Int32))), .unset, .unset] [])) _
            refine XS.iloadN X133.here hx rfl (hb hby at_81) rfl ?_
            show Steps p.tables e below (T133.setTop (mkF m 82 #[.val (.int k0), .val (.int k1), .val (.int k2), .val (.int k3), .val (.int k4), .val (.ref b64), .val (.int k2), .val (.int k1), .val (.ref b128), .val (.int (((k4.toUInt32 >>> ((2 : Int32) &&& 31).toUInt32).toInt32) &&& (3 : Int32))), .unset, .unset] [(.int k0)])) _
            refine st145 _ ?_
            show Steps p.tables e below (T145.setTop (mkF m 85 #[.val (.int k0), .val (.int k1), .val (.int k2), .val (.int k3), .val (.int k4), .val (.ref b64), .val (.int k2), .val (.int k1), .val (.ref b128), .val (.int (((k4.toUInt32 >>> ((2 : Int32) &&& 31).toUInt32).toInt32) &&& (3 : Int32))), .unset, .unset] [(.ref r145)])) _
            refine XS.astore X145.here hx rfl (hb hby at_85) rfl rfl (l' := #[.val (.int k0), .val (.int k1), .val (.int k2), .val (.int k3), .val (.int k4), .val (.ref b64), .val (.int k2), .val (.int k1), .val (.ref b128), .val (.int (((k4.toUInt32 >>> ((2 : Int32) &&& 31).toUInt32).toInt32) &&& (3 : Int32))), .val (.ref r145), .unset]) rfl ?_
            show Steps p.tables e below (T145.setTop (mkF m 87 #[.val (.int k0), .val (.int k1), .val (.int k2), .val (.int k3), .val (.int k4), .val (.ref b64), .val (.int k2), .val (.int k1), .val (.ref b128), .val (.int (((k4.toUInt32 >>> ((2 : Int32) &&& 31).toUInt32).toInt32) &&& (3 : Int32))), .val (.ref r145), .unset] [])) _
            refine XS.iconst X145.here hx rfl (hb hby at_87) ?_
            show Steps p.tables e below (T145.setTop (mkF m 88 #[.val (.int k0), .val (.int k1), .val (.int k2), .val (.int k3), .val (.int k4), .val (.ref b64), .val (.int k2), .val (.int k1), .val (.ref b128), .val (.int (((k4.toUInt32 >>> ((2 : Int32) &&& 31).toUInt32).toInt32) &&& (3 : Int32))), .val (.ref r145), .unset] [(.int (0 : Int32))])) _
            refine XS.istore X145.here hx rfl (hb hby at_88) rfl (l' := #[.val (.int k0), .val (.int k1), .val (.int k2), .val (.int k3), .val (.int k4), .val (.ref b64), .val (.int k2), .val (.int k1), .val (.ref b128), .val (.int (((k4.toUInt32 >>> ((2 : Int32) &&& 31).toUInt32).toInt32) &&& (3 : Int32))), .val (.ref r145), .val (.int (0 : Int32))]) rfl ?_
            show Steps p.tables e below (T145.setTop (mkF m 90 #[.val (.int k0), .val (.int k1), .val (.int k2), .val (.int k3), .val (.int k4), .val (.ref b64), .val (.int k2), .val (.int k1), .val (.ref b128), .val (.int (((k4.toUInt32 >>> ((2 : Int32) &&& 31).toUInt32).toInt32) &&& (3 : Int32))), .val (.ref r145), .val (.int (0 : Int32))] [])) _
            refine XS.goto X145.here hx rfl (pc0 := 90) (pc' := 132) rfl (hb hby at_90) (by decide) (by decide) ?_
            show Steps p.tables e below (T145.setTop (mkF m 132 #[.val (.int k0), .val (.int k1), .val (.int k2), .val (.int k3), .val (.int k4), .val (.ref b64), .val (.int k2), .val (.int k1), .val (.ref b128), .val (.int (((k4.toUInt32 >>> ((2 : Int32) &&& 31).toUInt32).toInt32) &&& (3 : Int32))), .val (.ref r145), .val (.int (0 : Int32))] [])) _
            refine XS.aload X145.here hx rfl (hb hby at_132) rfl rfl ?_
            show Steps p.tables e below (T145.setTop (mkF m 134 #[.val (.int k0), .val (.int k1), .val (.int k2), .val (.int k3), .val (.int k4), .val (.ref b64), .val (.int k2), .val (.int k1), .val (.ref b128), .val (.int (((k4.toUInt32 >>> ((2 : Int32) &&& 31).toUInt32).toInt32) &&& (3 : Int32))), .val (.ref r145), .val (.int (0 : Int32))] [(.ref b64)])) _
            refine XS.aload X145.here hx rfl (hb hby at_134) rfl rfl ?_
            show Steps p.tables e below (T145.setTop (mkF m 136 #[.val (.int k0), .val (.int k1), .val (.int k2), .val (.int k3), .val (.int k4), .val (.ref b64), .val (.int k2), .val (.int k1), .val (.ref b128), .val (.int (((k4.toUInt32 >>> ((2 : Int32) &&& 31).toUInt32).toInt32) &&& (3 : Int32))), .val (.ref r145), .val (.int (0 : Int32))] [(.ref r145), (.ref b64)])) _
            refine st153.trans ?_
            show Steps p.tables e below (T153.setTop (mkF m 139 #[.val (.int k0), .val (.int k1), .val (.int k2), .val (.int k3), .val (.int k4), .val (.ref b64), .val (.int k2), .val (.int k1), .val (.ref b128), .val (.int (((k4.toUInt32 >>> ((2 : Int32) &&& 31).toUInt32).toInt32) &&& (3 : Int32))), .val (.ref r145), .val (.int (0 : Int32))] [(.int (0 : Int32))])) _
            refine XS.iload X153.here hx rfl (hb hby at_139) rfl ?_
            show Steps p.tables e below (T153.setTop (mkF m 141 #[.val (.int k0), .val (.int k1), .val (.int k2), .val (.int k3), .val (.int k4), .val (.ref b64), .val (.int k2), .val (.int k1), .val (.ref b128), .val (.int (((k4.toUInt32 >>> ((2 : Int32) &&& 31).toUInt32).toInt32) &&& (3 : Int32))), .val (.ref r145), .val (.int (0 : Int32))] [(.int (0 : Int32)), (.int (0 : Int32))])) _
            refine XS.icmpYes X153.here hx rfl (pc0 := 141) (pc' := 146) rfl (hb hby at_141) rfl (teq (rfl : (0 : Int32) = (0 : Int32))).1 (by decide) (by decide) ?_
            show Steps p.tables e below (T153.setTop (mkF m 146 #[.val (.int k0), .val (.int k1), .val (.int k2), .val (.int k3), .val (.int k4), .val (.ref b64), .val (.int k2), .val (.int k1), .val (.ref b128), .val (.int (((k4.toUInt32 >>> ((2 : Int32) &&& 31).toUInt32).toInt32) &&& (3 : Int32))), .val (.ref r145), .val (.int (0 : Int32))] [])) _
            refine XS.iload X153.here hx rfl (hb hby at_146) rfl ?_
            show Steps p.tables e below (T153.setTop (mkF m 148 #[.val (.int k0), .val (.int k1), .val (.int k2), .val (.int k3), .val (.int k4), .val (.ref b64), .val (.int k2), .val (.int k1), .val (.ref b128), .val (.int (((k4.toUInt32 >>> ((2 : Int32) &&& 31).toUInt32).toInt32) &&& (3 : Int32))), .val (.ref r145), .val (.int (0 : Int32))] [(.int (((k4.toUInt32 >>> ((2 : Int32) &&& 31).toUInt32).toInt32) &&& (3 : Int32)))])) _
            refine XS.ifYes X153.here hx rfl (pc0 := 148) (pc' := 165) rfl (hb hby at_148) rfl ((if0 _ _).trans (feq (fun q_ => absurd (hc78_144.symm.trans q_) (by decide))).2) (by decide) (by decide) ?_
            show Steps p.tables e below (T153.setTop (mkF m 165 #[.val (.int k0), .val (.int k1), .val (.int k2), .val (.int k3), .val (.int k4), .val (.ref b64), .val (.int k2), .val (.int k1), .val (.ref b128), .val (.int (((k4.toUInt32 >>> ((2 : Int32) &&& 31).toUInt32).toInt32) &&& (3 : Int32))), .val (.ref r145), .val (.int (0 : Int32))] [])) _
            refine XS.iconst X153.here hx rfl (hb hby at_165) ?_
            show Steps p.tables e below (T153.setTop (mkF m 166 #[.val (.int k0), .val (.int k1), .val (.int k2), .val (.int k3), .val (.int k4), .val (.ref b64), .val (.int k2), .val (.int k1), .val (.ref b128), .val (.int (((k4.toUInt32 >>> ((2 : Int32) &&& 31).toUInt32).toInt32) &&& (3 : Int32))), .val (.ref r145), .val (.int (0 : Int32))] [(.int (1 : Int32))])) _
            exact k_)
          obtain ⟨fs, hr, hrun, hended, hW, hsame⟩ := X153.leave (v := some (.int (1 : Int32))) (fun h => by rw [Bd.returns] at h; cases h)
          refine ⟨_, _, pre154 _ ?_, hrun, hended, _, _, rfl, ?_, ⟨_, rfl⟩, hW, hsame.mono (by decide) (by decide)⟩
          · show Steps p.tables e below (T153.setTop (mkF m 166 #[.val (.int k0), .val (.int k1), .val (.int k2), .val (.int k3), .val (.int k4), .val (.ref b64), .val (.int k2), .val (.int k1), .val (.ref b128), .val (.int (((k4.toUInt32 >>> ((2 : Int32) &&& 31).toUInt32).toInt32) &&& (3 : Int32))), .val (.ref r145), .val (.int (0 : Int32))] [(.int (1 : Int32))])) _
            exact retN X153 hx (t := .boolean) Bd.returns (by simp) (hb hby at_166) hr
          · show Q_0 Z k0 k1 k2 k3 k4 w_cache cl_cache bx h0 n0 _ T153.heap _
            rw [e153]
            exact ⟨rfl, N153⟩
        · have pre155 : ∀ t_, Steps p.tables e below (T133.setTop (mkF m 96 #[.val (.int k0), .val (.int k1), .val (.int k2), .val (.int k3), .val (.int k4), .val (.ref b64), .val (.int k2), .val (.int k1), .val (.ref b128), .val (.int (((k4.toUInt32 >>> ((2 : Int32) &&& 31).toUInt32).toInt32) &&& (3 : Int32))), .unset, .unset] [(.int (3 : Int32)), (.int (((k4.toUInt32 >>> ((2 : Int32) &&& 31).toUInt32).toInt32) &&& (3 : Int32)))])) t_ → Steps p.tables e below (s₁.setTop (entryFrame m #[(.int k0), (.int k1), (.int k2), (.int k3), (.int k4)] maxLocals)) t_ := fun t_ k_ => pre143 t_ (by
            show Steps p.tables e below (T133.setTop (mkF m 78 #[.val (.int k0), .val (.int k1), .val (.int k2), .val (.int k3), .val (.int k4), .val (.ref b64), .val (.int k2), .val (.int k1), .val (.ref b128), .val (.int (((k4.toUInt32 >>> ((2 : Int32) &&& 31).toUInt32).toInt32) &&& (3 : Int32))), .unset, .unset] [(.int (2 : Int32)), (.int (((k4.toUInt32 >>> ((2 : Int32) &&& 31).toUInt32).toInt32) &&& (3 : Int32)))])) _
            refine XS.icmpYes X133.here hx rfl (pc0 := 78) (pc' := 93) rfl (hb hby at_78) rfl (feq hc78_144).2 (by decide) (by decide) ?_
            show Steps p.tables e below (T133.setTop (mkF m 93 #[.val (.int k0), .val (.int k1), .val (.int k2), .val (.int k3), .val (.int k4), .val (.ref b64), .val (.int k2), .val (.int k1), .val (.ref b128), .val (.int (((k4.toUInt32 >>> ((2 : Int32) &&& 31).toUInt32).toInt32) &&& (3 : Int32))), .unset, .unset] [])) _
            refine XS.iload X133.here hx rfl (hb hby at_93) rfl ?_
            show Steps p.tables e below (T133.setTop (mkF m 95 #[.val (.int k0), .val (.int k1), .val (.int k2), .val (.int k3), .val (.int k4), .val (.ref b64), .val (.int k2), .val (.int k1), .val (.ref b128), .val (.int (((k4.toUInt32 >>> ((2 : Int32) &&& 31).toUInt32).toInt32) &&& (3 : Int32))), .unset, .unset] [(.int (((k4.toUInt32 >>> ((2 : Int32) &&& 31).toUInt32).toInt32) &&& (3 : Int32)))])) _
            refine XS.iconst X133.here hx rfl (hb hby at_95) ?_
            show Steps p.tables e below (T133.setTop (mkF m 96 #[.val (.int k0), .val (.int k1), .val (.int k2), .val (.int k3), .val (.int k4), .val (.ref b64), .val (.int k2), .val (.int k1), .val (.ref b128), .val (.int (((k4.toUInt32 >>> ((2 : Int32) &&& 31).toUInt32).toInt32) &&& (3 : Int32))), .unset, .unset] [(.int (3 : Int32)), (.int (((k4.toUInt32 >>> ((2 : Int32) &&& 31).toUInt32).toInt32) &&& (3 : Int32)))])) _
            exact k_)
          by_cases hc96_156 : (((k4.toUInt32 >>> ((2 : Int32) &&& 31).toUInt32).toInt32) &&& (3 : Int32)) = (3 : Int32)
          · obtain ⟨cq157, kq157, q157a, q157b, q157c⟩ := isOf hZ rfl c135
            obtain ⟨v157, _, ⟨T157, L157, k157, n157⟩, -, X157, ⟨Lc157, hQ157, l157, y157, z157⟩, st157⟩ := X133.virtualBack hx (y := (⟨"com/example/fissure/fissure/games/breakable/Cube", "equals", "(Ljava/lang/Object;)Z"⟩ : MethodName)) (z := (⟨"com/example/fissure/fissure/games/breakable/Cube", "equals", "(Ljava/lang/Object;)Z"⟩ : MethodName)) hown (mvT hZ (hw _ (List.mem_of_getElem? (i := 15) rfl))) (mvT hZ (hw _ (List.mem_of_getElem? (i := 16) rfl))) (notFace_of_selects (args := #[]) (mvT hZ (hw _ (List.mem_of_getElem? (i := 18) rfl)))) (mvT hZ (hw _ (List.mem_of_getElem? (i := 18) rfl))) (mvT hZ (hw _ (List.mem_of_getElem? (i := 17) rfl))) (by decide) (backOf (W := 0) (rm_eqC l Z a0 hw [] b64 b64 k0 k1 k0 k1 T133.heap n0 Zs134 c135 c136 c137 c136 c137) hZ (hw _ (List.mem_of_getElem? (i := 19) rfl)) (hw _ (List.mem_of_getElem? (i := 2) rfl)) (by decide) (by decide)) q157a q157c (g := (mkF m 136 #[.val (.int k0), .val (.int k1), .val (.int k2), .val (.int k3), .val (.int k4), .val (.ref b64), .val (.int k2), .val (.int k1), .val (.ref b128), .val (.int (((k4.toUInt32 >>> ((2 : Int32) &&& 31).toUInt32).toInt32) &&& (3 : Int32))), .val (.ref b64), .val (.int (1 : Int32))] [(.ref b64), (.ref b64)])) rfl (by rw [hml]; rfl) (Steps.refl _) (argsL := [(.ref b64)]) (rest := []) (lenOf pd_3 rfl) rfl (by show 2 * 0 + _ ≤ _; exact Nat.le_of_eq rfl) (hb hby at_136) (fun _ _ => ⟨rfl, rfl, (by decide : 2 + 0 ≤ _), (by decide : 6 + 0 ≤ _)⟩)
            dsimp only [Pt.U, Pt.locs, Pt.cells, Pt.slots] at X157 l157 y157 z157 st157 hQ157
            subst l157 y157 z157
            obtain ⟨hv157, N157q, e157⟩ := hQ157
            have N157 := Fr.app N133 N157q
            have hw157 : v157 = some (.int (1 : Int32)) := hv157.trans (congrArg (fun z => some (Value.int z)) (own_self _ _))
            subst hw157
            have pre158 : ∀ t_, Steps p.tables e below (T157.setTop (mkF m 166 #[.val (.int k0), .val (.int k1), .val (.int k2), .val (.int k3), .val (.int k4), .val (.ref b64), .val (.int k2), .val (.int k1), .val (.ref b128), .val (.int (((k4.toUInt32 >>> ((2 : Int32) &&& 31).toUInt32).toInt32) &&& (3 : Int32))), .val (.ref b64), .val (.int (1 : Int32))] [(.int (1 : Int32))])) t_ → Steps p.tables e below (s₁.setTop (entryFrame m #[(.int k0), (.int k1), (.int k2), (.int k3), (.int k4)] maxLocals)) t_ := fun t_ k_ => pre155 t_ (by
              show Steps p.tables e below (T133.setTop (mkF m 96 #[.val (.int k0), .val (.int k1), .val (.int k2), .val (.int k3), .val (.int k4), .val (.ref b64), .val (.int k2), .val (.int k1), .val (.ref b128), .val (.int (((k4.toUInt32 >>> ((2 : Int32) &&& 31).toUInt32).toInt32) &&& (3 : Int32))), .unset, .unset] [(.int (3 : Int32)), (.int (((k4.toUInt32 >>> ((2 : Int32) &&& 31).toUInt32).toInt32) &&& (3 : Int32)))])) _
              refine XS.icmpNo X133.here hx rfl (hb hby at_96) rfl (teq hc96_156).2 ?_
              show Steps p.tables e below (T133.setTop (mkF m 99 #[.val (.int k0), .val (.int k1), .val (.int k2), .val (.int k3), .val (.int k4), .val (.ref b64), .val (.int k2), .val (.int k1), .val (.ref b128), .val (.int (((k4.toUInt32 >>> ((2 : Int32) &&& 31).toUInt32).toInt32) &&& (3 : Int32))), .unset, .unset] [])) _
              refine XS.aload X133.here hx rfl (hb hby at_99) rfl rfl ?_
              show Steps p.tables e below (T133.setTop (mkF m 101 #[.val (.int k0), .val (.int k1), .val (.int k2), .val (.int k3), .val (.int k4), .val (.ref b64), .val (.int k2), .val (.int k1), .val (.ref b128), .val (.int (((k4.toUInt32 >>> ((2 : Int32) &&& 31).toUInt32).toInt32) &&& (3 : Int32))), .unset, .unset] [(.ref b64)])) _
              refine XS.astore X133.here hx rfl (hb hby at_101) rfl rfl (l' := #[.val (.int k0), .val (.int k1), .val (.int k2), .val (.int k3), .val (.int k4), .val (.ref b64), .val (.int k2), .val (.int k1), .val (.ref b128), .val (.int (((k4.toUInt32 >>> ((2 : Int32) &&& 31).toUInt32).toInt32) &&& (3 : Int32))), .val (.ref b64), .unset]) rfl ?_
              show Steps p.tables e below (T133.setTop (mkF m 103 #[.val (.int k0), .val (.int k1), .val (.int k2), .val (.int k3), .val (.int k4), .val (.ref b64), .val (.int k2), .val (.int k1), .val (.ref b128), .val (.int (((k4.toUInt32 >>> ((2 : Int32) &&& 31).toUInt32).toInt32) &&& (3 : Int32))), .val (.ref b64), .unset] [])) _
              refine XS.iconst X133.here hx rfl (hb hby at_103) ?_
              show Steps p.tables e below (T133.setTop (mkF m 104 #[.val (.int k0), .val (.int k1), .val (.int k2), .val (.int k3), .val (.int k4), .val (.ref b64), .val (.int k2), .val (.int k1), .val (.ref b128), .val (.int (((k4.toUInt32 >>> ((2 : Int32) &&& 31).toUInt32).toInt32) &&& (3 : Int32))), .val (.ref b64), .unset] [(.int (1 : Int32))])) _
              refine XS.istore X133.here hx rfl (hb hby at_104) rfl (l' := #[.val (.int k0), .val (.int k1), .val (.int k2), .val (.int k3), .val (.int k4), .val (.ref b64), .val (.int k2), .val (.int k1), .val (.ref b128), .val (.int (((k4.toUInt32 >>> ((2 : Int32) &&& 31).toUInt32).toInt32) &&& (3 : Int32))), .val (.ref b64), .val (.int (1 : Int32))]) rfl ?_
              show Steps p.tables e below (T133.setTop (mkF m 106 #[.val (.int k0), .val (.int k1), .val (.int k2), .val (.int k3), .val (.int k4), .val (.ref b64), .val (.int k2), .val (.int k1), .val (.ref b128), .val (.int (((k4.toUInt32 >>> ((2 : Int32) &&& 31).toUInt32).toInt32) &&& (3 : Int32))), .val (.ref b64), .val (.int (1 : Int32))] [])) _
              refine XS.goto X133.here hx rfl (pc0 := 106) (pc' := 132) rfl (hb hby at_106) (by decide) (by decide) ?_
              show Steps p.tables e below (T133.setTop (mkF m 132 #[.val (.int k0), .val (.int k1), .val (.int k2), .val (.int k3), .val (.int k4), .val (.ref b64), .val (.int k2), .val (.int k1), .val (.ref b128), .val (.int (((k4.toUInt32 >>> ((2 : Int32) &&& 31).toUInt32).toInt32) &&& (3 : Int32))), .val (.ref b64), .val (.int (1 : Int32))] [])) _
              refine XS.aload X133.here hx rfl (hb hby at_132) rfl rfl ?_
              show Steps p.tables e below (T133.setTop (mkF m 134 #[.val (.int k0), .val (.int k1), .val (.int k2), .val (.int k3), .val (.int k4), .val (.ref b64), .val (.int k2), .val (.int k1), .val (.ref b128), .val (.int (((k4.toUInt32 >>> ((2 : Int32) &&& 31).toUInt32).toInt32) &&& (3 : Int32))), .val (.ref b64), .val (.int (1 : Int32))] [(.ref b64)])) _
              refine XS.aload X133.here hx rfl (hb hby at_134) rfl rfl ?_
              show Steps p.tables e below (T133.setTop (mkF m 136 #[.val (.int k0), .val (.int k1), .val (.int k2), .val (.int k3), .val (.int k4), .val (.ref b64), .val (.int k2), .val (.int k1), .val (.ref b128), .val (.int (((k4.toUInt32 >>> ((2 : Int32) &&& 31).toUInt32).toInt32) &&& (3 : Int32))), .val (.ref b64), .val (.int (1 : Int32))] [(.ref b64), (.ref b64)])) _
              refine st157.trans ?_
              show Steps p.tables e below (T157.setTop (mkF m 139 #[.val (.int k0), .val (.int k1), .val (.int k2), .val (.int k3), .val (.int k4), .val (.ref b64), .val (.int k2), .val (.int k1), .val (.ref b128), .val (.int (((k4.toUInt32 >>> ((2 : Int32) &&& 31).toUInt32).toInt32) &&& (3 : Int32))), .val (.ref b64), .val (.int (1 : Int32))] [(.int (1 : Int32))])) _
              refine XS.iload X157.here hx rfl (hb hby at_139) rfl ?_
              show Steps p.tables e below (T157.setTop (mkF m 141 #[.val (.int k0), .val (.int k1), .val (.int k2), .val (.int k3), .val (.int k4), .val (.ref b64), .val (.int k2), .val (.int k1), .val (.ref b128), .val (.int (((k4.toUInt32 >>> ((2 : Int32) &&& 31).toUInt32).toInt32) &&& (3 : Int32))), .val (.ref b64), .val (.int (1 : Int32))] [(.int (1 : Int32)), (.int (1 : Int32))])) _
              refine XS.icmpYes X157.here hx rfl (pc0 := 141) (pc' := 146) rfl (hb hby at_141) rfl (teq (rfl : (1 : Int32) = (1 : Int32))).1 (by decide) (by decide) ?_
              show Steps p.tables e below (T157.setTop (mkF m 146 #[.val (.int k0), .val (.int k1), .val (.int k2), .val (.int k3), .val (.int k4), .val (.ref b64), .val (.int k2), .val (.int k1), .val (.ref b128), .val (.int (((k4.toUInt32 >>> ((2 : Int32) &&& 31).toUInt32).toInt32) &&& (3 : Int32))), .val (.ref b64), .val (.int (1 : Int32))] [])) _
              refine XS.iload X157.here hx rfl (hb hby at_146) rfl ?_
              show Steps p.tables e below (T157.setTop (mkF m 148 #[.val (.int k0), .val (.int k1), .val (.int k2), .val (.int k3), .val (.int k4), .val (.ref b64), .val (.int k2), .val (.int k1), .val (.ref b128), .val (.int (((k4.toUInt32 >>> ((2 : Int32) &&& 31).toUInt32).toInt32) &&& (3 : Int32))), .val (.ref b64), .val (.int (1 : Int32))] [(.int (((k4.toUInt32 >>> ((2 : Int32) &&& 31).toUInt32).toInt32) &&& (3 : Int32)))])) _
              refine XS.ifYes X157.here hx rfl (pc0 := 148) (pc' := 165) rfl (hb hby at_148) rfl ((if0 _ _).trans (feq (fun q_ => absurd (hc96_156.symm.trans q_) (by decide))).2) (by decide) (by decide) ?_
              show Steps p.tables e below (T157.setTop (mkF m 165 #[.val (.int k0), .val (.int k1), .val (.int k2), .val (.int k3), .val (.int k4), .val (.ref b64), .val (.int k2), .val (.int k1), .val (.ref b128), .val (.int (((k4.toUInt32 >>> ((2 : Int32) &&& 31).toUInt32).toInt32) &&& (3 : Int32))), .val (.ref b64), .val (.int (1 : Int32))] [])) _
              refine XS.iconst X157.here hx rfl (hb hby at_165) ?_
              show Steps p.tables e below (T157.setTop (mkF m 166 #[.val (.int k0), .val (.int k1), .val (.int k2), .val (.int k3), .val (.int k4), .val (.ref b64), .val (.int k2), .val (.int k1), .val (.ref b128), .val (.int (((k4.toUInt32 >>> ((2 : Int32) &&& 31).toUInt32).toInt32) &&& (3 : Int32))), .val (.ref b64), .val (.int (1 : Int32))] [(.int (1 : Int32))])) _
              exact k_)
            obtain ⟨fs, hr, hrun, hended, hW, hsame⟩ := X157.leave (v := some (.int (1 : Int32))) (fun h => by rw [Bd.returns] at h; cases h)
            refine ⟨_, _, pre158 _ ?_, hrun, hended, _, _, rfl, ?_, ⟨_, rfl⟩, hW, hsame.mono (by decide) (by decide)⟩
            · show Steps p.tables e below (T157.setTop (mkF m 166 #[.val (.int k0), .val (.int k1), .val (.int k2), .val (.int k3), .val (.int k4), .val (.ref b64), .val (.int k2), .val (.int k1), .val (.ref b128), .val (.int (((k4.toUInt32 >>> ((2 : Int32) &&& 31).toUInt32).toInt32) &&& (3 : Int32))), .val (.ref b64), .val (.int (1 : Int32))] [(.int (1 : Int32))])) _
              exact retN X157 hx (t := .boolean) Bd.returns (by simp) (hb hby at_166) hr
            · show Q_0 Z k0 k1 k2 k3 k4 w_cache cl_cache bx h0 n0 _ T157.heap _
              rw [e157]
              exact ⟨rfl, N157⟩
          · have pre159 : ∀ t_, Steps p.tables e below (T133.setTop (mkF m 116 #[.val (.int k0), .val (.int k1), .val (.int k2), .val (.int k3), .val (.int k4), .val (.ref b64), .val (.int k2), .val (.int k1), .val (.ref b128), .val (.int (((k4.toUInt32 >>> ((2 : Int32) &&& 31).toUInt32).toInt32) &&& (3 : Int32))), .val (.ref b128), .unset] [(.int k2), (.int k0)])) t_ → Steps p.tables e below (s₁.setTop (entryFrame m #[(.int k0), (.int k1), (.int k2), (.int k3), (.int k4)] maxLocals)) t_ := fun t_ k_ => pre155 t_ (by
              show Steps p.tables e below (T133.setTop (mkF m 96 #[.val (.int k0), .val (.int k1), .val (.int k2), .val (.int k3), .val (.int k4), .val (.ref b64), .val (.int k2), .val (.int k1), .val (.ref b128), .val (.int (((k4.toUInt32 >>> ((2 : Int32) &&& 31).toUInt32).toInt32) &&& (3 : Int32))), .unset, .unset] [(.int (3 : Int32)), (.int (((k4.toUInt32 >>> ((2 : Int32) &&& 31).toUInt32).toInt32) &&& (3 : Int32)))])) _
              refine XS.icmpYes X133.here hx rfl (pc0 := 96) (pc' := 109) rfl (hb hby at_96) rfl (feq hc96_156).2 (by decide) (by decide) ?_
              show Steps p.tables e below (T133.setTop (mkF m 109 #[.val (.int k0), .val (.int k1), .val (.int k2), .val (.int k3), .val (.int k4), .val (.ref b64), .val (.int k2), .val (.int k1), .val (.ref b128), .val (.int (((k4.toUInt32 >>> ((2 : Int32) &&& 31).toUInt32).toInt32) &&& (3 : Int32))), .unset, .unset] [])) _
              refine XS.aload X133.here hx rfl (hb hby at_109) rfl rfl ?_
              show Steps p.tables e below (T133.setTop (mkF m 111 #[.val (.int k0), .val (.int k1), .val (.int k2), .val (.int k3), .val (.int k4), .val (.ref b64), .val (.int k2), .val (.int k1), .val (.ref b128), .val (.int (((k4.toUInt32 >>> ((2 : Int32) &&& 31).toUInt32).toInt32) &&& (3 : Int32))), .unset, .unset] [(.ref b128)])) _
              refine XS.astore X133.here hx rfl (hb hby at_111) rfl rfl (l' := #[.val (.int k0), .val (.int k1), .val (.int k2), .val (.int k3), .val (.int k4), .val (.ref b64), .val (.int k2), .val (.int k1), .val (.ref b128), .val (.int (((k4.toUInt32 >>> ((2 : Int32) &&& 31).toUInt32).toInt32) &&& (3 : Int32))), .val (.ref b128), .unset]) rfl ?_
              show Steps p.tables e below (T133.setTop (mkF m 113 #[.val (.int k0), .val (.int k1), .val (.int k2), .val (.int k3), .val (.int k4), .val (.ref b64), .val (.int k2), .val (.int k1), .val (.ref b128), .val (.int (((k4.toUInt32 >>> ((2 : Int32) &&& 31).toUInt32).toInt32) &&& (3 : Int32))), .val (.ref b128), .unset] [])) _
              refine XS.iloadN X133.here hx rfl (hb hby at_113) rfl ?_
              show Steps p.tables e below (T133.setTop (mkF m 114 #[.val (.int k0), .val (.int k1), .val (.int k2), .val (.int k3), .val (.int k4), .val (.ref b64), .val (.int k2), .val (.int k1), .val (.ref b128), .val (.int (((k4.toUInt32 >>> ((2 : Int32) &&& 31).toUInt32).toInt32) &&& (3 : Int32))), .val (.ref b128), .unset] [(.int k0)])) _
              refine XS.iload X133.here hx rfl (hb hby at_114) rfl ?_
              show Steps p.tables e below (T133.setTop (mkF m 116 #[.val (.int k0), .val (.int k1), .val (.int k2), .val (.int k3), .val (.int k4), .val (.ref b64), .val (.int k2), .val (.int k1), .val (.ref b128), .val (.int (((k4.toUInt32 >>> ((2 : Int32) &&& 31).toUInt32).toInt32) &&& (3 : Int32))), .val (.ref b128), .unset] [(.int k2), (.int k0)])) _
              exact k_)
            by_cases hc116_160 : k0 = k2
            · obtain ⟨cq161, kq161, q161a, q161b, q161c⟩ := isOf hZ rfl c135
              obtain ⟨v161, _, ⟨T161, L161, k161, n161⟩, -, X161, ⟨Lc161, hQ161, l161, y161, z161⟩, st161⟩ := X133.virtualBack hx (y := (⟨"com/example/fissure/fissure/games/breakable/Cube", "equals", "(Ljava/lang/Object;)Z"⟩ : MethodName)) (z := (⟨"com/example/fissure/fissure/games/breakable/Cube", "equals", "(Ljava/lang/Object;)Z"⟩ : MethodName)) hown (mvT hZ (hw _ (List.mem_of_getElem? (i := 15) rfl))) (mvT hZ (hw _ (List.mem_of_getElem? (i := 16) rfl))) (notFace_of_selects (args := #[]) (mvT hZ (hw _ (List.mem_of_getElem? (i := 18) rfl)))) (mvT hZ (hw _ (List.mem_of_getElem? (i := 18) rfl))) (mvT hZ (hw _ (List.mem_of_getElem? (i := 17) rfl))) (by decide) (backOf (W := 0) (rm_eqC l Z a0 hw [] b64 b128 k0 k1 k2 k1 T133.heap n0 Zs134 E133x c136 c137 F133_x F133_z) hZ (hw _ (List.mem_of_getElem? (i := 19) rfl)) (hw _ (List.mem_of_getElem? (i := 2) rfl)) (by decide) (by decide)) q161a q161c (g := (mkF m 136 #[.val (.int k0), .val (.int k1), .val (.int k2), .val (.int k3), .val (.int k4), .val (.ref b64), .val (.int k2), .val (.int k1), .val (.ref b128), .val (.int (((k4.toUInt32 >>> ((2 : Int32) &&& 31).toUInt32).toInt32) &&& (3 : Int32))), .val (.ref b128), .val (.int (1 : Int32))] [(.ref b128), (.ref b64)])) rfl (by rw [hml]; rfl) (Steps.refl _) (argsL := [(.ref b128)]) (rest := []) (lenOf pd_3 rfl) rfl (by show 2 * 0 + _ ≤ _; exact Nat.le_of_eq rfl) (hb hby at_136) (fun _ _ => ⟨rfl, rfl, (by decide : 2 + 0 ≤ _), (by decide : 6 + 0 ≤ _)⟩)
              dsimp only [Pt.U, Pt.locs, Pt.cells, Pt.slots] at X161 l161 y161 z161 st161 hQ161
              subst l161 y161 z161
              obtain ⟨hv161, N161q, e161⟩ := hQ161
              have N161 := Fr.app N133 N161q
              have hw161 : v161 = some (.int (1 : Int32)) := hv161.trans (congrArg (fun z => some (Value.int z)) (own_yes hc116_160 rfl))
              subst hw161
              have pre162 : ∀ t_, Steps p.tables e below (T161.setTop (mkF m 148 #[.val (.int k0), .val (.int k1), .val (.int k2), .val (.int k3), .val (.int k4), .val (.ref b64), .val (.int k2), .val (.int k1), .val (.ref b128), .val (.int (((k4.toUInt32 >>> ((2 : Int32) &&& 31).toUInt32).toInt32) &&& (3 : Int32))), .val (.ref b128), .val (.int (1 : Int32))] [(.int (((k4.toUInt32 >>> ((2 : Int32) &&& 31).toUInt32).toInt32) &&& (3 : Int32)))])) t_ → Steps p.tables e below (s₁.setTop (entryFrame m #[(.int k0), (.int k1), (.int k2), (.int k3), (.int k4)] maxLocals)) t_ := fun t_ k_ => pre159 t_ (by
                show Steps p.tables e below (T133.setTop (mkF m 116 #[.val (.int k0), .val (.int k1), .val (.int k2), .val (.int k3), .val (.int k4), .val (.ref b64), .val (.int k2), .val (.int k1), .val (.ref b128), .val (.int (((k4.toUInt32 >>> ((2 : Int32) &&& 31).toUInt32).toInt32) &&& (3 : Int32))), .val (.ref b128), .unset] [(.int k2), (.int k0)])) _
                refine XS.icmpNo X133.here hx rfl (hb hby at_116) rfl (teq hc116_160).2 ?_
                show Steps p.tables e below (T133.setTop (mkF m 119 #[.val (.int k0), .val (.int k1), .val (.int k2), .val (.int k3), .val (.int k4), .val (.ref b64), .val (.int k2), .val (.int k1), .val (.ref b128), .val (.int (((k4.toUInt32 >>> ((2 : Int32) &&& 31).toUInt32).toInt32) &&& (3 : Int32))), .val (.ref b128), .unset] [])) _
                refine XS.iloadN X133.here hx rfl (hb hby at_119) rfl ?_
                show Steps p.tables e below (T133.setTop (mkF m 120 #[.val (.int k0), .val (.int k1), .val (.int k2), .val (.int k3), .val (.int k4), .val (.ref b64), .val (.int k2), .val (.int k1), .val (.ref b128), .val (.int (((k4.toUInt32 >>> ((2 : Int32) &&& 31).toUInt32).toInt32) &&& (3 : Int32))), .val (.ref b128), .unset] [(.int k1)])) _
                refine XS.iload X133.here hx rfl (hb hby at_120) rfl ?_
                show Steps p.tables e below (T133.setTop (mkF m 122 #[.val (.int k0), .val (.int k1), .val (.int k2), .val (.int k3), .val (.int k4), .val (.ref b64), .val (.int k2), .val (.int k1), .val (.ref b128), .val (.int (((k4.toUInt32 >>> ((2 : Int32) &&& 31).toUInt32).toInt32) &&& (3 : Int32))), .val (.ref b128), .unset] [(.int k1), (.int k1)])) _
                refine XS.icmpNo X133.here hx rfl (hb hby at_122) rfl (teq (rfl : k1 = k1)).2 ?_
                show Steps p.tables e below (T133.setTop (mkF m 125 #[.val (.int k0), .val (.int k1), .val (.int k2), .val (.int k3), .val (.int k4), .val (.ref b64), .val (.int k2), .val (.int k1), .val (.ref b128), .val (.int (((k4.toUInt32 >>> ((2 : Int32) &&& 31).toUInt32).toInt32) &&& (3 : Int32))), .val (.ref b128), .unset] [])) _
                refine XS.iconst X133.here hx rfl (hb hby at_125) ?_
                show Steps p.tables e below (T133.setTop (mkF m 126 #[.val (.int k0), .val (.int k1), .val (.int k2), .val (.int k3), .val (.int k4), .val (.ref b64), .val (.int k2), .val (.int k1), .val (.ref b128), .val (.int (((k4.toUInt32 >>> ((2 : Int32) &&& 31).toUInt32).toInt32) &&& (3 : Int32))), .val (.ref b128), .unset] [(.int (1 : Int32))])) _
                refine XS.goto X133.here hx rfl (pc0 := 126) (pc' := 130) rfl (hb hby at_126) (by decide) (by decide) ?_
                show Steps p.tables e below (T133.setTop (mkF m 130 #[.val (.int k0), .val (.int k1), .val (.int k2), .val (.int k3), .val (.int k4), .val (.ref b64), .val (.int k2), .val (.int k1), .val (.ref b128), .val (.int (((k4.toUInt32 >>> ((2 : Int32) &&& 31).toUInt32).toInt32) &&& (3 : Int32))), .val (.ref b128), .unset] [(.int (1 : Int32))])) _
                refine XS.istore X133.here hx rfl (hb hby at_130) rfl (l' := #[.val (.int k0), .val (.int k1), .val (.int k2), .val (.int k3), .val (.int k4), .val (.ref b64), .val (.int k2), .val (.int k1), .val (.ref b128), .val (.int (((k4.toUInt32 >>> ((2 : Int32) &&& 31).toUInt32).toInt32) &&& (3 : Int32))), .val (.ref b128), .val (.int (1 : Int32))]) rfl ?_
                show Steps p.tables e below (T133.setTop (mkF m 132 #[.val (.int k0), .val (.int k1), .val (.int k2), .val (.int k3), .val (.int k4), .val (.ref b64), .val (.int k2), .val (.int k1), .val (.ref b128), .val (.int (((k4.toUInt32 >>> ((2 : Int32) &&& 31).toUInt32).toInt32) &&& (3 : Int32))), .val (.ref b128), .val (.int (1 : Int32))] [])) _
                refine XS.aload X133.here hx rfl (hb hby at_132) rfl rfl ?_
                show Steps p.tables e below (T133.setTop (mkF m 134 #[.val (.int k0), .val (.int k1), .val (.int k2), .val (.int k3), .val (.int k4), .val (.ref b64), .val (.int k2), .val (.int k1), .val (.ref b128), .val (.int (((k4.toUInt32 >>> ((2 : Int32) &&& 31).toUInt32).toInt32) &&& (3 : Int32))), .val (.ref b128), .val (.int (1 : Int32))] [(.ref b64)])) _
                refine XS.aload X133.here hx rfl (hb hby at_134) rfl rfl ?_
                show Steps p.tables e below (T133.setTop (mkF m 136 #[.val (.int k0), .val (.int k1), .val (.int k2), .val (.int k3), .val (.int k4), .val (.ref b64), .val (.int k2), .val (.int k1), .val (.ref b128), .val (.int (((k4.toUInt32 >>> ((2 : Int32) &&& 31).toUInt32).toInt32) &&& (3 : Int32))), .val (.ref b128), .val (.int (1 : Int32))] [(.ref b128), (.ref b64)])) _
                refine st161.trans ?_
                show Steps p.tables e below (T161.setTop (mkF m 139 #[.val (.int k0), .val (.int k1), .val (.int k2), .val (.int k3), .val (.int k4), .val (.ref b64), .val (.int k2), .val (.int k1), .val (.ref b128), .val (.int (((k4.toUInt32 >>> ((2 : Int32) &&& 31).toUInt32).toInt32) &&& (3 : Int32))), .val (.ref b128), .val (.int (1 : Int32))] [(.int (1 : Int32))])) _
                refine XS.iload X161.here hx rfl (hb hby at_139) rfl ?_
                show Steps p.tables e below (T161.setTop (mkF m 141 #[.val (.int k0), .val (.int k1), .val (.int k2), .val (.int k3), .val (.int k4), .val (.ref b64), .val (.int k2), .val (.int k1), .val (.ref b128), .val (.int (((k4.toUInt32 >>> ((2 : Int32) &&& 31).toUInt32).toInt32) &&& (3 : Int32))), .val (.ref b128), .val (.int (1 : Int32))] [(.int (1 : Int32)), (.int (1 : Int32))])) _
                refine XS.icmpYes X161.here hx rfl (pc0 := 141) (pc' := 146) rfl (hb hby at_141) rfl (teq (rfl : (1 : Int32) = (1 : Int32))).1 (by decide) (by decide) ?_
                show Steps p.tables e below (T161.setTop (mkF m 146 #[.val (.int k0), .val (.int k1), .val (.int k2), .val (.int k3), .val (.int k4), .val (.ref b64), .val (.int k2), .val (.int k1), .val (.ref b128), .val (.int (((k4.toUInt32 >>> ((2 : Int32) &&& 31).toUInt32).toInt32) &&& (3 : Int32))), .val (.ref b128), .val (.int (1 : Int32))] [])) _
                refine XS.iload X161.here hx rfl (hb hby at_146) rfl ?_
                show Steps p.tables e below (T161.setTop (mkF m 148 #[.val (.int k0), .val (.int k1), .val (.int k2), .val (.int k3), .val (.int k4), .val (.ref b64), .val (.int k2), .val (.int k1), .val (.ref b128), .val (.int (((k4.toUInt32 >>> ((2 : Int32) &&& 31).toUInt32).toInt32) &&& (3 : Int32))), .val (.ref b128), .val (.int (1 : Int32))] [(.int (((k4.toUInt32 >>> ((2 : Int32) &&& 31).toUInt32).toInt32) &&& (3 : Int32)))])) _
                exact k_)
              by_cases hc148_163 : (((k4.toUInt32 >>> ((2 : Int32) &&& 31).toUInt32).toInt32) &&& (3 : Int32)) = (0 : Int32)
              · obtain ⟨cq164, kq164, q164a, q164b, q164c⟩ := isOf hZ e161 E133x
                obtain ⟨v164, _, ⟨T164, L164, k164, n164⟩, -, X164, ⟨Lc164, hQ164, l164, y164, z164⟩, st164⟩ := X161.virtualBack hx (y := (⟨"com/example/fissure/fissure/games/breakable/Cube", "equals", "(Ljava/lang/Object;)Z"⟩ : MethodName)) (z := (⟨"com/example/fissure/fissure/games/breakable/Cube", "equals", "(Ljava/lang/Object;)Z"⟩ : MethodName)) hown (mvT hZ (hw _ (List.mem_of_getElem? (i := 15) rfl))) (mvT hZ (hw _ (List.mem_of_getElem? (i := 16) rfl))) (notFace_of_selects (args := #[]) (mvT hZ (hw _ (List.mem_of_getElem? (i := 18) rfl)))) (mvT hZ (hw _ (List.mem_of_getElem? (i := 18) rfl))) (mvT hZ (hw _ (List.mem_of_getElem? (i := 17) rfl))) (by decide) (backOf (W := 0) (rm_eqC l Z a0 hw [] b128 b64 k2 k1 k0 k1 T133.heap n0 Zs134 c135 F133_x F133_z c136 c137) hZ (hw _ (List.mem_of_getElem? (i := 19) rfl)) (hw _ (List.mem_of_getElem? (i := 2) rfl)) (by decide) (by decide)) q164a q164c (g := (mkF m 155 #[.val (.int k0), .val (.int k1), .val (.int k2), .val (.int k3), .val (.int k4), .val (.ref b64), .val (.int k2), .val (.int k1), .val (.ref b128), .val (.int (((k4.toUInt32 >>> ((2 : Int32) &&& 31).toUInt32).toInt32) &&& (3 : Int32))), .val (.ref b128), .val (.int (1 : Int32))] [(.ref b64), (.ref b128)])) rfl (by rw [hml]; rfl) (Steps.refl _) (argsL := [(.ref b64)]) (rest := []) (lenOf pd_3 rfl) rfl (by show 2 * 0 + _ ≤ _; exact Nat.le_of_eq rfl) (hb hby at_155) (fun _ _ => ⟨rfl, e161, (by decide : 2 + 0 ≤ _), (by decide : 6 + 0 ≤ _)⟩)
                dsimp only [Pt.U, Pt.locs, Pt.cells, Pt.slots] at X164 l164 y164 z164 st164 hQ164
                subst l164 y164 z164
                obtain ⟨hv164, N164q, e164⟩ := hQ164
                have N164 := Fr.app N161 N164q
                have hw164 : v164 = some (.int (1 : Int32)) := hv164.trans (congrArg (fun z => some (Value.int z)) (own_yes hc116_160.symm rfl))
                subst hw164
                have pre165 : ∀ t_, Steps p.tables e below (T164.setTop (mkF m 166 #[.val (.int k0), .val (.int k1), .val (.int k2), .val (.int k3), .val (.int k4), .val (.ref b64), .val (.int k2), .val (.int k1), .val (.ref b128), .val (.int (((k4.toUInt32 >>> ((2 : Int32) &&& 31).toUInt32).toInt32) &&& (3 : Int32))), .val (.ref b128), .val (.int (1 : Int32))] [(.int (1 : Int32))])) t_ → Steps p.tables e below (s₁.setTop (entryFrame m #[(.int k0), (.int k1), (.int k2), (.int k3), (.int k4)] maxLocals)) t_ := fun t_ k_ => pre162 t_ (by
                  show Steps p.tables e below (T161.setTop (mkF m 148 #[.val (.int k0), .val (.int k1), .val (.int k2), .val (.int k3), .val (.int k4), .val (.ref b64), .val (.int k2), .val (.int k1), .val (.ref b128), .val (.int (((k4.toUInt32 >>> ((2 : Int32) &&& 31).toUInt32).toInt32) &&& (3 : Int32))), .val (.ref b128), .val (.int (1 : Int32))] [(.int (((k4.toUInt32 >>> ((2 : Int32) &&& 31).toUInt32).toInt32) &&& (3 : Int32)))])) _
                  refine XS.ifNo X161.here hx rfl (hb hby at_148) rfl ((if0 _ _).trans (teq hc148_163).2) ?_
                  show Steps p.tables e below (T161.setTop (mkF m 151 #[.val (.int k0), .val (.int k1), .val (.int k2), .val (.int k3), .val (.int k4), .val (.ref b64), .val (.int k2), .val (.int k1), .val (.ref b128), .val (.int (((k4.toUInt32 >>> ((2 : Int32) &&& 31).toUInt32).toInt32) &&& (3 : Int32))), .val (.ref b128), .val (.int (1 : Int32))] [])) _
                  refine XS.aload X161.here hx rfl (hb hby at_151) rfl rfl ?_
                  show Steps p.tables e below (T161.setTop (mkF m 153 #[.val (.int k0), .val (.int k1), .val (.int k2), .val (.int k3), .val (.int k4), .val (.ref b64), .val (.int k2), .val (.int k1), .val (.ref b128), .val (.int (((k4.toUInt32 >>> ((2 : Int32) &&& 31).toUInt32).toInt32) &&& (3 : Int32))), .val (.ref b128), .val (.int (1 : Int32))] [(.ref b128)])) _
                  refine XS.aload X161.here hx rfl (hb hby at_153) rfl rfl ?_
                  show Steps p.tables e below (T161.setTop (mkF m 155 #[.val (.int k0), .val (.int k1), .val (.int k2), .val (.int k3), .val (.int k4), .val (.ref b64), .val (.int k2), .val (.int k1), .val (.ref b128), .val (.int (((k4.toUInt32 >>> ((2 : Int32) &&& 31).toUInt32).toInt32) &&& (3 : Int32))), .val (.ref b128), .val (.int (1 : Int32))] [(.ref b64), (.ref b128)])) _
                  refine st164.trans ?_
                  show Steps p.tables e below (T164.setTop (mkF m 158 #[.val (.int k0), .val (.int k1), .val (.int k2), .val (.int k3), .val (.int k4), .val (.ref b64), .val (.int k2), .val (.int k1), .val (.ref b128), .val (.int (((k4.toUInt32 >>> ((2 : Int32) &&& 31).toUInt32).toInt32) &&& (3 : Int32))), .val (.ref b128), .val (.int (1 : Int32))] [(.int (1 : Int32))])) _
                  refine XS.iload X164.here hx rfl (hb hby at_158) rfl ?_
                  show Steps p.tables e below (T164.setTop (mkF m 160 #[.val (.int k0), .val (.int k1), .val (.int k2), .val (.int k3), .val (.int k4), .val (.ref b64), .val (.int k2), .val (.int k1), .val (.ref b128), .val (.int (((k4.toUInt32 >>> ((2 : Int32) &&& 31).toUInt32).toInt32) &&& (3 : Int32))), .val (.ref b128), .val (.int (1 : Int32))] [(.int (1 : Int32)), (.int (1 : Int32))])) _
                  refine XS.icmpYes X164.here hx rfl (pc0 := 160) (pc' := 165) rfl (hb hby at_160) rfl (teq (rfl : (1 : Int32) = (1 : Int32))).1 (by decide) (by decide) ?_
                  show Steps p.tables e below (T164.setTop (mkF m 165 #[.val (.int k0), .val (.int k1), .val (.int k2), .val (.int k3), .val (.int k4), .val (.ref b64), .val (.int k2), .val (.int k1), .val (.ref b128), .val (.int (((k4.toUInt32 >>> ((2 : Int32) &&& 31).toUInt32).toInt32) &&& (3 : Int32))), .val (.ref b128), .val (.int (1 : Int32))] [])) _
                  refine XS.iconst X164.here hx rfl (hb hby at_165) ?_
                  show Steps p.tables e below (T164.setTop (mkF m 166 #[.val (.int k0), .val (.int k1), .val (.int k2), .val (.int k3), .val (.int k4), .val (.ref b64), .val (.int k2), .val (.int k1), .val (.ref b128), .val (.int (((k4.toUInt32 >>> ((2 : Int32) &&& 31).toUInt32).toInt32) &&& (3 : Int32))), .val (.ref b128), .val (.int (1 : Int32))] [(.int (1 : Int32))])) _
                  exact k_)
                obtain ⟨fs, hr, hrun, hended, hW, hsame⟩ := X164.leave (v := some (.int (1 : Int32))) (fun h => by rw [Bd.returns] at h; cases h)
                refine ⟨_, _, pre165 _ ?_, hrun, hended, _, _, rfl, ?_, ⟨_, rfl⟩, hW, hsame.mono (by decide) (by decide)⟩
                · show Steps p.tables e below (T164.setTop (mkF m 166 #[.val (.int k0), .val (.int k1), .val (.int k2), .val (.int k3), .val (.int k4), .val (.ref b64), .val (.int k2), .val (.int k1), .val (.ref b128), .val (.int (((k4.toUInt32 >>> ((2 : Int32) &&& 31).toUInt32).toInt32) &&& (3 : Int32))), .val (.ref b128), .val (.int (1 : Int32))] [(.int (1 : Int32))])) _
                  exact retN X164 hx (t := .boolean) Bd.returns (by simp) (hb hby at_166) hr
                · show Q_0 Z k0 k1 k2 k3 k4 w_cache cl_cache bx h0 n0 _ T164.heap _
                  rw [e164]
                  exact ⟨rfl, N164⟩
              · have pre166 : ∀ t_, Steps p.tables e below (T161.setTop (mkF m 166 #[.val (.int k0), .val (.int k1), .val (.int k2), .val (.int k3), .val (.int k4), .val (.ref b64), .val (.int k2), .val (.int k1), .val (.ref b128), .val (.int (((k4.toUInt32 >>> ((2 : Int32) &&& 31).toUInt32).toInt32) &&& (3 : Int32))), .val (.ref b128), .val (.int (1 : Int32))] [(.int (1 : Int32))])) t_ → Steps p.tables e below (s₁.setTop (entryFrame m #[(.int k0), (.int k1), (.int k2), (.int k3), (.int k4)] maxLocals)) t_ := fun t_ k_ => pre162 t_ (by
                  show Steps p.tables e below (T161.setTop (mkF m 148 #[.val (.int k0), .val (.int k1), .val (.int k2), .val (.int k3), .val (.int k4), .val (.ref b64), .val (.int k2), .val (.int k1), .val (.ref b128), .val (.int (((k4.toUInt32 >>> ((2 : Int32) &&& 31).toUInt32).toInt32) &&& (3 : Int32))), .val (.ref b128), .val (.int (1 : Int32))] [(.int (((k4.toUInt32 >>> ((2 : Int32) &&& 31).toUInt32).toInt32) &&& (3 : Int32)))])) _
                  refine XS.ifYes X161.here hx rfl (pc0 := 148) (pc' := 165) rfl (hb hby at_148) rfl ((if0 _ _).trans (feq hc148_163).2) (by decide) (by decide) ?_
                  show Steps p.tables e below (T161.setTop (mkF m 165 #[.val (.int k0), .val (.int k1), .val (.int k2), .val (.int k3), .val (.int k4), .val (.ref b64), .val (.int k2), .val (.int k1), .val (.ref b128), .val (.int (((k4.toUInt32 >>> ((2 : Int32) &&& 31).toUInt32).toInt32) &&& (3 : Int32))), .val (.ref b128), .val (.int (1 : Int32))] [])) _
                  refine XS.iconst X161.here hx rfl (hb hby at_165) ?_
                  show Steps p.tables e below (T161.setTop (mkF m 166 #[.val (.int k0), .val (.int k1), .val (.int k2), .val (.int k3), .val (.int k4), .val (.ref b64), .val (.int k2), .val (.int k1), .val (.ref b128), .val (.int (((k4.toUInt32 >>> ((2 : Int32) &&& 31).toUInt32).toInt32) &&& (3 : Int32))), .val (.ref b128), .val (.int (1 : Int32))] [(.int (1 : Int32))])) _
                  exact k_)
                obtain ⟨fs, hr, hrun, hended, hW, hsame⟩ := X161.leave (v := some (.int (1 : Int32))) (fun h => by rw [Bd.returns] at h; cases h)
                refine ⟨_, _, pre166 _ ?_, hrun, hended, _, _, rfl, ?_, ⟨_, rfl⟩, hW, hsame.mono (by decide) (by decide)⟩
                · show Steps p.tables e below (T161.setTop (mkF m 166 #[.val (.int k0), .val (.int k1), .val (.int k2), .val (.int k3), .val (.int k4), .val (.ref b64), .val (.int k2), .val (.int k1), .val (.ref b128), .val (.int (((k4.toUInt32 >>> ((2 : Int32) &&& 31).toUInt32).toInt32) &&& (3 : Int32))), .val (.ref b128), .val (.int (1 : Int32))] [(.int (1 : Int32))])) _
                  exact retN X161 hx (t := .boolean) Bd.returns (by simp) (hb hby at_166) hr
                · show Q_0 Z k0 k1 k2 k3 k4 w_cache cl_cache bx h0 n0 _ T161.heap _
                  rw [e161]
                  exact ⟨rfl, N161⟩
            · obtain ⟨cq167, kq167, q167a, q167b, q167c⟩ := isOf hZ rfl c135
              obtain ⟨v167, _, ⟨T167, L167, k167, n167⟩, -, X167, ⟨Lc167, hQ167, l167, y167, z167⟩, st167⟩ := X133.virtualBack hx (y := (⟨"com/example/fissure/fissure/games/breakable/Cube", "equals", "(Ljava/lang/Object;)Z"⟩ : MethodName)) (z := (⟨"com/example/fissure/fissure/games/breakable/Cube", "equals", "(Ljava/lang/Object;)Z"⟩ : MethodName)) hown (mvT hZ (hw _ (List.mem_of_getElem? (i := 15) rfl))) (mvT hZ (hw _ (List.mem_of_getElem? (i := 16) rfl))) (notFace_of_selects (args := #[]) (mvT hZ (hw _ (List.mem_of_getElem? (i := 18) rfl)))) (mvT hZ (hw _ (List.mem_of_getElem? (i := 18) rfl))) (mvT hZ (hw _ (List.mem_of_getElem? (i := 17) rfl))) (by decide) (backOf (W := 0) (rm_eqC l Z a0 hw [] b64 b128 k0 k1 k2 k1 T133.heap n0 Zs134 E133x c136 c137 F133_x F133_z) hZ (hw _ (List.mem_of_getElem? (i := 19) rfl)) (hw _ (List.mem_of_getElem? (i := 2) rfl)) (by decide) (by decide)) q167a q167c (g := (mkF m 136 #[.val (.int k0), .val (.int k1), .val (.int k2), .val (.int k3), .val (.int k4), .val (.ref b64), .val (.int k2), .val (.int k1), .val (.ref b128), .val (.int (((k4.toUInt32 >>> ((2 : Int32) &&& 31).toUInt32).toInt32) &&& (3 : Int32))), .val (.ref b128), .val (.int (0 : Int32))] [(.ref b128), (.ref b64)])) rfl (by rw [hml]; rfl) (Steps.refl _) (argsL := [(.ref b128)]) (rest := []) (lenOf pd_3 rfl) rfl (by show 2 * 0 + _ ≤ _; exact Nat.le_of_eq rfl) (hb hby at_136) (fun _ _ => ⟨rfl, rfl, (by decide : 2 + 0 ≤ _), (by decide : 6 + 0 ≤ _)⟩)
              dsimp only [Pt.U, Pt.locs, Pt.cells, Pt.slots] at X167 l167 y167 z167 st167 hQ167
              subst l167 y167 z167
              obtain ⟨hv167, N167q, e167⟩ := hQ167
              have N167 := Fr.app N133 N167q
              have hw167 : v167 = some (.int (0 : Int32)) := hv167.trans (congrArg (fun z => some (Value.int z)) (own_n1 hc116_160))
              subst hw167
              have pre168 : ∀ t_, Steps p.tables e below (T167.setTop (mkF m 148 #[.val (.int k0), .val (.int k1), .val (.int k2), .val (.int k3), .val (.int k4), .val (.ref b64), .val (.int k2), .val (.int k1), .val (.ref b128), .val (.int (((k4.toUInt32 >>> ((2 : Int32) &&& 31).toUInt32).toInt32) &&& (3 : Int32))), .val (.ref b128), .val (.int (0 : Int32))] [(.int (((k4.toUInt32 >>> ((2 : Int32) &&& 31).toUInt32).toInt32) &&& (3 : Int32)))])) t_ → Steps p.tables e below (s₁.setTop (entryFrame m #[(.int k0), (.int k1), (.int k2), (.int k3), (.int k4)] maxLocals)) t_ := fun t_ k_ => pre159 t_ (by
                show Steps p.tables e below (T133.setTop (mkF m 116 #[.val (.int k0), .val (.int k1), .val (.int k2), .val (.int k3), .val (.int k4), .val (.ref b64), .val (.int k2), .val (.int k1), .val (.ref b128), .val (.int (((k4.toUInt32 >>> ((2 : Int32) &&& 31).toUInt32).toInt32) &&& (3 : Int32))), .val (.ref b128), .unset] [(.int k2), (.int k0)])) _
                refine XS.icmpYes X133.here hx rfl (pc0 := 116) (pc' := 129) rfl (hb hby at_116) rfl (feq hc116_160).2 (by decide) (by decide) ?_
                show Steps p.tables e below (T133.setTop (mkF m 129 #[.val (.int k0), .val (.int k1), .val (.int k2), .val (.int k3), .val (.int k4), .val (.ref b64), .val (.int k2), .val (.int k1), .val (.ref b128), .val (.int (((k4.toUInt32 >>> ((2 : Int32) &&& 31).toUInt32).toInt32) &&& (3 : Int32))), .val (.ref b128), .unset] [])) _
                refine XS.iconst X133.here hx rfl (hb hby at_129) ?_
                show Steps p.tables e below (T133.setTop (mkF m 130 #[.val (.int k0), .val (.int k1), .val (.int k2), .val (.int k3), .val (.int k4), .val (.ref b64), .val (.int k2), .val (.int k1), .val (.ref b128), .val (.int (((k4.toUInt32 >>> ((2 : Int32) &&& 31).toUInt32).toInt32) &&& (3 : Int32))), .val (.ref b128), .unset] [(.int (0 : Int32))])) _
                refine XS.istore X133.here hx rfl (hb hby at_130) rfl (l' := #[.val (.int k0), .val (.int k1), .val (.int k2), .val (.int k3), .val (.int k4), .val (.ref b64), .val (.int k2), .val (.int k1), .val (.ref b128), .val (.int (((k4.toUInt32 >>> ((2 : Int32) &&& 31).toUInt32).toInt32) &&& (3 : Int32))), .val (.ref b128), .val (.int (0 : Int32))]) rfl ?_
                show Steps p.tables e below (T133.setTop (mkF m 132 #[.val (.int k0), .val (.int k1), .val (.int k2), .val (.int k3), .val (.int k4), .val (.ref b64), .val (.int k2), .val (.int k1), .val (.ref b128), .val (.int (((k4.toUInt32 >>> ((2 : Int32) &&& 31).toUInt32).toInt32) &&& (3 : Int32))), .val (.ref b128), .val (.int (0 : Int32))] [])) _
                refine XS.aload X133.here hx rfl (hb hby at_132) rfl rfl ?_
                show Steps p.tables e below (T133.setTop (mkF m 134 #[.val (.int k0), .val (.int k1), .val (.int k2), .val (.int k3), .val (.int k4), .val (.ref b64), .val (.int k2), .val (.int k1), .val (.ref b128), .val (.int (((k4.toUInt32 >>> ((2 : Int32) &&& 31).toUInt32).toInt32) &&& (3 : Int32))), .val (.ref b128), .val (.int (0 : Int32))] [(.ref b64)])) _
                refine XS.aload X133.here hx rfl (hb hby at_134) rfl rfl ?_
                show Steps p.tables e below (T133.setTop (mkF m 136 #[.val (.int k0), .val (.int k1), .val (.int k2), .val (.int k3), .val (.int k4), .val (.ref b64), .val (.int k2), .val (.int k1), .val (.ref b128), .val (.int (((k4.toUInt32 >>> ((2 : Int32) &&& 31).toUInt32).toInt32) &&& (3 : Int32))), .val (.ref b128), .val (.int (0 : Int32))] [(.ref b128), (.ref b64)])) _
                refine st167.trans ?_
                show Steps p.tables e below (T167.setTop (mkF m 139 #[.val (.int k0), .val (.int k1), .val (.int k2), .val (.int k3), .val (.int k4), .val (.ref b64), .val (.int k2), .val (.int k1), .val (.ref b128), .val (.int (((k4.toUInt32 >>> ((2 : Int32) &&& 31).toUInt32).toInt32) &&& (3 : Int32))), .val (.ref b128), .val (.int (0 : Int32))] [(.int (0 : Int32))])) _
                refine XS.iload X167.here hx rfl (hb hby at_139) rfl ?_
                show Steps p.tables e below (T167.setTop (mkF m 141 #[.val (.int k0), .val (.int k1), .val (.int k2), .val (.int k3), .val (.int k4), .val (.ref b64), .val (.int k2), .val (.int k1), .val (.ref b128), .val (.int (((k4.toUInt32 >>> ((2 : Int32) &&& 31).toUInt32).toInt32) &&& (3 : Int32))), .val (.ref b128), .val (.int (0 : Int32))] [(.int (0 : Int32)), (.int (0 : Int32))])) _
                refine XS.icmpYes X167.here hx rfl (pc0 := 141) (pc' := 146) rfl (hb hby at_141) rfl (teq (rfl : (0 : Int32) = (0 : Int32))).1 (by decide) (by decide) ?_
                show Steps p.tables e below (T167.setTop (mkF m 146 #[.val (.int k0), .val (.int k1), .val (.int k2), .val (.int k3), .val (.int k4), .val (.ref b64), .val (.int k2), .val (.int k1), .val (.ref b128), .val (.int (((k4.toUInt32 >>> ((2 : Int32) &&& 31).toUInt32).toInt32) &&& (3 : Int32))), .val (.ref b128), .val (.int (0 : Int32))] [])) _
                refine XS.iload X167.here hx rfl (hb hby at_146) rfl ?_
                show Steps p.tables e below (T167.setTop (mkF m 148 #[.val (.int k0), .val (.int k1), .val (.int k2), .val (.int k3), .val (.int k4), .val (.ref b64), .val (.int k2), .val (.int k1), .val (.ref b128), .val (.int (((k4.toUInt32 >>> ((2 : Int32) &&& 31).toUInt32).toInt32) &&& (3 : Int32))), .val (.ref b128), .val (.int (0 : Int32))] [(.int (((k4.toUInt32 >>> ((2 : Int32) &&& 31).toUInt32).toInt32) &&& (3 : Int32)))])) _
                exact k_)
              by_cases hc148_169 : (((k4.toUInt32 >>> ((2 : Int32) &&& 31).toUInt32).toInt32) &&& (3 : Int32)) = (0 : Int32)
              · obtain ⟨cq170, kq170, q170a, q170b, q170c⟩ := isOf hZ e167 E133x
                obtain ⟨v170, _, ⟨T170, L170, k170, n170⟩, -, X170, ⟨Lc170, hQ170, l170, y170, z170⟩, st170⟩ := X167.virtualBack hx (y := (⟨"com/example/fissure/fissure/games/breakable/Cube", "equals", "(Ljava/lang/Object;)Z"⟩ : MethodName)) (z := (⟨"com/example/fissure/fissure/games/breakable/Cube", "equals", "(Ljava/lang/Object;)Z"⟩ : MethodName)) hown (mvT hZ (hw _ (List.mem_of_getElem? (i := 15) rfl))) (mvT hZ (hw _ (List.mem_of_getElem? (i := 16) rfl))) (notFace_of_selects (args := #[]) (mvT hZ (hw _ (List.mem_of_getElem? (i := 18) rfl)))) (mvT hZ (hw _ (List.mem_of_getElem? (i := 18) rfl))) (mvT hZ (hw _ (List.mem_of_getElem? (i := 17) rfl))) (by decide) (backOf (W := 0) (rm_eqC l Z a0 hw [] b128 b64 k2 k1 k0 k1 T133.heap n0 Zs134 c135 F133_x F133_z c136 c137) hZ (hw _ (List.mem_of_getElem? (i := 19) rfl)) (hw _ (List.mem_of_getElem? (i := 2) rfl)) (by decide) (by decide)) q170a q170c (g := (mkF m 155 #[.val (.int k0), .val (.int k1), .val (.int k2), .val (.int k3), .val (.int k4), .val (.ref b64), .val (.int k2), .val (.int k1), .val (.ref b128), .val (.int (((k4.toUInt32 >>> ((2 : Int32) &&& 31).toUInt32).toInt32) &&& (3 : Int32))), .val (.ref b128), .val (.int (0 : Int32))] [(.ref b64), (.ref b128)])) rfl (by rw [hml]; rfl) (Steps.refl _) (argsL := [(.ref b64)]) (rest := []) (lenOf pd_3 rfl) rfl (by show 2 * 0 + _ ≤ _; exact Nat.le_of_eq rfl) (hb hby at_155) (fun _ _ => ⟨rfl, e167, (by decide : 2 + 0 ≤ _), (by decide : 6 + 0 ≤ _)⟩)
                dsimp only [Pt.U, Pt.locs, Pt.cells, Pt.slots] at X170 l170 y170 z170 st170 hQ170
                subst l170 y170 z170
                obtain ⟨hv170, N170q, e170⟩ := hQ170
                have N170 := Fr.app N167 N170q
                have hw170 : v170 = some (.int (0 : Int32)) := hv170.trans (congrArg (fun z => some (Value.int z)) (own_n1 (fun h_ => hc116_160 h_.symm)))
                subst hw170
                have pre171 : ∀ t_, Steps p.tables e below (T170.setTop (mkF m 166 #[.val (.int k0), .val (.int k1), .val (.int k2), .val (.int k3), .val (.int k4), .val (.ref b64), .val (.int k2), .val (.int k1), .val (.ref b128), .val (.int (((k4.toUInt32 >>> ((2 : Int32) &&& 31).toUInt32).toInt32) &&& (3 : Int32))), .val (.ref b128), .val (.int (0 : Int32))] [(.int (1 : Int32))])) t_ → Steps p.tables e below (s₁.setTop (entryFrame m #[(.int k0), (.int k1), (.int k2), (.int k3), (.int k4)] maxLocals)) t_ := fun t_ k_ => pre168 t_ (by
                  show Steps p.tables e below (T167.setTop (mkF m 148 #[.val (.int k0), .val (.int k1), .val (.int k2), .val (.int k3), .val (.int k4), .val (.ref b64), .val (.int k2), .val (.int k1), .val (.ref b128), .val (.int (((k4.toUInt32 >>> ((2 : Int32) &&& 31).toUInt32).toInt32) &&& (3 : Int32))), .val (.ref b128), .val (.int (0 : Int32))] [(.int (((k4.toUInt32 >>> ((2 : Int32) &&& 31).toUInt32).toInt32) &&& (3 : Int32)))])) _
                  refine XS.ifNo X167.here hx rfl (hb hby at_148) rfl ((if0 _ _).trans (teq hc148_169).2) ?_
                  show Steps p.tables e below (T167.setTop (mkF m 151 #[.val (.int k0), .val (.int k1), .val (.int k2), .val (.int k3), .val (.int k4), .val (.ref b64), .val (.int k2), .val (.int k1), .val (.ref b128), .val (.int (((k4.toUInt32 >>> ((2 : Int32) &&& 31).toUInt32).toInt32) &&& (3 : Int32))), .val (.ref b128), .val (.int (0 : Int32))] [])) _
                  refine XS.aload X167.here hx rfl (hb hby at_151) rfl rfl ?_
                  show Steps p.tables e below (T167.setTop (mkF m 153 #[.val (.int k0), .val (.int k1), .val (.int k2), .val (.int k3), .val (.int k4), .val (.ref b64), .val (.int k2), .val (.int k1), .val (.ref b128), .val (.int (((k4.toUInt32 >>> ((2 : Int32) &&& 31).toUInt32).toInt32) &&& (3 : Int32))), .val (.ref b128), .val (.int (0 : Int32))] [(.ref b128)])) _
                  refine XS.aload X167.here hx rfl (hb hby at_153) rfl rfl ?_
                  show Steps p.tables e below (T167.setTop (mkF m 155 #[.val (.int k0), .val (.int k1), .val (.int k2), .val (.int k3), .val (.int k4), .val (.ref b64), .val (.int k2), .val (.int k1), .val (.ref b128), .val (.int (((k4.toUInt32 >>> ((2 : Int32) &&& 31).toUInt32).toInt32) &&& (3 : Int32))), .val (.ref b128), .val (.int (0 : Int32))] [(.ref b64), (.ref b128)])) _
                  refine st170.trans ?_
                  show Steps p.tables e below (T170.setTop (mkF m 158 #[.val (.int k0), .val (.int k1), .val (.int k2), .val (.int k3), .val (.int k4), .val (.ref b64), .val (.int k2), .val (.int k1), .val (.ref b128), .val (.int (((k4.toUInt32 >>> ((2 : Int32) &&& 31).toUInt32).toInt32) &&& (3 : Int32))), .val (.ref b128), .val (.int (0 : Int32))] [(.int (0 : Int32))])) _
                  refine XS.iload X170.here hx rfl (hb hby at_158) rfl ?_
                  show Steps p.tables e below (T170.setTop (mkF m 160 #[.val (.int k0), .val (.int k1), .val (.int k2), .val (.int k3), .val (.int k4), .val (.ref b64), .val (.int k2), .val (.int k1), .val (.ref b128), .val (.int (((k4.toUInt32 >>> ((2 : Int32) &&& 31).toUInt32).toInt32) &&& (3 : Int32))), .val (.ref b128), .val (.int (0 : Int32))] [(.int (0 : Int32)), (.int (0 : Int32))])) _
                  refine XS.icmpYes X170.here hx rfl (pc0 := 160) (pc' := 165) rfl (hb hby at_160) rfl (teq (rfl : (0 : Int32) = (0 : Int32))).1 (by decide) (by decide) ?_
                  show Steps p.tables e below (T170.setTop (mkF m 165 #[.val (.int k0), .val (.int k1), .val (.int k2), .val (.int k3), .val (.int k4), .val (.ref b64), .val (.int k2), .val (.int k1), .val (.ref b128), .val (.int (((k4.toUInt32 >>> ((2 : Int32) &&& 31).toUInt32).toInt32) &&& (3 : Int32))), .val (.ref b128), .val (.int (0 : Int32))] [])) _
                  refine XS.iconst X170.here hx rfl (hb hby at_165) ?_
                  show Steps p.tables e below (T170.setTop (mkF m 166 #[.val (.int k0), .val (.int k1), .val (.int k2), .val (.int k3), .val (.int k4), .val (.ref b64), .val (.int k2), .val (.int k1), .val (.ref b128), .val (.int (((k4.toUInt32 >>> ((2 : Int32) &&& 31).toUInt32).toInt32) &&& (3 : Int32))), .val (.ref b128), .val (.int (0 : Int32))] [(.int (1 : Int32))])) _
                  exact k_)
                obtain ⟨fs, hr, hrun, hended, hW, hsame⟩ := X170.leave (v := some (.int (1 : Int32))) (fun h => by rw [Bd.returns] at h; cases h)
                refine ⟨_, _, pre171 _ ?_, hrun, hended, _, _, rfl, ?_, ⟨_, rfl⟩, hW, hsame.mono (by decide) (by decide)⟩
                · show Steps p.tables e below (T170.setTop (mkF m 166 #[.val (.int k0), .val (.int k1), .val (.int k2), .val (.int k3), .val (.int k4), .val (.ref b64), .val (.int k2), .val (.int k1), .val (.ref b128), .val (.int (((k4.toUInt32 >>> ((2 : Int32) &&& 31).toUInt32).toInt32) &&& (3 : Int32))), .val (.ref b128), .val (.int (0 : Int32))] [(.int (1 : Int32))])) _
                  exact retN X170 hx (t := .boolean) Bd.returns (by simp) (hb hby at_166) hr
                · show Q_0 Z k0 k1 k2 k3 k4 w_cache cl_cache bx h0 n0 _ T170.heap _
                  rw [e170]
                  exact ⟨rfl, N170⟩
              · have pre172 : ∀ t_, Steps p.tables e below (T167.setTop (mkF m 166 #[.val (.int k0), .val (.int k1), .val (.int k2), .val (.int k3), .val (.int k4), .val (.ref b64), .val (.int k2), .val (.int k1), .val (.ref b128), .val (.int (((k4.toUInt32 >>> ((2 : Int32) &&& 31).toUInt32).toInt32) &&& (3 : Int32))), .val (.ref b128), .val (.int (0 : Int32))] [(.int (1 : Int32))])) t_ → Steps p.tables e below (s₁.setTop (entryFrame m #[(.int k0), (.int k1), (.int k2), (.int k3), (.int k4)] maxLocals)) t_ := fun t_ k_ => pre168 t_ (by
                  show Steps p.tables e below (T167.setTop (mkF m 148 #[.val (.int k0), .val (.int k1), .val (.int k2), .val (.int k3), .val (.int k4), .val (.ref b64), .val (.int k2), .val (.int k1), .val (.ref b128), .val (.int (((k4.toUInt32 >>> ((2 : Int32) &&& 31).toUInt32).toInt32) &&& (3 : Int32))), .val (.ref b128), .val (.int (0 : Int32))] [(.int (((k4.toUInt32 >>> ((2 : Int32) &&& 31).toUInt32).toInt32) &&& (3 : Int32)))])) _
                  refine XS.ifYes X167.here hx rfl (pc0 := 148) (pc' := 165) rfl (hb hby at_148) rfl ((if0 _ _).trans (feq hc148_169).2) (by decide) (by decide) ?_
                  show Steps p.tables e below (T167.setTop (mkF m 165 #[.val (.int k0), .val (.int k1), .val (.int k2), .val (.int k3), .val (.int k4), .val (.ref b64), .val (.int k2), .val (.int k1), .val (.ref b128), .val (.int (((k4.toUInt32 >>> ((2 : Int32) &&& 31).toUInt32).toInt32) &&& (3 : Int32))), .val (.ref b128), .val (.int (0 : Int32))] [])) _
                  refine XS.iconst X167.here hx rfl (hb hby at_165) ?_
                  show Steps p.tables e below (T167.setTop (mkF m 166 #[.val (.int k0), .val (.int k1), .val (.int k2), .val (.int k3), .val (.int k4), .val (.ref b64), .val (.int k2), .val (.int k1), .val (.ref b128), .val (.int (((k4.toUInt32 >>> ((2 : Int32) &&& 31).toUInt32).toInt32) &&& (3 : Int32))), .val (.ref b128), .val (.int (0 : Int32))] [(.int (1 : Int32))])) _
                  exact k_)
                obtain ⟨fs, hr, hrun, hended, hW, hsame⟩ := X167.leave (v := some (.int (1 : Int32))) (fun h => by rw [Bd.returns] at h; cases h)
                refine ⟨_, _, pre172 _ ?_, hrun, hended, _, _, rfl, ?_, ⟨_, rfl⟩, hW, hsame.mono (by decide) (by decide)⟩
                · show Steps p.tables e below (T167.setTop (mkF m 166 #[.val (.int k0), .val (.int k1), .val (.int k2), .val (.int k3), .val (.int k4), .val (.ref b64), .val (.int k2), .val (.int k1), .val (.ref b128), .val (.int (((k4.toUInt32 >>> ((2 : Int32) &&& 31).toUInt32).toInt32) &&& (3 : Int32))), .val (.ref b128), .val (.int (0 : Int32))] [(.int (1 : Int32))])) _
                  exact retN X167 hx (t := .boolean) Bd.returns (by simp) (hb hby at_166) hr
                · show Q_0 Z k0 k1 k2 k3 k4 w_cache cl_cache bx h0 n0 _ T167.heap _
                  rw [e167]
                  exact ⟨rfl, N167⟩
  · have pre173 : ∀ t_, Steps p.tables e below (T68.setTop (mkF m 29 #[.val (.int k0), .val (.int k1), .val (.int k2), .val (.int k3), .val (.int k4), .val (.ref b64), .val (.int k0), .unset, .unset, .unset, .unset, .unset] [(.int (k4 &&& (2 : Int32)))])) t_ → Steps p.tables e below (s₁.setTop (entryFrame m #[(.int k0), (.int k1), (.int k2), (.int k3), (.int k4)] maxLocals)) t_ := fun t_ k_ => pre71 t_ (by
      show Steps p.tables e below (T68.setTop (mkF m 15 #[.val (.int k0), .val (.int k1), .val (.int k2), .val (.int k3), .val (.int k4), .val (.ref b64), .unset, .unset, .unset, .unset, .unset, .unset] [(.int (k4 &&& (1 : Int32)))])) _
      refine XS.ifNo X68.here hx rfl (hb hby at_15) rfl ((if0 _ _).trans (feq hc15_72).1) ?_
      show Steps p.tables e below (T68.setTop (mkF m 18 #[.val (.int k0), .val (.int k1), .val (.int k2), .val (.int k3), .val (.int k4), .val (.ref b64), .unset, .unset, .unset, .unset, .unset, .unset] [])) _
      refine XS.iloadN X68.here hx rfl (hb hby at_18) rfl ?_
      show Steps p.tables e below (T68.setTop (mkF m 19 #[.val (.int k0), .val (.int k1), .val (.int k2), .val (.int k3), .val (.int k4), .val (.ref b64), .unset, .unset, .unset, .unset, .unset, .unset] [(.int k0)])) _
      refine XS.goto X68.here hx rfl (pc0 := 19) (pc' := 23) rfl (hb hby at_19) (by decide) (by decide) ?_
      show Steps p.tables e below (T68.setTop (mkF m 23 #[.val (.int k0), .val (.int k1), .val (.int k2), .val (.int k3), .val (.int k4), .val (.ref b64), .unset, .unset, .unset, .unset, .unset, .unset] [(.int k0)])) _
      refine XS.istore X68.here hx rfl (hb hby at_23) rfl (l' := #[.val (.int k0), .val (.int k1), .val (.int k2), .val (.int k3), .val (.int k4), .val (.ref b64), .val (.int k0), .unset, .unset, .unset, .unset, .unset]) rfl ?_
      show Steps p.tables e below (T68.setTop (mkF m 25 #[.val (.int k0), .val (.int k1), .val (.int k2), .val (.int k3), .val (.int k4), .val (.ref b64), .val (.int k0), .unset, .unset, .unset, .unset, .unset] [])) _
      refine XS.iload X68.here hx rfl (hb hby at_25) rfl ?_
      show Steps p.tables e below (T68.setTop (mkF m 27 #[.val (.int k0), .val (.int k1), .val (.int k2), .val (.int k3), .val (.int k4), .val (.ref b64), .val (.int k0), .unset, .unset, .unset, .unset, .unset] [(.int k4)])) _
      refine XS.iconst X68.here hx rfl (hb hby at_27) ?_
      show Steps p.tables e below (T68.setTop (mkF m 28 #[.val (.int k0), .val (.int k1), .val (.int k2), .val (.int k3), .val (.int k4), .val (.ref b64), .val (.int k0), .unset, .unset, .unset, .unset, .unset] [(.int (2 : Int32)), (.int k4)])) _
      refine XS.iand X68.here hx rfl (hb hby at_28) rfl ?_
      show Steps p.tables e below (T68.setTop (mkF m 29 #[.val (.int k0), .val (.int k1), .val (.int k2), .val (.int k3), .val (.int k4), .val (.ref b64), .val (.int k0), .unset, .unset, .unset, .unset, .unset] [(.int (k4 &&& (2 : Int32)))])) _
      exact k_)
    by_cases hc29_174 : (k4 &&& (2 : Int32)) = (0 : Int32)
    · obtain ⟨T175, h175, X175, e175, E175, A175, D175, -, st175⟩ := newO X68 hx hZ hown (hw _ (List.mem_of_getElem? (i := 0) rfl)) (hw _ (List.mem_of_getElem? (i := 1) rfl)) (hw _ (List.mem_of_getElem? (i := 2) rfl)) rfl (g := (mkF m 39 #[.val (.int k0), .val (.int k1), .val (.int k2), .val (.int k3), .val (.int k4), .val (.ref b64), .val (.int k0), .val (.int k3), .unset, .unset, .unset, .unset] [])) rfl (hb hby at_39) (by decide) (by decide)
      obtain ⟨b175, g175⟩ : ∃ z, z = T68.heap.size := ⟨_, rfl⟩
      rw [← g175] at A175 D175 st175
      have ne_b64_b175 : b64 ≠ b175 := Nat.ne_of_lt (Nat.lt_of_lt_of_le E68x.lt (Nat.le_of_eq g175.symm))
      have gg_b175 : n0 ≤ b175 := Nat.le_trans Zs69 (Nat.le_of_eq g175.symm)
      have sz_b175 : h0.size ≤ b175 := Nat.le_trans O69.1 (Nat.le_of_eq g175.symm)
      have O176 := own_ext_trans O69 E175
      have Zs176 := Nat.le_trans Zs69 (E175).1
      have c177 : Exa Z h175 b64 "com/example/fissure/fissure/games/breakable/Cube" := E68x.ext E175
      have c178 : Fld Z h175 b64 "com/example/fissure/fissure/games/breakable/Cube" "x" "I" (.int k0) := F68_x.ext E175
      have c179 : Fld Z h175 b64 "com/example/fissure/fissure/games/breakable/Cube" "z" "I" (.int k1) := F68_z.ext E175
      have F175_x : Fld Z h175 b175 "com/example/fissure/fissure/games/breakable/Cube" "x" "I" (.int (0 : Int32)) := D175 (Or.inr (hw _ (List.mem_of_getElem? (i := 10) rfl))) (ty := .int) (by decide)
      have F175_y : Fld Z h175 b175 "com/example/fissure/fissure/games/breakable/Cube" "y" "I" (.int (0 : Int32)) := D175 (Or.inr (hw _ (List.mem_of_getElem? (i := 12) rfl))) (ty := .int) (by decide)
      have F175_z : Fld Z h175 b175 "com/example/fissure/fissure/games/breakable/Cube" "z" "I" (.int (0 : Int32)) := D175 (Or.inr (hw _ (List.mem_of_getElem? (i := 14) rfl))) (ty := .int) (by decide)
      obtain ⟨v180, _, ⟨T180, L180, k180, n180⟩, -, X180, ⟨Lc180, hQ180, l180, y180, z180⟩, st180⟩ := X175.specialBack hx (y := (⟨"com/example/fissure/fissure/games/breakable/Cube", "<init>", "(II)V"⟩ : MethodName)) rfl hown (mvT hZ (hw _ (List.mem_of_getElem? (i := 3) rfl))) (mvT hZ (hw _ (List.mem_of_getElem? (i := 4) rfl))) (mvT hZ (hw _ (List.mem_of_getElem? (i := 5) rfl))) (by decide) (backOf (W := 1) (rm_init l Z a0 hw [] b175 k0 k3 (.int (0 : Int32)) (.int (0 : Int32)) (.int (0 : Int32)) h175 n0 Zs176 A175 gg_b175 F175_x F175_y F175_z) hZ (hw _ (List.mem_of_getElem? (i := 5) rfl)) (hw _ (List.mem_of_getElem? (i := 2) rfl)) (by decide) (by decide)) (g := (mkF m 47 #[.val (.int k0), .val (.int k1), .val (.int k2), .val (.int k3), .val (.int k4), .val (.ref b64), .val (.int k0), .val (.int k3), .unset, .unset, .unset, .unset] [(.int k3), (.int k0), (.ref b175), (.ref b175)])) rfl (by rw [hml]; rfl) (Steps.refl _) (a := b175) (argsL := [(.int k0), (.int k3)]) (rest := [(.ref b175)]) (lenOf pd_2 rfl) rfl (by show 2 * 0 + _ ≤ _; exact Nat.le_of_eq rfl) (hb hby at_47) (fun _ _ => ⟨rfl, e175, (by decide : 2 + 0 ≤ _), (by decide : 6 + 0 ≤ _)⟩)
      dsimp only [Pt.U, Pt.locs, Pt.cells, Pt.slots] at X180 l180 y180 z180 st180 hQ180
      subst l180 y180 z180
      obtain ⟨hv180, N180q, M180⟩ := hQ180
      have N180 := Fr.app N68 N180q
      subst hv180
      obtain ⟨K180k, E180x, F180_x, F180_z⟩ := M180
      have O181 := own_ext_keep O176 K180k (allS sz_b175 all0)
      have Zs181 := Nat.le_trans Zs176 K180k.1
      have c182 : Exa Z T180.heap b64 "com/example/fissure/fissure/games/breakable/Cube" := c177.keep K180k
      have c183 : Fld Z T180.heap b64 "com/example/fissure/fissure/games/breakable/Cube" "x" "I" (.int k0) := c178.keep K180k (ninS ne_b64_b175 nin0)
      have c184 : Fld Z T180.heap b64 "com/example/fissure/fissure/games/breakable/Cube" "z" "I" (.int k1) := c179.keep K180k (ninS ne_b64_b175 nin0)
      have c185 : Exa Z T180.heap b175 "com/example/fissure/fissure/games/breakable/Cube" := A175.keep K180k
      have pre186 : ∀ t_, Steps p.tables e below (T180.setTop (mkF m 63 #[.val (.int k0), .val (.int k1), .val (.int k2), .val (.int k3), .val (.int k4), .val (.ref b64), .val (.int k0), .val (.int k3), .val (.ref b175), .val (.int (((k4.toUInt32 >>> ((2 : Int32) &&& 31).toUInt32).toInt32) &&& (3 : Int32))), .unset, .unset] [(.int (1 : Int32)), (.int (((k4.toUInt32 >>> ((2 : Int32) &&& 31).toUInt32).toInt32) &&& (3 : Int32)))])) t_ → Steps p.tables e below (s₁.setTop (entryFrame m #[(.int k0), (.int k1), (.int k2), (.int k3), (.int k4)] maxLocals)) t_ := fun t_ k_ => pre173 t_ (by
        show Steps p.tables e below (T68.setTop (mkF m 29 #[.val (.int k0), .val (.int k1), .val (.int k2), .val (.int k3), .val (.int k4), .val (.ref b64), .val (.int k0), .unset, .unset, .unset, .unset, .unset] [(.int (k4 &&& (2 : Int32)))])) _
        refine XS.ifYes X68.here hx rfl (pc0 := 29) (pc' := 36) rfl (hb hby at_29) rfl ((if0 _ _).trans (teq hc29_174).1) (by decide) (by decide) ?_
        show Steps p.tables e below (T68.setTop (mkF m 36 #[.val (.int k0), .val (.int k1), .val (.int k2), .val (.int k3), .val (.int k4), .val (.ref b64), .val (.int k0), .unset, .unset, .unset, .unset, .unset] [])) _
        refine XS.iloadN X68.here hx rfl (hb hby at_36) rfl ?_
        show Steps p.tables e below (T68.setTop (mkF m 37 #[.val (.int k0), .val (.int k1), .val (.int k2), .val (.int k3), .val (.int k4), .val (.ref b64), .val (.int k0), .unset, .unset, .unset, .unset, .unset] [(.int k3)])) _
        refine XS.istore X68.here hx rfl (hb hby at_37) rfl (l' := #[.val (.int k0), .val (.int k1), .val (.int k2), .val (.int k3), .val (.int k4), .val (.ref b64), .val (.int k0), .val (.int k3), .unset, .unset, .unset, .unset]) rfl ?_
        show Steps p.tables e below (T68.setTop (mkF m 39 #[.val (.int k0), .val (.int k1), .val (.int k2), .val (.int k3), .val (.int k4), .val (.ref b64), .val (.int k0), .val (.int k3), .unset, .unset, .unset, .unset] [])) _
        refine st175 _ ?_
        show Steps p.tables e below (T175.setTop (mkF m 42 #[.val (.int k0), .val (.int k1), .val (.int k2), .val (.int k3), .val (.int k4), .val (.ref b64), .val (.int k0), .val (.int k3), .unset, .unset, .unset, .unset] [(.ref b175)])) _
        refine XS.dup X175.here hx rfl (hb hby at_42) rfl rfl ?_
        show Steps p.tables e below (T175.setTop (mkF m 43 #[.val (.int k0), .val (.int k1), .val (.int k2), .val (.int k3), .val (.int k4), .val (.ref b64), .val (.int k0), .val (.int k3), .unset, .unset, .unset, .unset] [(.ref b175), (.ref b175)])) _
        refine XS.iload X175.here hx rfl (hb hby at_43) rfl ?_
        show Steps p.tables e below (T175.setTop (mkF m 45 #[.val (.int k0), .val (.int k1), .val (.int k2), .val (.int k3), .val (.int k4), .val (.ref b64), .val (.int k0), .val (.int k3), .unset, .unset, .unset, .unset] [(.int k0), (.ref b175), (.ref b175)])) _
        refine XS.iload X175.here hx rfl (hb hby at_45) rfl ?_
        show Steps p.tables e below (T175.setTop (mkF m 47 #[.val (.int k0), .val (.int k1), .val (.int k2), .val (.int k3), .val (.int k4), .val (.ref b64), .val (.int k0), .val (.int k3), .unset, .unset, .unset, .unset] [(.int k3), (.int k0), (.ref b175), (.ref b175)])) _
        refine st180.trans ?_
        show Steps p.tables e below (T180.setTop (mkF m 50 #[.val (.int k0), .val (.int k1), .val (.int k2), .val (.int k3), .val (.int k4), .val (.ref b64), .val (.int k0), .val (.int k3), .unset, .unset, .unset, .unset] [(.ref b175)])) _
        refine XS.astore X180.here hx rfl (hb hby at_50) rfl rfl (l' := #[.val (.int k0), .val (.int k1), .val (.int k2), .val (.int k3), .val (.int k4), .val (.ref b64), .val (.int k0), .val (.int k3), .val (.ref b175), .unset, .unset, .unset]) rfl ?_
        show Steps p.tables e below (T180.setTop (mkF m 52 #[.val (.int k0), .val (.int k1), .val (.int k2), .val (.int k3), .val (.int k4), .val (.ref b64), .val (.int k0), .val (.int k3), .val (.ref b175), .unset, .unset, .unset] [])) _
        refine XS.iload X180.here hx rfl (hb hby at_52) rfl ?_
        show Steps p.tables e below (T180.setTop (mkF m 54 #[.val (.int k0), .val (.int k1), .val (.int k2), .val (.int k3), .val (.int k4), .val (.ref b64), .val (.int k0), .val (.int k3), .val (.ref b175), .unset, .unset, .unset] [(.int k4)])) _
        refine XS.iconst X180.here hx rfl (hb hby at_54) ?_
        show Steps p.tables e below (T180.setTop (mkF m 55 #[.val (.int k0), .val (.int k1), .val (.int k2), .val (.int k3), .val (.int k4), .val (.ref b64), .val (.int k0), .val (.int k3), .val (.ref b175), .unset, .unset, .unset] [(.int (2 : Int32)), (.int k4)])) _
        refine XS.iushr X180.here hx rfl (hb hby at_55) rfl ?_
        show Steps p.tables e below (T180.setTop (mkF m 56 #[.val (.int k0), .val (.int k1), .val (.int k2), .val (.int k3), .val (.int k4), .val (.ref b64), .val (.int k0), .val (.int k3), .val (.ref b175), .unset, .unset, .unset] [(.int ((k4.toUInt32 >>> ((2 : Int32) &&& 31).toUInt32).toInt32))])) _
        refine XS.iconst X180.here hx rfl (hb hby at_56) ?_
        show Steps p.tables e below (T180.setTop (mkF m 57 #[.val (.int k0), .val (.int k1), .val (.int k2), .val (.int k3), .val (.int k4), .val (.ref b64), .val (.int k0), .val (.int k3), .val (.ref b175), .unset, .unset, .unset] [(.int (3 : Int32)), (.int ((k4.toUInt32 >>> ((2 : Int32) &&& 31).toUInt32).toInt32))])) _
        refine XS.iand X180.here hx rfl (hb hby at_57) rfl ?_
        show Steps p.tables e below (T180.setTop (mkF m 58 #[.val (.int k0), .val (.int k1), .val (.int k2), .val (.int k3), .val (.int k4), .val (.ref b64), .val (.int k0), .val (.int k3), .val (.ref b175), .unset, .unset, .unset] [(.int (((k4.toUInt32 >>> ((2 : Int32) &&& 31).toUInt32).toInt32) &&& (3 : Int32)))])) _
        refine XS.istore X180.here hx rfl (hb hby at_58) rfl (l' := #[.val (.int k0), .val (.int k1), .val (.int k2), .val (.int k3), .val (.int k4), .val (.ref b64), .val (.int k0), .val (.int k3), .val (.ref b175), .val (.int (((k4.toUInt32 >>> ((2 : Int32) &&& 31).toUInt32).toInt32) &&& (3 : Int32))), .unset, .unset]) rfl ?_
        show Steps p.tables e below (T180.setTop (mkF m 60 #[.val (.int k0), .val (.int k1), .val (.int k2), .val (.int k3), .val (.int k4), .val (.ref b64), .val (.int k0), .val (.int k3), .val (.ref b175), .val (.int (((k4.toUInt32 >>> ((2 : Int32) &&& 31).toUInt32).toInt32) &&& (3 : Int32))), .unset, .unset] [])) _
        refine XS.iload X180.here hx rfl (hb hby at_60) rfl ?_
        show Steps p.tables e below (T180.setTop (mkF m 62 #[.val (.int k0), .val (.int k1), .val (.int k2), .val (.int k3), .val (.int k4), .val (.ref b64), .val (.int k0), .val (.int k3), .val (.ref b175), .val (.int (((k4.toUInt32 >>> ((2 : Int32) &&& 31).toUInt32).toInt32) &&& (3 : Int32))), .unset, .unset] [(.int (((k4.toUInt32 >>> ((2 : Int32) &&& 31).toUInt32).toInt32) &&& (3 : Int32)))])) _
        refine XS.iconst X180.here hx rfl (hb hby at_62) ?_
        show Steps p.tables e below (T180.setTop (mkF m 63 #[.val (.int k0), .val (.int k1), .val (.int k2), .val (.int k3), .val (.int k4), .val (.ref b64), .val (.int k0), .val (.int k3), .val (.ref b175), .val (.int (((k4.toUInt32 >>> ((2 : Int32) &&& 31).toUInt32).toInt32) &&& (3 : Int32))), .unset, .unset] [(.int (1 : Int32)), (.int (((k4.toUInt32 >>> ((2 : Int32) &&& 31).toUInt32).toInt32) &&& (3 : Int32)))])) _
        exact k_)
      by_cases hc63_187 : (((k4.toUInt32 >>> ((2 : Int32) &&& 31).toUInt32).toInt32) &&& (3 : Int32)) = (1 : Int32)
      · obtain ⟨cq188, kq188, q188a, q188b, q188c⟩ := isOf hZ rfl c182
        obtain ⟨v188, _, ⟨T188, L188, k188, n188⟩, -, X188, ⟨Lc188, hQ188, l188, y188, z188⟩, st188⟩ := X180.virtualBack hx (y := (⟨"com/example/fissure/fissure/games/breakable/Cube", "equals", "(Ljava/lang/Object;)Z"⟩ : MethodName)) (z := (⟨"com/example/fissure/fissure/games/breakable/Cube", "equals", "(Ljava/lang/Object;)Z"⟩ : MethodName)) hown (mvT hZ (hw _ (List.mem_of_getElem? (i := 15) rfl))) (mvT hZ (hw _ (List.mem_of_getElem? (i := 16) rfl))) (notFace_of_selects (args := #[]) (mvT hZ (hw _ (List.mem_of_getElem? (i := 18) rfl)))) (mvT hZ (hw _ (List.mem_of_getElem? (i := 18) rfl))) (mvT hZ (hw _ (List.mem_of_getElem? (i := 17) rfl))) (by decide) (backOf (W := 0) (rm_eqN l Z a0 hw [] b64 T180.heap n0 Zs181 ) hZ (hw _ (List.mem_of_getElem? (i := 19) rfl)) (hw _ (List.mem_of_getElem? (i := 2) rfl)) (by decide) (by decide)) q188a q188c (g := (mkF m 136 #[.val (.int k0), .val (.int k1), .val (.int k2), .val (.int k3), .val (.int k4), .val (.ref b64), .val (.int k0), .val (.int k3), .val (.ref b175), .val (.int (((k4.toUInt32 >>> ((2 : Int32) &&& 31).toUInt32).toInt32) &&& (3 : Int32))), .val .null, .val (.int (0 : Int32))] [.null, (.ref b64)])) rfl (by rw [hml]; rfl) (Steps.refl _) (argsL := [.null]) (rest := []) (lenOf pd_3 rfl) rfl (by show 2 * 0 + _ ≤ _; exact Nat.le_of_eq rfl) (hb hby at_136) (fun _ _ => ⟨rfl, rfl, (by decide : 2 + 0 ≤ _), (by decide : 6 + 0 ≤ _)⟩)
        dsimp only [Pt.U, Pt.locs, Pt.cells, Pt.slots] at X188 l188 y188 z188 st188 hQ188
        subst l188 y188 z188
        obtain ⟨hv188, N188q, e188⟩ := hQ188
        have N188 := Fr.app N180 N188q
        subst hv188
        have pre189 : ∀ t_, Steps p.tables e below (T188.setTop (mkF m 166 #[.val (.int k0), .val (.int k1), .val (.int k2), .val (.int k3), .val (.int k4), .val (.ref b64), .val (.int k0), .val (.int k3), .val (.ref b175), .val (.int (((k4.toUInt32 >>> ((2 : Int32) &&& 31).toUInt32).toInt32) &&& (3 : Int32))), .val .null, .val (.int (0 : Int32))] [(.int (1 : Int32))])) t_ → Steps p.tables e below (s₁.setTop (entryFrame m #[(.int k0), (.int k1), (.int k2), (.int k3), (.int k4)] maxLocals)) t_ := fun t_ k_ => pre186 t_ (by
          show Steps p.tables e below (T180.setTop (mkF m 63 #[.val (.int k0), .val (.int k1), .val (.int k2), .val (.int k3), .val (.int k4), .val (.ref b64), .val (.int k0), .val (.int k3), .val (.ref b175), .val (.int (((k4.toUInt32 >>> ((2 : Int32) &&& 31).toUInt32).toInt32) &&& (3 : Int32))), .unset, .unset] [(.int (1 : Int32)), (.int (((k4.toUInt32 >>> ((2 : Int32) &&& 31).toUInt32).toInt32) &&& (3 : Int32)))])) _
          refine XS.icmpNo X180.here hx rfl (hb hby at_63) rfl (teq hc63_187).2 ?_
          show Steps p.tables e below (T180.setTop (mkF m 66 #[.val (.int k0), .val (.int k1), .val (.int k2), .val (.int k3), .val (.int k4), .val (.ref b64), .val (.int k0), .val (.int k3), .val (.ref b175), .val (.int (((k4.toUInt32 >>> ((2 : Int32) &&& 31).toUInt32).toInt32) &&& (3 : Int32))), .unset, .unset] [])) _
          refine XS.aconstNull X180.here hx rfl (hb hby at_66) ?_
          show Steps p.tables e below (T180.setTop (mkF m 67 #[.val (.int k0), .val (.int k1), .val (.int k2), .val (.int k3), .val (.int k4), .val (.ref b64), .val (.int k0), .val (.int k3), .val (.ref b175), .val (.int (((k4.toUInt32 >>> ((2 : Int32) &&& 31).toUInt32).toInt32) &&& (3 : Int32))), .unset, .unset] [.null])) _
          refine XS.astore X180.here hx rfl (hb hby at_67) rfl rfl (l' := #[.val (.int k0), .val (.int k1), .val (.int k2), .val (.int k3), .val (.int k4), .val (.ref b64), .val (.int k0), .val (.int k3), .val (.ref b175), .val (.int (((k4.toUInt32 >>> ((2 : Int32) &&& 31).toUInt32).toInt32) &&& (3 : Int32))), .val .null, .unset]) rfl ?_
          show Steps p.tables e below (T180.setTop (mkF m 69 #[.val (.int k0), .val (.int k1), .val (.int k2), .val (.int k3), .val (.int k4), .val (.ref b64), .val (.int k0), .val (.int k3), .val (.ref b175), .val (.int (((k4.toUInt32 >>> ((2 : Int32) &&& 31).toUInt32).toInt32) &&& (3 : Int32))), .val .null, .unset] [])) _
          refine XS.iconst X180.here hx rfl (hb hby at_69) ?_
          show Steps p.tables e below (T180.setTop (mkF m 70 #[.val (.int k0), .val (.int k1), .val (.int k2), .val (.int k3), .val (.int k4), .val (.ref b64), .val (.int k0), .val (.int k3), .val (.ref b175), .val (.int (((k4.toUInt32 >>> ((2 : Int32) &&& 31).toUInt32).toInt32) &&& (3 : Int32))), .val .null, .unset] [(.int (0 : Int32))])) _
          refine XS.istore X180.here hx rfl (hb hby at_70) rfl (l' := #[.val (.int k0), .val (.int k1), .val (.int k2), .val (.int k3), .val (.int k4), .val (.ref b64), .val (.int k0), .val (.int k3), .val (.ref b175), .val (.int (((k4.toUInt32 >>> ((2 : Int32) &&& 31).toUInt32).toInt32) &&& (3 : Int32))), .val .null, .val (.int (0 : Int32))]) rfl ?_
          show Steps p.tables e below (T180.setTop (mkF m 72 #[.val (.int k0), .val (.int k1), .val (.int k2), .val (.int k3), .val (.int k4), .val (.ref b64), .val (.int k0), .val (.int k3), .val (.ref b175), .val (.int (((k4.toUInt32 >>> ((2 : Int32) &&& 31).toUInt32).toInt32) &&& (3 : Int32))), .val .null, .val (.int (0 : Int32))] [])) _
          refine XS.goto X180.here hx rfl (pc0 := 72) (pc' := 132) rfl (hb hby at_72) (by decide) (by decide) ?_
          show Steps p.tables e below (T180.setTop (mkF m 132 #[.val (.int k0), .val (.int k1), .val (.int k2), .val (.int k3), .val (.int k4), .val (.ref b64), .val (.int k0), .val (.int k3), .val (.ref b175), .val (.int (((k4.toUInt32 >>> ((2 : Int32) &&& 31).toUInt32).toInt32) &&& (3 : Int32))), .val .null, .val (.int (0 : Int32))] [])) _
          refine XS.aload X180.here hx rfl (hb hby at_132) rfl rfl ?_
          show Steps p.tables e below (T180.setTop (mkF m 134 #[.val (.int k0), .val (.int k1), .val (.int k2), .val (.int k3), .val (.int k4), .val (.ref b64), .val (.int k0), .val (.int k3), .val (.ref b175), .val (.int (((k4.toUInt32 >>> ((2 : Int32) &&& 31).toUInt32).toInt32) &&& (3 : Int32))), .val .null, .val (.int (0 : Int32))] [(.ref b64)])) _
          refine XS.aload X180.here hx rfl (hb hby at_134) rfl rfl ?_
          show Steps p.tables e below (T180.setTop (mkF m 136 #[.val (.int k0), .val (.int k1), .val (.int k2), .val (.int k3), .val (.int k4), .val (.ref b64), .val (.int k0), .val (.int k3), .val (.ref b175), .val (.int (((k4.toUInt32 >>> ((2 : Int32) &&& 31).toUInt32).toInt32) &&& (3 : Int32))), .val .null, .val (.int (0 : Int32))] [.null, (.ref b64)])) _
          refine st188.trans ?_
          show Steps p.tables e below (T188.setTop (mkF m 139 #[.val (.int k0), .val (.int k1), .val (.int k2), .val (.int k3), .val (.int k4), .val (.ref b64), .val (.int k0), .val (.int k3), .val (.ref b175), .val (.int (((k4.toUInt32 >>> ((2 : Int32) &&& 31).toUInt32).toInt32) &&& (3 : Int32))), .val .null, .val (.int (0 : Int32))] [(.int (0 : Int32))])) _
          refine XS.iload X188.here hx rfl (hb hby at_139) rfl ?_
          show Steps p.tables e below (T188.setTop (mkF m 141 #[.val (.int k0), .val (.int k1), .val (.int k2), .val (.int k3), .val (.int k4), .val (.ref b64), .val (.int k0), .val (.int k3), .val (.ref b175), .val (.int (((k4.toUInt32 >>> ((2 : Int32) &&& 31).toUInt32).toInt32) &&& (3 : Int32))), .val .null, .val (.int (0 : Int32))] [(.int (0 : Int32)), (.int (0 : Int32))])) _
          refine XS.icmpYes X188.here hx rfl (pc0 := 141) (pc' := 146) rfl (hb hby at_141) rfl (teq (rfl : (0 : Int32) = (0 : Int32))).1 (by decide) (by decide) ?_
          show Steps p.tables e below (T188.setTop (mkF m 146 #[.val (.int k0), .val (.int k1), .val (.int k2), .val (.int k3), .val (.int k4), .val (.ref b64), .val (.int k0), .val (.int k3), .val (.ref b175), .val (.int (((k4.toUInt32 >>> ((2 : Int32) &&& 31).toUInt32).toInt32) &&& (3 : Int32))), .val .null, .val (.int (0 : Int32))] [])) _
          refine XS.iload X188.here hx rfl (hb hby at_146) rfl ?_
          show Steps p.tables e below (T188.setTop (mkF m 148 #[.val (.int k0), .val (.int k1), .val (.int k2), .val (.int k3), .val (.int k4), .val (.ref b64), .val (.int k0), .val (.int k3), .val (.ref b175), .val (.int (((k4.toUInt32 >>> ((2 : Int32) &&& 31).toUInt32).toInt32) &&& (3 : Int32))), .val .null, .val (.int (0 : Int32))] [(.int (((k4.toUInt32 >>> ((2 : Int32) &&& 31).toUInt32).toInt32) &&& (3 : Int32)))])) _
          refine XS.ifYes X188.here hx rfl (pc0 := 148) (pc' := 165) rfl (hb hby at_148) rfl ((if0 _ _).trans (feq (fun q_ => absurd (hc63_187.symm.trans q_) (by decide))).2) (by decide) (by decide) ?_
          show Steps p.tables e below (T188.setTop (mkF m 165 #[.val (.int k0), .val (.int k1), .val (.int k2), .val (.int k3), .val (.int k4), .val (.ref b64), .val (.int k0), .val (.int k3), .val (.ref b175), .val (.int (((k4.toUInt32 >>> ((2 : Int32) &&& 31).toUInt32).toInt32) &&& (3 : Int32))), .val .null, .val (.int (0 : Int32))] [])) _
          refine XS.iconst X188.here hx rfl (hb hby at_165) ?_
          show Steps p.tables e below (T188.setTop (mkF m 166 #[.val (.int k0), .val (.int k1), .val (.int k2), .val (.int k3), .val (.int k4), .val (.ref b64), .val (.int k0), .val (.int k3), .val (.ref b175), .val (.int (((k4.toUInt32 >>> ((2 : Int32) &&& 31).toUInt32).toInt32) &&& (3 : Int32))), .val .null, .val (.int (0 : Int32))] [(.int (1 : Int32))])) _
          exact k_)
        obtain ⟨fs, hr, hrun, hended, hW, hsame⟩ := X188.leave (v := some (.int (1 : Int32))) (fun h => by rw [Bd.returns] at h; cases h)
        refine ⟨_, _, pre189 _ ?_, hrun, hended, _, _, rfl, ?_, ⟨_, rfl⟩, hW, hsame.mono (by decide) (by decide)⟩
        · show Steps p.tables e below (T188.setTop (mkF m 166 #[.val (.int k0), .val (.int k1), .val (.int k2), .val (.int k3), .val (.int k4), .val (.ref b64), .val (.int k0), .val (.int k3), .val (.ref b175), .val (.int (((k4.toUInt32 >>> ((2 : Int32) &&& 31).toUInt32).toInt32) &&& (3 : Int32))), .val .null, .val (.int (0 : Int32))] [(.int (1 : Int32))])) _
          exact retN X188 hx (t := .boolean) Bd.returns (by simp) (hb hby at_166) hr
        · show Q_0 Z k0 k1 k2 k3 k4 w_cache cl_cache bx h0 n0 _ T188.heap _
          rw [e188]
          exact ⟨rfl, N188⟩
      · have pre190 : ∀ t_, Steps p.tables e below (T180.setTop (mkF m 78 #[.val (.int k0), .val (.int k1), .val (.int k2), .val (.int k3), .val (.int k4), .val (.ref b64), .val (.int k0), .val (.int k3), .val (.ref b175), .val (.int (((k4.toUInt32 >>> ((2 : Int32) &&& 31).toUInt32).toInt32) &&& (3 : Int32))), .unset, .unset] [(.int (2 : Int32)), (.int (((k4.toUInt32 >>> ((2 : Int32) &&& 31).toUInt32).toInt32) &&& (3 : Int32)))])) t_ → Steps p.tables e below (s₁.setTop (entryFrame m #[(.int k0), (.int k1), (.int k2), (.int k3), (.int k4)] maxLocals)) t_ := fun t_ k_ => pre186 t_ (by
          show Steps p.tables e below (T180.setTop (mkF m 63 #[.val (.int k0), .val (.int k1), .val (.int k2), .val (.int k3), .val (.int k4), .val (.ref b64), .val (.int k0), .val (.int k3), .val (.ref b175), .val (.int (((k4.toUInt32 >>> ((2 : Int32) &&& 31).toUInt32).toInt32) &&& (3 : Int32))), .unset, .unset] [(.int (1 : Int32)), (.int (((k4.toUInt32 >>> ((2 : Int32) &&& 31).toUInt32).toInt32) &&& (3 : Int32)))])) _
          refine XS.icmpYes X180.here hx rfl (pc0 := 63) (pc' := 75) rfl (hb hby at_63) rfl (feq hc63_187).2 (by decide) (by decide) ?_
          show Steps p.tables e below (T180.setTop (mkF m 75 #[.val (.int k0), .val (.int k1), .val (.int k2), .val (.int k3), .val (.int k4), .val (.ref b64), .val (.int k0), .val (.int k3), .val (.ref b175), .val (.int (((k4.toUInt32 >>> ((2 : Int32) &&& 31).toUInt32).toInt32) &&& (3 : Int32))), .unset, .unset] [])) _
          refine XS.iload X180.here hx rfl (hb hby at_75) rfl ?_
          show Steps p.tables e below (T180.setTop (mkF m 77 #[.val (.int k0), .val (.int k1), .val (.int k2), .val (.int k3), .val (.int k4), .val (.ref b64), .val (.int k0), .val (.int k3), .val (.ref b175), .val (.int (((k4.toUInt32 >>> ((2 : Int32) &&& 31).toUInt32).toInt32) &&& (3 : Int32))), .unset, .unset] [(.int (((k4.toUInt32 >>> ((2 : Int32) &&& 31).toUInt32).toInt32) &&& (3 : Int32)))])) _
          refine XS.iconst X180.here hx rfl (hb hby at_77) ?_
          show Steps p.tables e below (T180.setTop (mkF m 78 #[.val (.int k0), .val (.int k1), .val (.int k2), .val (.int k3), .val (.int k4), .val (.ref b64), .val (.int k0), .val (.int k3), .val (.ref b175), .val (.int (((k4.toUInt32 >>> ((2 : Int32) &&& 31).toUInt32).toInt32) &&& (3 : Int32))), .unset, .unset] [(.int (2 : Int32)), (.int (((k4.toUInt32 >>> ((2 : Int32) &&& 31).toUInt32).toInt32) &&& (3 : Int32)))])) _
          exact k_)
        by_cases hc78_191 : (((k4.toUInt32 >>> ((2 : Int32) &&& 31).toUInt32).toInt32) &&& (3 : Int32)) = (2 : Int32)
        · obtain ⟨v192, _, ⟨T192, L192, k192, n192⟩, -, X192, ⟨Lc192, hQ192, l192, y192, z192⟩, st192⟩ := Jvm.LawKit.callS X180 hx (y := (⟨"java/lang/Integer", "valueOf", "(I)Ljava/lang/Integer;"⟩ : MethodName)) hown (mvT hZ (hw _ (List.mem_of_getElem? (i := 22) rfl))) (mvT hZ (hw _ (List.mem_of_getElem? (i := 23) rfl))) (mvT hZ (hw _ (List.mem_of_getElem? (i := 24) rfl))) (mvT hZ (hw _ (List.mem_of_getElem? (i := 25) rfl))) (by decide) (backOf (W := 0) (rm_valueOf l Z a0 hw [] k0 w_cache cl_cache bx T180.heap n0 Zs181 (S_high.ext O181) (S_cache.ext O181) Bx (own_ext_trans Oz O181)) hZ (hw _ (List.mem_of_getElem? (i := 25) rfl)) (hw _ (List.mem_of_getElem? (i := 24) rfl)) (by decide) (by decide)) (g := (mkF m 82 #[.val (.int k0), .val (.int k1), .val (.int k2), .val (.int k3), .val (.int k4), .val (.ref b64), .val (.int k0), .val (.int k3), .val (.ref b175), .val (.int (((k4.toUInt32 >>> ((2 : Int32) &&& 31).toUInt32).toInt32) &&& (3 : Int32))), .unset, .unset] [(.int k0)])) rfl (by rw [hml]; rfl) (argsL := [(.int k0)]) (rest := []) (lenOf pd_4 rfl) rfl (by show 2 * 0 + _ ≤ _; exact Nat.le_of_eq rfl) (hb hby at_82) (fun _ _ => ⟨rfl, rfl, (by decide : 2 + 1 ≤ _), (by decide : 6 + 1 ≤ _)⟩)
          dsimp only [Pt.U, Pt.locs, Pt.cells, Pt.slots] at X192 l192 y192 z192 st192 hQ192
          subst l192 y192 z192
          obtain ⟨⟨r192, hv192, Er192⟩, N192q, M192⟩ := hQ192
          have N192 := Fr.app N180 N192q
          subst hv192
          have O193 := own_ext_trans O181 M192
          have Zs193 := Nat.le_trans Zs181 (M192).1
          have c194 : Exa Z T192.heap b64 "com/example/fissure/fissure/games/breakable/Cube" := c182.ext M192
          have c195 : Fld Z T192.heap b64 "com/example/fissure/fissure/games/breakable/Cube" "x" "I" (.int k0) := c183.ext M192
          have c196 : Fld Z T192.heap b64 "com/example/fissure/fissure/games/breakable/Cube" "z" "I" (.int k1) := c184.ext M192
          have c197 : Exa Z T192.heap b175 "com/example/fissure/fissure/games/breakable/Cube" := E180x.ext M192
          have c198 : Fld Z T192.heap b175 "com/example/fissure/fissure/games/breakable/Cube" "x" "I" (.int k0) := F180_x.ext M192
          have c199 : Fld Z T192.heap b175 "com/example/fissure/fissure/games/breakable/Cube" "z" "I" (.int k3) := F180_z.ext M192
          obtain ⟨cq200, kq200, q200a, q200b, q200c⟩ := isOf hZ rfl c194
          obtain ⟨v200, _, ⟨T200, L200, k200, n200⟩, -, X200, ⟨Lc200, hQ200, l200, y200, z200⟩, st200⟩ := X192.virtualBack hx (y := (⟨"com/example/fissure/fissure/games/breakable/Cube", "equals", "(Ljava/lang/Object;)Z"⟩ : MethodName)) (z := (⟨"com/example/fissure/fissure/games/breakable/Cube", "equals", "(Ljava/lang/Object;)Z"⟩ : MethodName)) hown (mvT hZ (hw _ (List.mem_of_getElem? (i := 15) rfl))) (mvT hZ (hw _ (List.mem_of_getElem? (i := 16) rfl))) (notFace_of_selects (args := #[]) (mvT hZ (hw _ (List.mem_of_getElem? (i := 18) rfl)))) (mvT hZ (hw _ (List.mem_of_getElem? (i := 18) rfl))) (mvT hZ (hw _ (List.mem_of_getElem? (i := 17) rfl))) (by decide) (backOf (W := 0) (rm_eqI l Z a0 hw [] b64 r192 T192.heap n0 Zs193 Er192) hZ (hw _ (List.mem_of_getElem? (i := 19) rfl)) (hw _ (List.mem_of_getElem? (i := 2) rfl)) (by decide) (by decide)) q200a q200c (g := (mkF m 136 #[.val (.int k0), .val (.int k1), .val (.int k2), .val (.int k3), .val (.int k4), .val (.ref b64), .val (.int k0), .val (.int k3), .val (.ref b175), .val (.int (((k4.toUInt32 >>> ((2 : Int32) &&& 31).toUInt32).toInt32) &&& (3 : Int32))), .val (.ref r192), .val (.int (0 : Int32))] [(.ref r192), (.ref b64)])) rfl (by rw [hml]; rfl) (Steps.refl _) (argsL := [(.ref r192)]) (rest := []) (lenOf pd_3 rfl) rfl (by show 2 * 0 + _ ≤ _; exact Nat.le_of_eq rfl) (hb hby at_136) (fun _ _ => ⟨rfl, rfl, (by decide : 3 + 0 ≤ _), (by decide : 7 + 0 ≤ _)⟩)
          dsimp only [Pt.U, Pt.locs, Pt.cells, Pt.slots] at X200 l200 y200 z200 st200 hQ200
          subst l200 y200 z200
          obtain ⟨hv200, N200q, e200⟩ := hQ200
          have N200 := Fr.app N192 N200q
          subst hv200
          have pre201 : ∀ t_, Steps p.tables e below (T200.setTop (mkF m 166 #[.val (.int k0), .val (.int k1), .val (.int k2), .val (.int k3), .val (.int k4), .val (.ref b64), .val (.int k0), .val (.int k3), .val (.ref b175), .val (.int (((k4.toUInt32 >>> ((2 : Int32) &&& 31).toUInt32).toInt32) &&& (3 : Int32))), .val (.ref r192), .val (.int (0 : Int32))] [(.int (1 : Int32))])) t_ → Steps p.tables e below (s₁.setTop (entryFrame m #[(.int k0), (.int k1), (.int k2), (.int k3), (.int k4)] maxLocals)) t_ := fun t_ k_ => pre190 t_ (by
            show Steps p.tables e below (T180.setTop (mkF m 78 #[.val (.int k0), .val (.int k1), .val (.int k2), .val (.int k3), .val (.int k4), .val (.ref b64), .val (.int k0), .val (.int k3), .val (.ref b175), .val (.int (((k4.toUInt32 >>> ((2 : Int32) &&& 31).toUInt32).toInt32) &&& (3 : Int32))), .unset, .unset] [(.int (2 : Int32)), (.int (((k4.toUInt32 >>> ((2 : Int32) &&& 31).toUInt32).toInt32) &&& (3 : Int32)))])) _
            refine XS.icmpNo X180.here hx rfl (hb hby at_78) rfl (teq hc78_191).2 ?_
            show Steps p.tables e below (T180.setTop (mkF m 81 #[.val (.int k0), .val (.int k1), .val (.int k2), .val (.int k3), .val (.int k4), .val (.ref b64), .val (.int k0), .val (.int k3), .val (.ref b175), .val (.int (((k4.toUInt32 >>> ((2 : Int32) &&& 31).toUInt32).toInt32) &&& (3 : Int32))), .unset, .unset] [])) _
            refine XS.iloadN X180.here hx rfl (hb hby at_81) rfl ?_
            show Steps p.tables e below (T180.setTop (mkF m 82 #[.val (.int k0), .val (.int k1), .val (.int k2), .val (.int k3), .val (.int k4), .val (.ref b64), .val (.int k0), .val (.int k3), .val (.ref b175), .val (.int (((k4.toUInt32 >>> ((2 : Int32) &&& 31).toUInt32).toInt32) &&& (3 : Int32))), .unset, .unset] [(.int k0)])) _
            refine st192 _ ?_
            show Steps p.tables e below (T192.setTop (mkF m 85 #[.val (.int k0), .val (.int k1), .val (.int k2), .val (.int k3), .val (.int k4), .val (.ref b64), .val (.int k0), .val (.int k3), .val (.ref b175), .val (.int (((k4.toUInt32 >>> ((2 : Int32) &&& 31).toUInt32).toInt32) &&& (3 : Int32))), .unset, .unset] [(.ref r192)])) _
            refine XS.astore X192.here hx rfl (hb hby at_85) rfl rfl (l' := #[.val (.int k0), .val (.int k1), .val (.int k2), .val (.int k3), .val (.int k4), .val (.ref b64), .val (.int k0), .val (.int k3), .val (.ref b175), .val (.int (((k4.toUInt32 >>> ((2 : Int32) &&& 31).toUInt32).toInt32) &&& (3 : Int32))), .val (.ref r192), .unset]) rfl ?_
            show Steps p.tables e below (T192.setTop (mkF m 87 #[.val (.int k0), .val (.int k1), .val (.int k2), .val (.int k3), .val (.int k4), .val (.ref b64), .val (.int k0), .val (.int k3), .val (.ref b175), .val (.int (((k4.toUInt32 >>> ((2 : Int32) &&& 31).toUInt32).toInt32) &&& (3 : Int32))), .val (.ref r192), .unset] [])) _
            refine XS.iconst X192.here hx rfl (hb hby at_87) ?_
            show Steps p.tables e below (T192.setTop (mkF m 88 #[.val (.int k0), .val (.int k1), .val (.int k2), .val (.int k3), .val (.int k4), .val (.ref b64), .val (.int k0), .val (.int k3), .val (.ref b175), .val (.int (((k4.toUInt32 >>> ((2 : Int32) &&& 31).toUInt32).toInt32) &&& (3 : Int32))), .val (.ref r192), .unset] [(.int (0 : Int32))])) _
            refine XS.istore X192.here hx rfl (hb hby at_88) rfl (l' := #[.val (.int k0), .val (.int k1), .val (.int k2), .val (.int k3), .val (.int k4), .val (.ref b64), .val (.int k0), .val (.int k3), .val (.ref b175), .val (.int (((k4.toUInt32 >>> ((2 : Int32) &&& 31).toUInt32).toInt32) &&& (3 : Int32))), .val (.ref r192), .val (.int (0 : Int32))]) rfl ?_
            show Steps p.tables e below (T192.setTop (mkF m 90 #[.val (.int k0), .val (.int k1), .val (.int k2), .val (.int k3), .val (.int k4), .val (.ref b64), .val (.int k0), .val (.int k3), .val (.ref b175), .val (.int (((k4.toUInt32 >>> ((2 : Int32) &&& 31).toUInt32).toInt32) &&& (3 : Int32))), .val (.ref r192), .val (.int (0 : Int32))] [])) _
            refine XS.goto X192.here hx rfl (pc0 := 90) (pc' := 132) rfl (hb hby at_90) (by decide) (by decide) ?_
            show Steps p.tables e below (T192.setTop (mkF m 132 #[.val (.int k0), .val (.int k1), .val (.int k2), .val (.int k3), .val (.int k4), .val (.ref b64), .val (.int k0), .val (.int k3), .val (.ref b175), .val (.int (((k4.toUInt32 >>> ((2 : Int32) &&& 31).toUInt32).toInt32) &&& (3 : Int32))), .val (.ref r192), .val (.int (0 : Int32))] [])) _
            refine XS.aload X192.here hx rfl (hb hby at_132) rfl rfl ?_
            show Steps p.tables e below (T192.setTop (mkF m 134 #[.val (.int k0), .val (.int k1), .val (.int k2), .val (.int k3), .val (.int k4), .val (.ref b64), .val (.int k0), .val (.int k3), .val (.ref b175), .val (.int (((k4.toUInt32 >>> ((2 : Int32) &&& 31).toUInt32).toInt32) &&& (3 : Int32))), .val (.ref r192), .val (.int (0 : Int32))] [(.ref b64)])) _
            refine XS.aload X192.here hx rfl (hb hby at_134) rfl rfl ?_
            show Steps p.tables e below (T192.setTop (mkF m 136 #[.val (.int k0), .val (.int k1), .val (.int k2), .val (.int k3), .val (.int k4), .val (.ref b64), .val (.int k0), .val (.int k3), .val (.ref b175), .val (.int (((k4.toUInt32 >>> ((2 : Int32) &&& 31).toUInt32).toInt32) &&& (3 : Int32))), .val (.ref r192), .val (.int (0 : Int32))] [(.ref r192), (.ref b64)])) _
            refine st200.trans ?_
            show Steps p.tables e below (T200.setTop (mkF m 139 #[.val (.int k0), .val (.int k1), .val (.int k2), .val (.int k3), .val (.int k4), .val (.ref b64), .val (.int k0), .val (.int k3), .val (.ref b175), .val (.int (((k4.toUInt32 >>> ((2 : Int32) &&& 31).toUInt32).toInt32) &&& (3 : Int32))), .val (.ref r192), .val (.int (0 : Int32))] [(.int (0 : Int32))])) _
            refine XS.iload X200.here hx rfl (hb hby at_139) rfl ?_
            show Steps p.tables e below (T200.setTop (mkF m 141 #[.val (.int k0), .val (.int k1), .val (.int k2), .val (.int k3), .val (.int k4), .val (.ref b64), .val (.int k0), .val (.int k3), .val (.ref b175), .val (.int (((k4.toUInt32 >>> ((2 : Int32) &&& 31).toUInt32).toInt32) &&& (3 : Int32))), .val (.ref r192), .val (.int (0 : Int32))] [(.int (0 : Int32)), (.int (0 : Int32))])) _
            refine XS.icmpYes X200.here hx rfl (pc0 := 141) (pc' := 146) rfl (hb hby at_141) rfl (teq (rfl : (0 : Int32) = (0 : Int32))).1 (by decide) (by decide) ?_
            show Steps p.tables e below (T200.setTop (mkF m 146 #[.val (.int k0), .val (.int k1), .val (.int k2), .val (.int k3), .val (.int k4), .val (.ref b64), .val (.int k0), .val (.int k3), .val (.ref b175), .val (.int (((k4.toUInt32 >>> ((2 : Int32) &&& 31).toUInt32).toInt32) &&& (3 : Int32))), .val (.ref r192), .val (.int (0 : Int32))] [])) _
            refine XS.iload X200.here hx rfl (hb hby at_146) rfl ?_
            show Steps p.tables e below (T200.setTop (mkF m 148 #[.val (.int k0), .val (.int k1), .val (.int k2), .val (.int k3), .val (.int k4), .val (.ref b64), .val (.int k0), .val (.int k3), .val (.ref b175), .val (.int (((k4.toUInt32 >>> ((2 : Int32) &&& 31).toUInt32).toInt32) &&& (3 : Int32))), .val (.ref r192), .val (.int (0 : Int32))] [(.int (((k4.toUInt32 >>> ((2 : Int32) &&& 31).toUInt32).toInt32) &&& (3 : Int32)))])) _
            refine XS.ifYes X200.here hx rfl (pc0 := 148) (pc' := 165) rfl (hb hby at_148) rfl ((if0 _ _).trans (feq (fun q_ => absurd (hc78_191.symm.trans q_) (by decide))).2) (by decide) (by decide) ?_
            show Steps p.tables e below (T200.setTop (mkF m 165 #[.val (.int k0), .val (.int k1), .val (.int k2), .val (.int k3), .val (.int k4), .val (.ref b64), .val (.int k0), .val (.int k3), .val (.ref b175), .val (.int (((k4.toUInt32 >>> ((2 : Int32) &&& 31).toUInt32).toInt32) &&& (3 : Int32))), .val (.ref r192), .val (.int (0 : Int32))] [])) _
            refine XS.iconst X200.here hx rfl (hb hby at_165) ?_
            show Steps p.tables e below (T200.setTop (mkF m 166 #[.val (.int k0), .val (.int k1), .val (.int k2), .val (.int k3), .val (.int k4), .val (.ref b64), .val (.int k0), .val (.int k3), .val (.ref b175), .val (.int (((k4.toUInt32 >>> ((2 : Int32) &&& 31).toUInt32).toInt32) &&& (3 : Int32))), .val (.ref r192), .val (.int (0 : Int32))] [(.int (1 : Int32))])) _
            exact k_)
          obtain ⟨fs, hr, hrun, hended, hW, hsame⟩ := X200.leave (v := some (.int (1 : Int32))) (fun h => by rw [Bd.returns] at h; cases h)
          refine ⟨_, _, pre201 _ ?_, hrun, hended, _, _, rfl, ?_, ⟨_, rfl⟩, hW, hsame.mono (by decide) (by decide)⟩
          · show Steps p.tables e below (T200.setTop (mkF m 166 #[.val (.int k0), .val (.int k1), .val (.int k2), .val (.int k3), .val (.int k4), .val (.ref b64), .val (.int k0), .val (.int k3), .val (.ref b175), .val (.int (((k4.toUInt32 >>> ((2 : Int32) &&& 31).toUInt32).toInt32) &&& (3 : Int32))), .val (.ref r192), .val (.int (0 : Int32))] [(.int (1 : Int32))])) _
            exact retN X200 hx (t := .boolean) Bd.returns (by simp) (hb hby at_166) hr
          · show Q_0 Z k0 k1 k2 k3 k4 w_cache cl_cache bx h0 n0 _ T200.heap _
            rw [e200]
            exact ⟨rfl, N200⟩
        · have pre202 : ∀ t_, Steps p.tables e below (T180.setTop (mkF m 96 #[.val (.int k0), .val (.int k1), .val (.int k2), .val (.int k3), .val (.int k4), .val (.ref b64), .val (.int k0), .val (.int k3), .val (.ref b175), .val (.int (((k4.toUInt32 >>> ((2 : Int32) &&& 31).toUInt32).toInt32) &&& (3 : Int32))), .unset, .unset] [(.int (3 : Int32)), (.int (((k4.toUInt32 >>> ((2 : Int32) &&& 31).toUInt32).toInt32) &&& (3 : Int32)))])) t_ → Steps p.tables e below (s₁.setTop (entryFrame m #[(.int k0), (.int k1), (.int k2), (.int k3), (.int k4)] maxLocals)) t_ := fun t_ k_ => pre190 t_ (by
            show Steps p.tables e below (T180.setTop (mkF m 78 #[.val (.int k0), .val (.int k1), .val (.int k2), .val (.int k3), .val (.int k4), .val (.ref b64), .val (.int k0), .val (.int k3), .val (.ref b175), .val (.int (((k4.toUInt32 >>> ((2 : Int32) &&& 31).toUInt32).toInt32) &&& (3 : Int32))), .unset, .unset] [(.int (2 : Int32)), (.int (((k4.toUInt32 >>> ((2 : Int32) &&& 31).toUInt32).toInt32) &&& (3 : Int32)))])) _
            refine XS.icmpYes X180.here hx rfl (pc0 := 78) (pc' := 93) rfl (hb hby at_78) rfl (feq hc78_191).2 (by decide) (by decide) ?_
            show Steps p.tables e below (T180.setTop (mkF m 93 #[.val (.int k0), .val (.int k1), .val (.int k2), .val (.int k3), .val (.int k4), .val (.ref b64), .val (.int k0), .val (.int k3), .val (.ref b175), .val (.int (((k4.toUInt32 >>> ((2 : Int32) &&& 31).toUInt32).toInt32) &&& (3 : Int32))), .unset, .unset] [])) _
            refine XS.iload X180.here hx rfl (hb hby at_93) rfl ?_
            show Steps p.tables e below (T180.setTop (mkF m 95 #[.val (.int k0), .val (.int k1), .val (.int k2), .val (.int k3), .val (.int k4), .val (.ref b64), .val (.int k0), .val (.int k3), .val (.ref b175), .val (.int (((k4.toUInt32 >>> ((2 : Int32) &&& 31).toUInt32).toInt32) &&& (3 : Int32))), .unset, .unset] [(.int (((k4.toUInt32 >>> ((2 : Int32) &&& 31).toUInt32).toInt32) &&& (3 : Int32)))])) _
            refine XS.iconst X180.here hx rfl (hb hby at_95) ?_
            show Steps p.tables e below (T180.setTop (mkF m 96 #[.val (.int k0), .val (.int k1), .val (.int k2), .val (.int k3), .val (.int k4), .val (.ref b64), .val (.int k0), .val (.int k3), .val (.ref b175), .val (.int (((k4.toUInt32 >>> ((2 : Int32) &&& 31).toUInt32).toInt32) &&& (3 : Int32))), .unset, .unset] [(.int (3 : Int32)), (.int (((k4.toUInt32 >>> ((2 : Int32) &&& 31).toUInt32).toInt32) &&& (3 : Int32)))])) _
            exact k_)
          by_cases hc96_203 : (((k4.toUInt32 >>> ((2 : Int32) &&& 31).toUInt32).toInt32) &&& (3 : Int32)) = (3 : Int32)
          · obtain ⟨cq204, kq204, q204a, q204b, q204c⟩ := isOf hZ rfl c182
            obtain ⟨v204, _, ⟨T204, L204, k204, n204⟩, -, X204, ⟨Lc204, hQ204, l204, y204, z204⟩, st204⟩ := X180.virtualBack hx (y := (⟨"com/example/fissure/fissure/games/breakable/Cube", "equals", "(Ljava/lang/Object;)Z"⟩ : MethodName)) (z := (⟨"com/example/fissure/fissure/games/breakable/Cube", "equals", "(Ljava/lang/Object;)Z"⟩ : MethodName)) hown (mvT hZ (hw _ (List.mem_of_getElem? (i := 15) rfl))) (mvT hZ (hw _ (List.mem_of_getElem? (i := 16) rfl))) (notFace_of_selects (args := #[]) (mvT hZ (hw _ (List.mem_of_getElem? (i := 18) rfl)))) (mvT hZ (hw _ (List.mem_of_getElem? (i := 18) rfl))) (mvT hZ (hw _ (List.mem_of_getElem? (i := 17) rfl))) (by decide) (backOf (W := 0) (rm_eqC l Z a0 hw [] b64 b64 k0 k1 k0 k1 T180.heap n0 Zs181 c182 c183 c184 c183 c184) hZ (hw _ (List.mem_of_getElem? (i := 19) rfl)) (hw _ (List.mem_of_getElem? (i := 2) rfl)) (by decide) (by decide)) q204a q204c (g := (mkF m 136 #[.val (.int k0), .val (.int k1), .val (.int k2), .val (.int k3), .val (.int k4), .val (.ref b64), .val (.int k0), .val (.int k3), .val (.ref b175), .val (.int (((k4.toUInt32 >>> ((2 : Int32) &&& 31).toUInt32).toInt32) &&& (3 : Int32))), .val (.ref b64), .val (.int (1 : Int32))] [(.ref b64), (.ref b64)])) rfl (by rw [hml]; rfl) (Steps.refl _) (argsL := [(.ref b64)]) (rest := []) (lenOf pd_3 rfl) rfl (by show 2 * 0 + _ ≤ _; exact Nat.le_of_eq rfl) (hb hby at_136) (fun _ _ => ⟨rfl, rfl, (by decide : 2 + 0 ≤ _), (by decide : 6 + 0 ≤ _)⟩)
            dsimp only [Pt.U, Pt.locs, Pt.cells, Pt.slots] at X204 l204 y204 z204 st204 hQ204
            subst l204 y204 z204
            obtain ⟨hv204, N204q, e204⟩ := hQ204
            have N204 := Fr.app N180 N204q
            have hw204 : v204 = some (.int (1 : Int32)) := hv204.trans (congrArg (fun z => some (Value.int z)) (own_self _ _))
            subst hw204
            have pre205 : ∀ t_, Steps p.tables e below (T204.setTop (mkF m 166 #[.val (.int k0), .val (.int k1), .val (.int k2), .val (.int k3), .val (.int k4), .val (.ref b64), .val (.int k0), .val (.int k3), .val (.ref b175), .val (.int (((k4.toUInt32 >>> ((2 : Int32) &&& 31).toUInt32).toInt32) &&& (3 : Int32))), .val (.ref b64), .val (.int (1 : Int32))] [(.int (1 : Int32))])) t_ → Steps p.tables e below (s₁.setTop (entryFrame m #[(.int k0), (.int k1), (.int k2), (.int k3), (.int k4)] maxLocals)) t_ := fun t_ k_ => pre202 t_ (by
              show Steps p.tables e below (T180.setTop (mkF m 96 #[.val (.int k0), .val (.int k1), .val (.int k2), .val (.int k3), .val (.int k4), .val (.ref b64), .val (.int k0), .val (.int k3), .val (.ref b175), .val (.int (((k4.toUInt32 >>> ((2 : Int32) &&& 31).toUInt32).toInt32) &&& (3 : Int32))), .unset, .unset] [(.int (3 : Int32)), (.int (((k4.toUInt32 >>> ((2 : Int32) &&& 31).toUInt32).toInt32) &&& (3 : Int32)))])) _
              refine XS.icmpNo X180.here hx rfl (hb hby at_96) rfl (teq hc96_203).2 ?_
              show Steps p.tables e below (T180.setTop (mkF m 99 #[.val (.int k0), .val (.int k1), .val (.int k2), .val (.int k3), .val (.int k4), .val (.ref b64), .val (.int k0), .val (.int k3), .val (.ref b175), .val (.int (((k4.toUInt32 >>> ((2 : Int32) &&& 31).toUInt32).toInt32) &&& (3 : Int32))), .unset, .unset] [])) _
              refine XS.aload X180.here hx rfl (hb hby at_99) rfl rfl ?_
              show Steps p.tables e below (T180.setTop (mkF m 101 #[.val (.int k0), .val (.int k1), .val (.int k2), .val (.int k3), .val (.int k4), .val (.ref b64), .val (.int k0), .val (.int k3), .val (.ref b175), .val (.int (((k4.toUInt32 >>> ((2 : Int32) &&& 31).toUInt32).toInt32) &&& (3 : Int32))), .unset, .unset] [(.ref b64)])) _
              refine XS.astore X180.here hx rfl (hb hby at_101) rfl rfl (l' := #[.val (.int k0), .val (.int k1), .val (.int k2), .val (.int k3), .val (.int k4), .val (.ref b64), .val (.int k0), .val (.int k3), .val (.ref b175), .val (.int (((k4.toUInt32 >>> ((2 : Int32) &&& 31).toUInt32).toInt32) &&& (3 : Int32))), .val (.ref b64), .unset]) rfl ?_
              show Steps p.tables e below (T180.setTop (mkF m 103 #[.val (.int k0), .val (.int k1), .val (.int k2), .val (.int k3), .val (.int k4), .val (.ref b64), .val (.int k0), .val (.int k3), .val (.ref b175), .val (.int (((k4.toUInt32 >>> ((2 : Int32) &&& 31).toUInt32).toInt32) &&& (3 : Int32))), .val (.ref b64), .unset] [])) _
              refine XS.iconst X180.here hx rfl (hb hby at_103) ?_
              show Steps p.tables e below (T180.setTop (mkF m 104 #[.val (.int k0), .val (.int k1), .val (.int k2), .val (.int k3), .val (.int k4), .val (.ref b64), .val (.int k0), .val (.int k3), .val (.ref b175), .val (.int (((k4.toUInt32 >>> ((2 : Int32) &&& 31).toUInt32).toInt32) &&& (3 : Int32))), .val (.ref b64), .unset] [(.int (1 : Int32))])) _
              refine XS.istore X180.here hx rfl (hb hby at_104) rfl (l' := #[.val (.int k0), .val (.int k1), .val (.int k2), .val (.int k3), .val (.int k4), .val (.ref b64), .val (.int k0), .val (.int k3), .val (.ref b175), .val (.int (((k4.toUInt32 >>> ((2 : Int32) &&& 31).toUInt32).toInt32) &&& (3 : Int32))), .val (.ref b64), .val (.int (1 : Int32))]) rfl ?_
              show Steps p.tables e below (T180.setTop (mkF m 106 #[.val (.int k0), .val (.int k1), .val (.int k2), .val (.int k3), .val (.int k4), .val (.ref b64), .val (.int k0), .val (.int k3), .val (.ref b175), .val (.int (((k4.toUInt32 >>> ((2 : Int32) &&& 31).toUInt32).toInt32) &&& (3 : Int32))), .val (.ref b64), .val (.int (1 : Int32))] [])) _
              refine XS.goto X180.here hx rfl (pc0 := 106) (pc' := 132) rfl (hb hby at_106) (by decide) (by decide) ?_
              show Steps p.tables e below (T180.setTop (mkF m 132 #[.val (.int k0), .val (.int k1), .val (.int k2), .val (.int k3), .val (.int k4), .val (.ref b64), .val (.int k0), .val (.int k3), .val (.ref b175), .val (.int (((k4.toUInt32 >>> ((2 : Int32) &&& 31).toUInt32).toInt32) &&& (3 : Int32))), .val (.ref b64), .val (.int (1 : Int32))] [])) _
              refine XS.aload X180.here hx rfl (hb hby at_132) rfl rfl ?_
              show Steps p.tables e below (T180.setTop (mkF m 134 #[.val (.int k0), .val (.int k1), .val (.int k2), .val (.int k3), .val (.int k4), .val (.ref b64), .val (.int k0), .val (.int k3), .val (.ref b175), .val (.int (((k4.toUInt32 >>> ((2 : Int32) &&& 31).toUInt32).toInt32) &&& (3 : Int32))), .val (.ref b64), .val (.int (1 : Int32))] [(.ref b64)])) _
              refine XS.aload X180.here hx rfl (hb hby at_134) rfl rfl ?_
              show Steps p.tables e below (T180.setTop (mkF m 136 #[.val (.int k0), .val (.int k1), .val (.int k2), .val (.int k3), .val (.int k4), .val (.ref b64), .val (.int k0), .val (.int k3), .val (.ref b175), .val (.int (((k4.toUInt32 >>> ((2 : Int32) &&& 31).toUInt32).toInt32) &&& (3 : Int32))), .val (.ref b64), .val (.int (1 : Int32))] [(.ref b64), (.ref b64)])) _
              refine st204.trans ?_
              show Steps p.tables e below (T204.setTop (mkF m 139 #[.val (.int k0), .val (.int k1), .val (.int k2), .val (.int k3), .val (.int k4), .val (.ref b64), .val (.int k0), .val (.int k3), .val (.ref b175), .val (.int (((k4.toUInt32 >>> ((2 : Int32) &&& 31).toUInt32).toInt32) &&& (3 : Int32))), .val (.ref b64), .val (.int (1 : Int32))] [(.int (1 : Int32))])) _
              refine XS.iload X204.here hx rfl (hb hby at_139) rfl ?_
              show Steps p.tables e below (T204.setTop (mkF m 141 #[.val (.int k0), .val (.int k1), .val (.int k2), .val (.int k3), .val (.int k4), .val (.ref b64), .val (.int k0), .val (.int k3), .val (.ref b175), .val (.int (((k4.toUInt32 >>> ((2 : Int32) &&& 31).toUInt32).toInt32) &&& (3 : Int32))), .val (.ref b64), .val (.int (1 : Int32))] [(.int (1 : Int32)), (.int (1 : Int32))])) _
              refine XS.icmpYes X204.here hx rfl (pc0 := 141) (pc' := 146) rfl (hb hby at_141) rfl (teq (rfl : (1 : Int32) = (1 : Int32))).1 (by decide) (by decide) ?_
              show Steps p.tables e below (T204.setTop (mkF m 146 #[.val (.int k0), .val (.int k1), .val (.int k2), .val (.int k3), .val (.int k4), .val (.ref b64), .val (.int k0), .val (.int k3), .val (.ref b175), .val (.int (((k4.toUInt32 >>> ((2 : Int32) &&& 31).toUInt32).toInt32) &&& (3 : Int32))), .val (.ref b64), .val (.int (1 : Int32))] [])) _
              refine XS.iload X204.here hx rfl (hb hby at_146) rfl ?_
              show Steps p.tables e below (T204.setTop (mkF m 148 #[.val (.int k0), .val (.int k1), .val (.int k2), .val (.int k3), .val (.int k4), .val (.ref b64), .val (.int k0), .val (.int k3), .val (.ref b175), .val (.int (((k4.toUInt32 >>> ((2 : Int32) &&& 31).toUInt32).toInt32) &&& (3 : Int32))), .val (.ref b64), .val (.int (1 : Int32))] [(.int (((k4.toUInt32 >>> ((2 : Int32) &&& 31).toUInt32).toInt32) &&& (3 : Int32)))])) _
              refine XS.ifYes X204.here hx rfl (pc0 := 148) (pc' := 165) rfl (hb hby at_148) rfl ((if0 _ _).trans (feq (fun q_ => absurd (hc96_203.symm.trans q_) (by decide))).2) (by decide) (by decide) ?_
              show Steps p.tables e below (T204.setTop (mkF m 165 #[.val (.int k0), .val (.int k1), .val (.int k2), .val (.int k3), .val (.int k4), .val (.ref b64), .val (.int k0), .val (.int k3), .val (.ref b175), .val (.int (((k4.toUInt32 >>> ((2 : Int32) &&& 31).toUInt32).toInt32) &&& (3 : Int32))), .val (.ref b64), .val (.int (1 : Int32))] [])) _
              refine XS.iconst X204.here hx rfl (hb hby at_165) ?_
              show Steps p.tables e below (T204.setTop (mkF m 166 #[.val (.int k0), .val (.int k1), .val (.int k2), .val (.int k3), .val (.int k4), .val (.ref b64), .val (.int k0), .val (.int k3), .val (.ref b175), .val (.int (((k4.toUInt32 >>> ((2 : Int32) &&& 31).toUInt32).toInt32) &&& (3 : Int32))), .val (.ref b64), .val (.int (1 : Int32))] [(.int (1 : Int32))])) _
              exact k_)
            obtain ⟨fs, hr, hrun, hended, hW, hsame⟩ := X204.leave (v := some (.int (1 : Int32))) (fun h => by rw [Bd.returns] at h; cases h)
            refine ⟨_, _, pre205 _ ?_, hrun, hended, _, _, rfl, ?_, ⟨_, rfl⟩, hW, hsame.mono (by decide) (by decide)⟩
            · show Steps p.tables e below (T204.setTop (mkF m 166 #[.val (.int k0), .val (.int k1), .val (.int k2), .val (.int k3), .val (.int k4), .val (.ref b64), .val (.int k0), .val (.int k3), .val (.ref b175), .val (.int (((k4.toUInt32 >>> ((2 : Int32) &&& 31).toUInt32).toInt32) &&& (3 : Int32))), .val (.ref b64), .val (.int (1 : Int32))] [(.int (1 : Int32))])) _
              exact retN X204 hx (t := .boolean) Bd.returns (by simp) (hb hby at_166) hr
            · show Q_0 Z k0 k1 k2 k3 k4 w_cache cl_cache bx h0 n0 _ T204.heap _
              rw [e204]
              exact ⟨rfl, N204⟩
          · have pre206 : ∀ t_, Steps p.tables e below (T180.setTop (mkF m 122 #[.val (.int k0), .val (.int k1), .val (.int k2), .val (.int k3), .val (.int k4), .val (.ref b64), .val (.int k0), .val (.int k3), .val (.ref b175), .val (.int (((k4.toUInt32 >>> ((2 : Int32) &&& 31).toUInt32).toInt32) &&& (3 : Int32))), .val (.ref b175), .unset] [(.int k3), (.int k1)])) t_ → Steps p.tables e below (s₁.setTop (entryFrame m #[(.int k0), (.int k1), (.int k2), (.int k3), (.int k4)] maxLocals)) t_ := fun t_ k_ => pre202 t_ (by
              show Steps p.tables e below (T180.setTop (mkF m 96 #[.val (.int k0), .val (.int k1), .val (.int k2), .val (.int k3), .val (.int k4), .val (.ref b64), .val (.int k0), .val (.int k3), .val (.ref b175), .val (.int (((k4.toUInt32 >>> ((2 : Int32) &&& 31).toUInt32).toInt32) &&& (3 : Int32))), .unset, .unset] [(.int (3 : Int32)), (.int (((k4.toUInt32 >>> ((2 : Int32) &&& 31).toUInt32).toInt32) &&& (3 : Int32)))])) _
              refine XS.icmpYes X180.here hx rfl (pc0 := 96) (pc' := 109) rfl (hb hby at_96) rfl (feq hc96_203).2 (by decide) (by decide) ?_
              show Steps p.tables e below (T180.setTop (mkF m 109 #[.val (.int k0), .val (.int k1), .val (.int k2), .val (.int k3), .val (.int k4), .val (.ref b64), .val (.int k0), .val (.int k3), .val (.ref b175), .val (.int (((k4.toUInt32 >>> ((2 : Int32) &&& 31).toUInt32).toInt32) &&& (3 : Int32))), .unset, .unset] [])) _
              refine XS.aload X180.here hx rfl (hb hby at_109) rfl rfl ?_
              show Steps p.tables e below (T180.setTop (mkF m 111 #[.val (.int k0), .val (.int k1), .val (.int k2), .val (.int k3), .val (.int k4), .val (.ref b64), .val (.int k0), .val (.int k3), .val (.ref b175), .val (.int (((k4.toUInt32 >>> ((2 : Int32) &&& 31).toUInt32).toInt32) &&& (3 : Int32))), .unset, .unset] [(.ref b175)])) _
              refine XS.astore X180.here hx rfl (hb hby at_111) rfl rfl (l' := #[.val (.int k0), .val (.int k1), .val (.int k2), .val (.int k3), .val (.int k4), .val (.ref b64), .val (.int k0), .val (.int k3), .val (.ref b175), .val (.int (((k4.toUInt32 >>> ((2 : Int32) &&& 31).toUInt32).toInt32) &&& (3 : Int32))), .val (.ref b175), .unset]) rfl ?_
              show Steps p.tables e below (T180.setTop (mkF m 113 #[.val (.int k0), .val (.int k1), .val (.int k2), .val (.int k3), .val (.int k4), .val (.ref b64), .val (.int k0), .val (.int k3), .val (.ref b175), .val (.int (((k4.toUInt32 >>> ((2 : Int32) &&& 31).toUInt32).toInt32) &&& (3 : Int32))), .val (.ref b175), .unset] [])) _
              refine XS.iloadN X180.here hx rfl (hb hby at_113) rfl ?_
              show Steps p.tables e below (T180.setTop (mkF m 114 #[.val (.int k0), .val (.int k1), .val (.int k2), .val (.int k3), .val (.int k4), .val (.ref b64), .val (.int k0), .val (.int k3), .val (.ref b175), .val (.int (((k4.toUInt32 >>> ((2 : Int32) &&& 31).toUInt32).toInt32) &&& (3 : Int32))), .val (.ref b175), .unset] [(.int k0)])) _
              refine XS.iload X180.here hx rfl (hb hby at_114) rfl ?_
              show Steps p.tables e below (T180.setTop (mkF m 116 #[.val (.int k0), .val (.int k1), .val (.int k2), .val (.int k3), .val (.int k4), .val (.ref b64), .val (.int k0), .val (.int k3), .val (.ref b175), .val (.int (((k4.toUInt32 >>> ((2 : Int32) &&& 31).toUInt32).toInt32) &&& (3 : Int32))), .val (.ref b175), .unset] [(.int k0), (.int k0)])) _
              refine XS.icmpNo X180.here hx rfl (hb hby at_116) rfl (teq (rfl : k0 = k0)).2 ?_
              show Steps p.tables e below (T180.setTop (mkF m 119 #[.val (.int k0), .val (.int k1), .val (.int k2), .val (.int k3), .val (.int k4), .val (.ref b64), .val (.int k0), .val (.int k3), .val (.ref b175), .val (.int (((k4.toUInt32 >>> ((2 : Int32) &&& 31).toUInt32).toInt32) &&& (3 : Int32))), .val (.ref b175), .unset] [])) _
              refine XS.iloadN X180.here hx rfl (hb hby at_119) rfl ?_
              show Steps p.tables e below (T180.setTop (mkF m 120 #[.val (.int k0), .val (.int k1), .val (.int k2), .val (.int k3), .val (.int k4), .val (.ref b64), .val (.int k0), .val (.int k3), .val (.ref b175), .val (.int (((k4.toUInt32 >>> ((2 : Int32) &&& 31).toUInt32).toInt32) &&& (3 : Int32))), .val (.ref b175), .unset] [(.int k1)])) _
              refine XS.iload X180.here hx rfl (hb hby at_120) rfl ?_
              show Steps p.tables e below (T180.setTop (mkF m 122 #[.val (.int k0), .val (.int k1), .val (.int k2), .val (.int k3), .val (.int k4), .val (.ref b64), .val (.int k0), .val (.int k3), .val (.ref b175), .val (.int (((k4.toUInt32 >>> ((2 : Int32) &&& 31).toUInt32).toInt32) &&& (3 : Int32))), .val (.ref b175), .unset] [(.int k3), (.int k1)])) _
              exact k_)
            by_cases hc122_207 : k1 = k3
            · obtain ⟨cq208, kq208, q208a, q208b, q208c⟩ := isOf hZ rfl c182
              obtain ⟨v208, _, ⟨T208, L208, k208, n208⟩, -, X208, ⟨Lc208, hQ208, l208, y208, z208⟩, st208⟩ := X180.virtualBack hx (y := (⟨"com/example/fissure/fissure/games/breakable/Cube", "equals", "(Ljava/lang/Object;)Z"⟩ : MethodName)) (z := (⟨"com/example/fissure/fissure/games/breakable/Cube", "equals", "(Ljava/lang/Object;)Z"⟩ : MethodName)) hown (mvT hZ (hw _ (List.mem_of_getElem? (i := 15) rfl))) (mvT hZ (hw _ (List.mem_of_getElem? (i := 16) rfl))) (notFace_of_selects (args := #[]) (mvT hZ (hw _ (List.mem_of_getElem? (i := 18) rfl)))) (mvT hZ (hw _ (List.mem_of_getElem? (i := 18) rfl))) (mvT hZ (hw _ (List.mem_of_getElem? (i := 17) rfl))) (by decide) (backOf (W := 0) (rm_eqC l Z a0 hw [] b64 b175 k0 k1 k0 k3 T180.heap n0 Zs181 E180x c183 c184 F180_x F180_z) hZ (hw _ (List.mem_of_getElem? (i := 19) rfl)) (hw _ (List.mem_of_getElem? (i := 2) rfl)) (by decide) (by decide)) q208a q208c (g := (mkF m 136 #[.val (.int k0), .val (.int k1), .val (.int k2), .val (.int k3), .val (.int k4), .val (.ref b64), .val (.int k0), .val (.int k3), .val (.ref b175), .val (.int (((k4.toUInt32 >>> ((2 : Int32) &&& 31).toUInt32).toInt32) &&& (3 : Int32))), .val (.ref b175), .val (.int (1 : Int32))] [(.ref b175), (.ref b64)])) rfl (by rw [hml]; rfl) (Steps.refl _) (argsL := [(.ref b175)]) (rest := []) (lenOf pd_3 rfl) rfl (by show 2 * 0 + _ ≤ _; exact Nat.le_of_eq rfl) (hb hby at_136) (fun _ _ => ⟨rfl, rfl, (by decide : 2 + 0 ≤ _), (by decide : 6 + 0 ≤ _)⟩)
              dsimp only [Pt.U, Pt.locs, Pt.cells, Pt.slots] at X208 l208 y208 z208 st208 hQ208
              subst l208 y208 z208
              obtain ⟨hv208, N208q, e208⟩ := hQ208
              have N208 := Fr.app N180 N208q
              have hw208 : v208 = some (.int (1 : Int32)) := hv208.trans (congrArg (fun z => some (Value.int z)) (own_yes rfl hc122_207))
              subst hw208
              have pre209 : ∀ t_, Steps p.tables e below (T208.setTop (mkF m 148 #[.val (.int k0), .val (.int k1), .val (.int k2), .val (.int k3), .val (.int k4), .val (.ref b64), .val (.int k0), .val (.int k3), .val (.ref b175), .val (.int (((k4.toUInt32 >>> ((2 : Int32) &&& 31).toUInt32).toInt32) &&& (3 : Int32))), .val (.ref b175), .val (.int (1 : Int32))] [(.int (((k4.toUInt32 >>> ((2 : Int32) &&& 31).toUInt32).toInt32) &&& (3 : Int32)))])) t_ → Steps p.tables e below (s₁.setTop (entryFrame m #[(.int k0), (.int k1), (.int k2), (.int k3), (.int k4)] maxLocals)) t_ := fun t_ k_ => pre206 t_ (by
                show Steps p.tables e below (T180.setTop (mkF m 122 #[.val (.int k0), .val (.int k1), .val (.int k2), .val (.int k3), .val (.int k4), .val (.ref b64), .val (.int k0), .val (.int k3), .val (.ref b175), .val (.int (((k4.toUInt32 >>> ((2 : Int32) &&& 31).toUInt32).toInt32) &&& (3 : Int32))), .val (.ref b175), .unset] [(.int k3), (.int k1)])) _
                refine XS.icmpNo X180.here hx rfl (hb hby at_122) rfl (teq hc122_207).2 ?_
                show Steps p.tables e below (T180.setTop (mkF m 125 #[.val (.int k0), .val (.int k1), .val (.int k2), .val (.int k3), .val (.int k4), .val (.ref b64), .val (.int k0), .val (.int k3), .val (.ref b175), .val (.int (((k4.toUInt32 >>> ((2 : Int32) &&& 31).toUInt32).toInt32) &&& (3 : Int32))), .val (.ref b175), .unset] [])) _
                refine XS.iconst X180.here hx rfl (hb hby at_125) ?_
                show Steps p.tables e below (T180.setTop (mkF m 126 #[.val (.int k0), .val (.int k1), .val (.int k2), .val (.int k3), .val (.int k4), .val (.ref b64), .val (.int k0), .val (.int k3), .val (.ref b175), .val (.int (((k4.toUInt32 >>> ((2 : Int32) &&& 31).toUInt32).toInt32) &&& (3 : Int32))), .val (.ref b175), .unset] [(.int (1 : Int32))])) _
                refine XS.goto X180.here hx rfl (pc0 := 126) (pc' := 130) rfl (hb hby at_126) (by decide) (by decide) ?_
                show Steps p.tables e below (T180.setTop (mkF m 130 #[.val (.int k0), .val (.int k1), .val (.int k2), .val (.int k3), .val (.int k4), .val (.ref b64), .val (.int k0), .val (.int k3), .val (.ref b175), .val (.int (((k4.toUInt32 >>> ((2 : Int32) &&& 31).toUInt32).toInt32) &&& (3 : Int32))), .val (.ref b175), .unset] [(.int (1 : Int32))])) _
                refine XS.istore X180.here hx rfl (hb hby at_130) rfl (l' := #[.val (.int k0), .val (.int k1), .val (.int k2), .val (.int k3), .val (.int k4), .val (.ref b64), .val (.int k0), .val (.int k3), .val (.ref b175), .val (.int (((k4.toUInt32 >>> ((2 : Int32) &&& 31).toUInt32).toInt32) &&& (3 : Int32))), .val (.ref b175), .val (.int (1 : Int32))]) rfl ?_
                show Steps p.tables e below (T180.setTop (mkF m 132 #[.val (.int k0), .val (.int k1), .val (.int k2), .val (.int k3), .val (.int k4), .val (.ref b64), .val (.int k0), .val (.int k3), .val (.ref b175), .val (.int (((k4.toUInt32 >>> ((2 : Int32) &&& 31).toUInt32).toInt32) &&& (3 : Int32))), .val (.ref b175), .val (.int (1 : Int32))] [])) _
                refine XS.aload X180.here hx rfl (hb hby at_132) rfl rfl ?_
                show Steps p.tables e below (T180.setTop (mkF m 134 #[.val (.int k0), .val (.int k1), .val (.int k2), .val (.int k3), .val (.int k4), .val (.ref b64), .val (.int k0), .val (.int k3), .val (.ref b175), .val (.int (((k4.toUInt32 >>> ((2 : Int32) &&& 31).toUInt32).toInt32) &&& (3 : Int32))), .val (.ref b175), .val (.int (1 : Int32))] [(.ref b64)])) _
                refine XS.aload X180.here hx rfl (hb hby at_134) rfl rfl ?_
                show Steps p.tables e below (T180.setTop (mkF m 136 #[.val (.int k0), .val (.int k1), .val (.int k2), .val (.int k3), .val (.int k4), .val (.ref b64), .val (.int k0), .val (.int k3), .val (.ref b175), .val (.int (((k4.toUInt32 >>> ((2 : Int32) &&& 31).toUInt32).toInt32) &&& (3 : Int32))), .val (.ref b175), .val (.int (1 : Int32))] [(.ref b175), (.ref b64)])) _
                refine st208.trans ?_
                show Steps p.tables e below (T208.setTop (mkF m 139 #[.val (.int k0), .val (.int k1), .val (.int k2), .val (.int k3), .val (.int k4), .val (.ref b64), .val (.int k0), .val (.int k3), .val (.ref b175), .val (.int (((k4.toUInt32 >>> ((2 : Int32) &&& 31).toUInt32).toInt32) &&& (3 : Int32))), .val (.ref b175), .val (.int (1 : Int32))] [(.int (1 : Int32))])) _
                refine XS.iload X208.here hx rfl (hb hby at_139) rfl ?_
                show Steps p.tables e below (T208.setTop (mkF m 141 #[.val (.int k0), .val (.int k1), .val (.int k2), .val (.int k3), .val (.int k4), .val (.ref b64), .val (.int k0), .val (.int k3), .val (.ref b175), .val (.int (((k4.toUInt32 >>> ((2 : Int32) &&& 31).toUInt32).toInt32) &&& (3 : Int32))), .val (.ref b175), .val (.int (1 : Int32))] [(.int (1 : Int32)), (.int (1 : Int32))])) _
                refine XS.icmpYes X208.here hx rfl (pc0 := 141) (pc' := 146) rfl (hb hby at_141) rfl (teq (rfl : (1 : Int32) = (1 : Int32))).1 (by decide) (by decide) ?_
                show Steps p.tables e below (T208.setTop (mkF m 146 #[.val (.int k0), .val (.int k1), .val (.int k2), .val (.int k3), .val (.int k4), .val (.ref b64), .val (.int k0), .val (.int k3), .val (.ref b175), .val (.int (((k4.toUInt32 >>> ((2 : Int32) &&& 31).toUInt32).toInt32) &&& (3 : Int32))), .val (.ref b175), .val (.int (1 : Int32))] [])) _
                refine XS.iload X208.here hx rfl (hb hby at_146) rfl ?_
                show Steps p.tables e below (T208.setTop (mkF m 148 #[.val (.int k0), .val (.int k1), .val (.int k2), .val (.int k3), .val (.int k4), .val (.ref b64), .val (.int k0), .val (.int k3), .val (.ref b175), .val (.int (((k4.toUInt32 >>> ((2 : Int32) &&& 31).toUInt32).toInt32) &&& (3 : Int32))), .val (.ref b175), .val (.int (1 : Int32))] [(.int (((k4.toUInt32 >>> ((2 : Int32) &&& 31).toUInt32).toInt32) &&& (3 : Int32)))])) _
                exact k_)
              by_cases hc148_210 : (((k4.toUInt32 >>> ((2 : Int32) &&& 31).toUInt32).toInt32) &&& (3 : Int32)) = (0 : Int32)
              · obtain ⟨cq211, kq211, q211a, q211b, q211c⟩ := isOf hZ e208 E180x
                obtain ⟨v211, _, ⟨T211, L211, k211, n211⟩, -, X211, ⟨Lc211, hQ211, l211, y211, z211⟩, st211⟩ := X208.virtualBack hx (y := (⟨"com/example/fissure/fissure/games/breakable/Cube", "equals", "(Ljava/lang/Object;)Z"⟩ : MethodName)) (z := (⟨"com/example/fissure/fissure/games/breakable/Cube", "equals", "(Ljava/lang/Object;)Z"⟩ : MethodName)) hown (mvT hZ (hw _ (List.mem_of_getElem? (i := 15) rfl))) (mvT hZ (hw _ (List.mem_of_getElem? (i := 16) rfl))) (notFace_of_selects (args := #[]) (mvT hZ (hw _ (List.mem_of_getElem? (i := 18) rfl)))) (mvT hZ (hw _ (List.mem_of_getElem? (i := 18) rfl))) (mvT hZ (hw _ (List.mem_of_getElem? (i := 17) rfl))) (by decide) (backOf (W := 0) (rm_eqC l Z a0 hw [] b175 b64 k0 k3 k0 k1 T180.heap n0 Zs181 c182 F180_x F180_z c183 c184) hZ (hw _ (List.mem_of_getElem? (i := 19) rfl)) (hw _ (List.mem_of_getElem? (i := 2) rfl)) (by decide) (by decide)) q211a q211c (g := (mkF m 155 #[.val (.int k0), .val (.int k1), .val (.int k2), .val (.int k3), .val (.int k4), .val (.ref b64), .val (.int k0), .val (.int k3), .val (.ref b175), .val (.int (((k4.toUInt32 >>> ((2 : Int32) &&& 31).toUInt32).toInt32) &&& (3 : Int32))), .val (.ref b175), .val (.int (1 : Int32))] [(.ref b64), (.ref b175)])) rfl (by rw [hml]; rfl) (Steps.refl _) (argsL := [(.ref b64)]) (rest := []) (lenOf pd_3 rfl) rfl (by show 2 * 0 + _ ≤ _; exact Nat.le_of_eq rfl) (hb hby at_155) (fun _ _ => ⟨rfl, e208, (by decide : 2 + 0 ≤ _), (by decide : 6 + 0 ≤ _)⟩)
                dsimp only [Pt.U, Pt.locs, Pt.cells, Pt.slots] at X211 l211 y211 z211 st211 hQ211
                subst l211 y211 z211
                obtain ⟨hv211, N211q, e211⟩ := hQ211
                have N211 := Fr.app N208 N211q
                have hw211 : v211 = some (.int (1 : Int32)) := hv211.trans (congrArg (fun z => some (Value.int z)) (own_yes rfl hc122_207.symm))
                subst hw211
                have pre212 : ∀ t_, Steps p.tables e below (T211.setTop (mkF m 166 #[.val (.int k0), .val (.int k1), .val (.int k2), .val (.int k3), .val (.int k4), .val (.ref b64), .val (.int k0), .val (.int k3), .val (.ref b175), .val (.int (((k4.toUInt32 >>> ((2 : Int32) &&& 31).toUInt32).toInt32) &&& (3 : Int32))), .val (.ref b175), .val (.int (1 : Int32))] [(.int (1 : Int32))])) t_ → Steps p.tables e below (s₁.setTop (entryFrame m #[(.int k0), (.int k1), (.int k2), (.int k3), (.int k4)] maxLocals)) t_ := fun t_ k_ => pre209 t_ (by
                  show Steps p.tables e below (T208.setTop (mkF m 148 #[.val (.int k0), .val (.int k1), .val (.int k2), .val (.int k3), .val (.int k4), .val (.ref b64), .val (.int k0), .val (.int k3), .val (.ref b175), .val (.int (((k4.toUInt32 >>> ((2 : Int32) &&& 31).toUInt32).toInt32) &&& (3 : Int32))), .val (.ref b175), .val (.int (1 : Int32))] [(.int (((k4.toUInt32 >>> ((2 : Int32) &&& 31).toUInt32).toInt32) &&& (3 : Int32)))])) _
                  refine XS.ifNo X208.here hx rfl (hb hby at_148) rfl ((if0 _ _).trans (teq hc148_210).2) ?_
                  show Steps p.tables e below (T208.setTop (mkF m 151 #[.val (.int k0), .val (.int k1), .val (.int k2), .val (.int k3), .val (.int k4), .val (.ref b64), .val (.int k0), .val (.int k3), .val (.ref b175), .val (.int (((k4.toUInt32 >>> ((2 : Int32) &&& 31).toUInt32).toInt32) &&& (3 : Int32))), .val (.ref b175), .val (.int (1 : Int32))] [])) _
                  refine XS.aload X208.here hx rfl (hb hby at_151) rfl rfl ?_
                  show Steps p.tables e below (T208.setTop (mkF m 153 #[.val (.int k0), .val (.int k1), .val (.int k2), .val (.int k3), .val (.int k4), .val (.ref b64), .val (.int k0), .val (.int k3), .val (.ref b175), .val (.int (((k4.toUInt32 >>> ((2 : Int32) &&& 31).toUInt32).toInt32) &&& (3 : Int32))), .val (.ref b175), .val (.int (1 : Int32))] [(.ref b175)])) _
                  refine XS.aload X208.here hx rfl (hb hby at_153) rfl rfl ?_
                  show Steps p.tables e below (T208.setTop (mkF m 155 #[.val (.int k0), .val (.int k1), .val (.int k2), .val (.int k3), .val (.int k4), .val (.ref b64), .val (.int k0), .val (.int k3), .val (.ref b175), .val (.int (((k4.toUInt32 >>> ((2 : Int32) &&& 31).toUInt32).toInt32) &&& (3 : Int32))), .val (.ref b175), .val (.int (1 : Int32))] [(.ref b64), (.ref b175)])) _
                  refine st211.trans ?_
                  show Steps p.tables e below (T211.setTop (mkF m 158 #[.val (.int k0), .val (.int k1), .val (.int k2), .val (.int k3), .val (.int k4), .val (.ref b64), .val (.int k0), .val (.int k3), .val (.ref b175), .val (.int (((k4.toUInt32 >>> ((2 : Int32) &&& 31).toUInt32).toInt32) &&& (3 : Int32))), .val (.ref b175), .val (.int (1 : Int32))] [(.int (1 : Int32))])) _
                  refine XS.iload X211.here hx rfl (hb hby at_158) rfl ?_
                  show Steps p.tables e below (T211.setTop (mkF m 160 #[.val (.int k0), .val (.int k1), .val (.int k2), .val (.int k3), .val (.int k4), .val (.ref b64), .val (.int k0), .val (.int k3), .val (.ref b175), .val (.int (((k4.toUInt32 >>> ((2 : Int32) &&& 31).toUInt32).toInt32) &&& (3 : Int32))), .val (.ref b175), .val (.int (1 : Int32))] [(.int (1 : Int32)), (.int (1 : Int32))])) _
                  refine XS.icmpYes X211.here hx rfl (pc0 := 160) (pc' := 165) rfl (hb hby at_160) rfl (teq (rfl : (1 : Int32) = (1 : Int32))).1 (by decide) (by decide) ?_
                  show Steps p.tables e below (T211.setTop (mkF m 165 #[.val (.int k0), .val (.int k1), .val (.int k2), .val (.int k3), .val (.int k4), .val (.ref b64), .val (.int k0), .val (.int k3), .val (.ref b175), .val (.int (((k4.toUInt32 >>> ((2 : Int32) &&& 31).toUInt32).toInt32) &&& (3 : Int32))), .val (.ref b175), .val (.int (1 : Int32))] [])) _
                  refine XS.iconst X211.here hx rfl (hb hby at_165) ?_
                  show Steps p.tables e below (T211.setTop (mkF m 166 #[.val (.int k0), .val (.int k1), .val (.int k2), .val (.int k3), .val (.int k4), .val (.ref b64), .val (.int k0), .val (.int k3), .val (.ref b175), .val (.int (((k4.toUInt32 >>> ((2 : Int32) &&& 31).toUInt32).toInt32) &&& (3 : Int32))), .val (.ref b175), .val (.int (1 : Int32))] [(.int (1 : Int32))])) _
                  exact k_)
                obtain ⟨fs, hr, hrun, hended, hW, hsame⟩ := X211.leave (v := some (.int (1 : Int32))) (fun h => by rw [Bd.returns] at h; cases h)
                refine ⟨_, _, pre212 _ ?_, hrun, hended, _, _, rfl, ?_, ⟨_, rfl⟩, hW, hsame.mono (by decide) (by decide)⟩
                · show Steps p.tables e below (T211.setTop (mkF m 166 #[.val (.int k0), .val (.int k1), .val (.int k2), .val (.int k3), .val (.int k4), .val (.ref b64), .val (.int k0), .val (.int k3), .val (.ref b175), .val (.int (((k4.toUInt32 >>> ((2 : Int32) &&& 31).toUInt32).toInt32) &&& (3 : Int32))), .val (.ref b175), .val (.int (1 : Int32))] [(.int (1 : Int32))])) _
                  exact retN X211 hx (t := .boolean) Bd.returns (by simp) (hb hby at_166) hr
                · show Q_0 Z k0 k1 k2 k3 k4 w_cache cl_cache bx h0 n0 _ T211.heap _
                  rw [e211]
                  exact ⟨rfl, N211⟩
              · have pre213 : ∀ t_, Steps p.tables e below (T208.setTop (mkF m 166 #[.val (.int k0), .val (.int k1), .val (.int k2), .val (.int k3), .val (.int k4), .val (.ref b64), .val (.int k0), .val (.int k3), .val (.ref b175), .val (.int (((k4.toUInt32 >>> ((2 : Int32) &&& 31).toUInt32).toInt32) &&& (3 : Int32))), .val (.ref b175), .val (.int (1 : Int32))] [(.int (1 : Int32))])) t_ → Steps p.tables e below (s₁.setTop (entryFrame m #[(.int k0), (.int k1), (.int k2), (.int k3), (.int k4)] maxLocals)) t_ := fun t_ k_ => pre209 t_ (by
                  show Steps p.tables e below (T208.setTop (mkF m 148 #[.val (.int k0), .val (.int k1), .val (.int k2), .val (.int k3), .val (.int k4), .val (.ref b64), .val (.int k0), .val (.int k3), .val (.ref b175), .val (.int (((k4.toUInt32 >>> ((2 : Int32) &&& 31).toUInt32).toInt32) &&& (3 : Int32))), .val (.ref b175), .val (.int (1 : Int32))] [(.int (((k4.toUInt32 >>> ((2 : Int32) &&& 31).toUInt32).toInt32) &&& (3 : Int32)))])) _
                  refine XS.ifYes X208.here hx rfl (pc0 := 148) (pc' := 165) rfl (hb hby at_148) rfl ((if0 _ _).trans (feq hc148_210).2) (by decide) (by decide) ?_
                  show Steps p.tables e below (T208.setTop (mkF m 165 #[.val (.int k0), .val (.int k1), .val (.int k2), .val (.int k3), .val (.int k4), .val (.ref b64), .val (.int k0), .val (.int k3), .val (.ref b175), .val (.int (((k4.toUInt32 >>> ((2 : Int32) &&& 31).toUInt32).toInt32) &&& (3 : Int32))), .val (.ref b175), .val (.int (1 : Int32))] [])) _
                  refine XS.iconst X208.here hx rfl (hb hby at_165) ?_
                  show Steps p.tables e below (T208.setTop (mkF m 166 #[.val (.int k0), .val (.int k1), .val (.int k2), .val (.int k3), .val (.int k4), .val (.ref b64), .val (.int k0), .val (.int k3), .val (.ref b175), .val (.int (((k4.toUInt32 >>> ((2 : Int32) &&& 31).toUInt32).toInt32) &&& (3 : Int32))), .val (.ref b175), .val (.int (1 : Int32))] [(.int (1 : Int32))])) _
                  exact k_)
                obtain ⟨fs, hr, hrun, hended, hW, hsame⟩ := X208.leave (v := some (.int (1 : Int32))) (fun h => by rw [Bd.returns] at h; cases h)
                refine ⟨_, _, pre213 _ ?_, hrun, hended, _, _, rfl, ?_, ⟨_, rfl⟩, hW, hsame.mono (by decide) (by decide)⟩
                · show Steps p.tables e below (T208.setTop (mkF m 166 #[.val (.int k0), .val (.int k1), .val (.int k2), .val (.int k3), .val (.int k4), .val (.ref b64), .val (.int k0), .val (.int k3), .val (.ref b175), .val (.int (((k4.toUInt32 >>> ((2 : Int32) &&& 31).toUInt32).toInt32) &&& (3 : Int32))), .val (.ref b175), .val (.int (1 : Int32))] [(.int (1 : Int32))])) _
                  exact retN X208 hx (t := .boolean) Bd.returns (by simp) (hb hby at_166) hr
                · show Q_0 Z k0 k1 k2 k3 k4 w_cache cl_cache bx h0 n0 _ T208.heap _
                  rw [e208]
                  exact ⟨rfl, N208⟩
            · obtain ⟨cq214, kq214, q214a, q214b, q214c⟩ := isOf hZ rfl c182
              obtain ⟨v214, _, ⟨T214, L214, k214, n214⟩, -, X214, ⟨Lc214, hQ214, l214, y214, z214⟩, st214⟩ := X180.virtualBack hx (y := (⟨"com/example/fissure/fissure/games/breakable/Cube", "equals", "(Ljava/lang/Object;)Z"⟩ : MethodName)) (z := (⟨"com/example/fissure/fissure/games/breakable/Cube", "equals", "(Ljava/lang/Object;)Z"⟩ : MethodName)) hown (mvT hZ (hw _ (List.mem_of_getElem? (i := 15) rfl))) (mvT hZ (hw _ (List.mem_of_getElem? (i := 16) rfl))) (notFace_of_selects (args := #[]) (mvT hZ (hw _ (List.mem_of_getElem? (i := 18) rfl)))) (mvT hZ (hw _ (List.mem_of_getElem? (i := 18) rfl))) (mvT hZ (hw _ (List.mem_of_getElem? (i := 17) rfl))) (by decide) (backOf (W := 0) (rm_eqC l Z a0 hw [] b64 b175 k0 k1 k0 k3 T180.heap n0 Zs181 E180x c183 c184 F180_x F180_z) hZ (hw _ (List.mem_of_getElem? (i := 19) rfl)) (hw _ (List.mem_of_getElem? (i := 2) rfl)) (by decide) (by decide)) q214a q214c (g := (mkF m 136 #[.val (.int k0), .val (.int k1), .val (.int k2), .val (.int k3), .val (.int k4), .val (.ref b64), .val (.int k0), .val (.int k3), .val (.ref b175), .val (.int (((k4.toUInt32 >>> ((2 : Int32) &&& 31).toUInt32).toInt32) &&& (3 : Int32))), .val (.ref b175), .val (.int (0 : Int32))] [(.ref b175), (.ref b64)])) rfl (by rw [hml]; rfl) (Steps.refl _) (argsL := [(.ref b175)]) (rest := []) (lenOf pd_3 rfl) rfl (by show 2 * 0 + _ ≤ _; exact Nat.le_of_eq rfl) (hb hby at_136) (fun _ _ => ⟨rfl, rfl, (by decide : 2 + 0 ≤ _), (by decide : 6 + 0 ≤ _)⟩)
              dsimp only [Pt.U, Pt.locs, Pt.cells, Pt.slots] at X214 l214 y214 z214 st214 hQ214
              subst l214 y214 z214
              obtain ⟨hv214, N214q, e214⟩ := hQ214
              have N214 := Fr.app N180 N214q
              have hw214 : v214 = some (.int (0 : Int32)) := hv214.trans (congrArg (fun z => some (Value.int z)) (own_n2 rfl hc122_207))
              subst hw214
              have pre215 : ∀ t_, Steps p.tables e below (T214.setTop (mkF m 148 #[.val (.int k0), .val (.int k1), .val (.int k2), .val (.int k3), .val (.int k4), .val (.ref b64), .val (.int k0), .val (.int k3), .val (.ref b175), .val (.int (((k4.toUInt32 >>> ((2 : Int32) &&& 31).toUInt32).toInt32) &&& (3 : Int32))), .val (.ref b175), .val (.int (0 : Int32))] [(.int (((k4.toUInt32 >>> ((2 : Int32) &&& 31).toUInt32).toInt32) &&& (3 : Int32)))])) t_ → Steps p.tables e below (s₁.setTop (entryFrame m #[(.int k0), (.int k1), (.int k2), (.int k3), (.int k4)] maxLocals)) t_ := fun t_ k_ => pre206 t_ (by
                show Steps p.tables e below (T180.setTop (mkF m 122 #[.val (.int k0), .val (.int k1), .val (.int k2), .val (.int k3), .val (.int k4), .val (.ref b64), .val (.int k0), .val (.int k3), .val (.ref b175), .val (.int (((k4.toUInt32 >>> ((2 : Int32) &&& 31).toUInt32).toInt32) &&& (3 : Int32))), .val (.ref b175), .unset] [(.int k3), (.int k1)])) _
                refine XS.icmpYes X180.here hx rfl (pc0 := 122) (pc' := 129) rfl (hb hby at_122) rfl (feq hc122_207).2 (by decide) (by decide) ?_
                show Steps p.tables e below (T180.setTop (mkF m 129 #[.val (.int k0), .val (.int k1), .val (.int k2), .val (.int k3), .val (.int k4), .val (.ref b64), .val (.int k0), .val (.int k3), .val (.ref b175), .val (.int (((k4.toUInt32 >>> ((2 : Int32) &&& 31).toUInt32).toInt32) &&& (3 : Int32))), .val (.ref b175), .unset] [])) _
                refine XS.iconst X180.here hx rfl (hb hby at_129) ?_
                show Steps p.tables e below (T180.setTop (mkF m 130 #[.val (.int k0), .val (.int k1), .val (.int k2), .val (.int k3), .val (.int k4), .val (.ref b64), .val (.int k0), .val (.int k3), .val (.ref b175), .val (.int (((k4.toUInt32 >>> ((2 : Int32) &&& 31).toUInt32).toInt32) &&& (3 : Int32))), .val (.ref b175), .unset] [(.int (0 : Int32))])) _
                refine XS.istore X180.here hx rfl (hb hby at_130) rfl (l' := #[.val (.int k0), .val (.int k1), .val (.int k2), .val (.int k3), .val (.int k4), .val (.ref b64), .val (.int k0), .val (.int k3), .val (.ref b175), .val (.int (((k4.toUInt32 >>> ((2 : Int32) &&& 31).toUInt32).toInt32) &&& (3 : Int32))), .val (.ref b175), .val (.int (0 : Int32))]) rfl ?_
                show Steps p.tables e below (T180.setTop (mkF m 132 #[.val (.int k0), .val (.int k1), .val (.int k2), .val (.int k3), .val (.int k4), .val (.ref b64), .val (.int k0), .val (.int k3), .val (.ref b175), .val (.int (((k4.toUInt32 >>> ((2 : Int32) &&& 31).toUInt32).toInt32) &&& (3 : Int32))), .val (.ref b175), .val (.int (0 : Int32))] [])) _
                refine XS.aload X180.here hx rfl (hb hby at_132) rfl rfl ?_
                show Steps p.tables e below (T180.setTop (mkF m 134 #[.val (.int k0), .val (.int k1), .val (.int k2), .val (.int k3), .val (.int k4), .val (.ref b64), .val (.int k0), .val (.int k3), .val (.ref b175), .val (.int (((k4.toUInt32 >>> ((2 : Int32) &&& 31).toUInt32).toInt32) &&& (3 : Int32))), .val (.ref b175), .val (.int (0 : Int32))] [(.ref b64)])) _
                refine XS.aload X180.here hx rfl (hb hby at_134) rfl rfl ?_
                show Steps p.tables e below (T180.setTop (mkF m 136 #[.val (.int k0), .val (.int k1), .val (.int k2), .val (.int k3), .val (.int k4), .val (.ref b64), .val (.int k0), .val (.int k3), .val (.ref b175), .val (.int (((k4.toUInt32 >>> ((2 : Int32) &&& 31).toUInt32).toInt32) &&& (3 : Int32))), .val (.ref b175), .val (.int (0 : Int32))] [(.ref b175), (.ref b64)])) _
                refine st214.trans ?_
                show Steps p.tables e below (T214.setTop (mkF m 139 #[.val (.int k0), .val (.int k1), .val (.int k2), .val (.int k3), .val (.int k4), .val (.ref b64), .val (.int k0), .val (.int k3), .val (.ref b175), .val (.int (((k4.toUInt32 >>> ((2 : Int32) &&& 31).toUInt32).toInt32) &&& (3 : Int32))), .val (.ref b175), .val (.int (0 : Int32))] [(.int (0 : Int32))])) _
                refine XS.iload X214.here hx rfl (hb hby at_139) rfl ?_
                show Steps p.tables e below (T214.setTop (mkF m 141 #[.val (.int k0), .val (.int k1), .val (.int k2), .val (.int k3), .val (.int k4), .val (.ref b64), .val (.int k0), .val (.int k3), .val (.ref b175), .val (.int (((k4.toUInt32 >>> ((2 : Int32) &&& 31).toUInt32).toInt32) &&& (3 : Int32))), .val (.ref b175), .val (.int (0 : Int32))] [(.int (0 : Int32)), (.int (0 : Int32))])) _
                refine XS.icmpYes X214.here hx rfl (pc0 := 141) (pc' := 146) rfl (hb hby at_141) rfl (teq (rfl : (0 : Int32) = (0 : Int32))).1 (by decide) (by decide) ?_
                show Steps p.tables e below (T214.setTop (mkF m 146 #[.val (.int k0), .val (.int k1), .val (.int k2), .val (.int k3), .val (.int k4), .val (.ref b64), .val (.int k0), .val (.int k3), .val (.ref b175), .val (.int (((k4.toUInt32 >>> ((2 : Int32) &&& 31).toUInt32).toInt32) &&& (3 : Int32))), .val (.ref b175), .val (.int (0 : Int32))] [])) _
                refine XS.iload X214.here hx rfl (hb hby at_146) rfl ?_
                show Steps p.tables e below (T214.setTop (mkF m 148 #[.val (.int k0), .val (.int k1), .val (.int k2), .val (.int k3), .val (.int k4), .val (.ref b64), .val (.int k0), .val (.int k3), .val (.ref b175), .val (.int (((k4.toUInt32 >>> ((2 : Int32) &&& 31).toUInt32).toInt32) &&& (3 : Int32))), .val (.ref b175), .val (.int (0 : Int32))] [(.int (((k4.toUInt32 >>> ((2 : Int32) &&& 31).toUInt32).toInt32) &&& (3 : Int32)))])) _
                exact k_)
              by_cases hc148_216 : (((k4.toUInt32 >>> ((2 : Int32) &&& 31).toUInt32).toInt32) &&& (3 : Int32)) = (0 : Int32)
              · obtain ⟨cq217, kq217, q217a, q217b, q217c⟩ := isOf hZ e214 E180x
                obtain ⟨v217, _, ⟨T217, L217, k217, n217⟩, -, X217, ⟨Lc217, hQ217, l217, y217, z217⟩, st217⟩ := X214.virtualBack hx (y := (⟨"com/example/fissure/fissure/games/breakable/Cube", "equals", "(Ljava/lang/Object;)Z"⟩ : MethodName)) (z := (⟨"com/example/fissure/fissure/games/breakable/Cube", "equals", "(Ljava/lang/Object;)Z"⟩ : MethodName)) hown (mvT hZ (hw _ (List.mem_of_getElem? (i := 15) rfl))) (mvT hZ (hw _ (List.mem_of_getElem? (i := 16) rfl))) (notFace_of_selects (args := #[]) (mvT hZ (hw _ (List.mem_of_getElem? (i := 18) rfl)))) (mvT hZ (hw _ (List.mem_of_getElem? (i := 18) rfl))) (mvT hZ (hw _ (List.mem_of_getElem? (i := 17) rfl))) (by decide) (backOf (W := 0) (rm_eqC l Z a0 hw [] b175 b64 k0 k3 k0 k1 T180.heap n0 Zs181 c182 F180_x F180_z c183 c184) hZ (hw _ (List.mem_of_getElem? (i := 19) rfl)) (hw _ (List.mem_of_getElem? (i := 2) rfl)) (by decide) (by decide)) q217a q217c (g := (mkF m 155 #[.val (.int k0), .val (.int k1), .val (.int k2), .val (.int k3), .val (.int k4), .val (.ref b64), .val (.int k0), .val (.int k3), .val (.ref b175), .val (.int (((k4.toUInt32 >>> ((2 : Int32) &&& 31).toUInt32).toInt32) &&& (3 : Int32))), .val (.ref b175), .val (.int (0 : Int32))] [(.ref b64), (.ref b175)])) rfl (by rw [hml]; rfl) (Steps.refl _) (argsL := [(.ref b64)]) (rest := []) (lenOf pd_3 rfl) rfl (by show 2 * 0 + _ ≤ _; exact Nat.le_of_eq rfl) (hb hby at_155) (fun _ _ => ⟨rfl, e214, (by decide : 2 + 0 ≤ _), (by decide : 6 + 0 ≤ _)⟩)
                dsimp only [Pt.U, Pt.locs, Pt.cells, Pt.slots] at X217 l217 y217 z217 st217 hQ217
                subst l217 y217 z217
                obtain ⟨hv217, N217q, e217⟩ := hQ217
                have N217 := Fr.app N214 N217q
                have hw217 : v217 = some (.int (0 : Int32)) := hv217.trans (congrArg (fun z => some (Value.int z)) (own_n2 rfl (fun h_ => hc122_207 h_.symm)))
                subst hw217
                have pre218 : ∀ t_, Steps p.tables e below (T217.setTop (mkF m 166 #[.val (.int k0), .val (.int k1), .val (.int k2), .val (.int k3), .val (.int k4), .val (.ref b64), .val (.int k0), .val (.int k3), .val (.ref b175), .val (.int (((k4.toUInt32 >>> ((2 : Int32) &&& 31).toUInt32).toInt32) &&& (3 : Int32))), .val (.ref b175), .val (.int (0 : Int32))] [(.int (1 : Int32))])) t_ → Steps p.tables e below (s₁.setTop (entryFrame m #[(.int k0), (.int k1), (.int k2), (.int k3), (.int k4)] maxLocals)) t_ := fun t_ k_ => pre215 t_ (by
                  show Steps p.tables e below (T214.setTop (mkF m 148 #[.val (.int k0), .val (.int k1), .val (.int k2), .val (.int k3), .val (.int k4), .val (.ref b64), .val (.int k0), .val (.int k3), .val (.ref b175), .val (.int (((k4.toUInt32 >>> ((2 : Int32) &&& 31).toUInt32).toInt32) &&& (3 : Int32))), .val (.ref b175), .val (.int (0 : Int32))] [(.int (((k4.toUInt32 >>> ((2 : Int32) &&& 31).toUInt32).toInt32) &&& (3 : Int32)))])) _
                  refine XS.ifNo X214.here hx rfl (hb hby at_148) rfl ((if0 _ _).trans (teq hc148_216).2) ?_
                  show Steps p.tables e below (T214.setTop (mkF m 151 #[.val (.int k0), .val (.int k1), .val (.int k2), .val (.int k3), .val (.int k4), .val (.ref b64), .val (.int k0), .val (.int k3), .val (.ref b175), .val (.int (((k4.toUInt32 >>> ((2 : Int32) &&& 31).toUInt32).toInt32) &&& (3 : Int32))), .val (.ref b175), .val (.int (0 : Int32))] [])) _
                  refine XS.aload X214.here hx rfl (hb hby at_151) rfl rfl ?_
                  show Steps p.tables e below (T214.setTop (mkF m 153 #[.val (.int k0), .val (.int k1), .val (.int k2), .val (.int k3), .val (.int k4), .val (.ref b64), .val (.int k0), .val (.int k3), .val (.ref b175), .val (.int (((k4.toUInt32 >>> ((2 : Int32) &&& 31).toUInt32).toInt32) &&& (3 : Int32))), .val (.ref b175), .val (.int (0 : Int32))] [(.ref b175)])) _
                  refine XS.aload X214.here hx rfl (hb hby at_153) rfl rfl ?_
                  show Steps p.tables e below (T214.setTop (mkF m 155 #[.val (.int k0), .val (.int k1), .val (.int k2), .val (.int k3), .val (.int k4), .val (.ref b64), .val (.int k0), .val (.int k3), .val (.ref b175), .val (.int (((k4.toUInt32 >>> ((2 : Int32) &&& 31).toUInt32).toInt32) &&& (3 : Int32))), .val (.ref b175), .val (.int (0 : Int32))] [(.ref b64), (.ref b175)])) _
                  refine st217.trans ?_
                  show Steps p.tables e below (T217.setTop (mkF m 158 #[.val (.int k0), .val (.int k1), .val (.int k2), .val (.int k3), .val (.int k4), .val (.ref b64), .val (.int k0), .val (.int k3), .val (.ref b175), .val (.int (((k4.toUInt32 >>> ((2 : Int32) &&& 31).toUInt32).toInt32) &&& (3 : Int32))), .val (.ref b175), .val (.int (0 : Int32))] [(.int (0 : Int32))])) _
                  refine XS.iload X217.here hx rfl (hb hby at_158) rfl ?_
                  show Steps p.tables e below (T217.setTop (mkF m 160 #[.val (.int k0), .val (.int k1), .val (.int k2), .val (.int k3), .val (.int k4), .val (.ref b64), .val (.int k0), .val (.int k3), .val (.ref b175), .val (.int (((k4.toUInt32 >>> ((2 : Int32) &&& 31).toUInt32).toInt32) &&& (3 : Int32))), .val (.ref b175), .val (.int (0 : Int32))] [(.int (0 : Int32)), (.int (0 : Int32))])) _
                  refine XS.icmpYes X217.here hx rfl (pc0 := 160) (pc' := 165) rfl (hb hby at_160) rfl (teq (rfl : (0 : Int32) = (0 : Int32))).1 (by decide) (by decide) ?_
                  show Steps p.tables e below (T217.setTop (mkF m 165 #[.val (.int k0), .val (.int k1), .val (.int k2), .val (.int k3), .val (.int k4), .val (.ref b64), .val (.int k0), .val (.int k3), .val (.ref b175), .val (.int (((k4.toUInt32 >>> ((2 : Int32) &&& 31).toUInt32).toInt32) &&& (3 : Int32))), .val (.ref b175), .val (.int (0 : Int32))] [])) _
                  refine XS.iconst X217.here hx rfl (hb hby at_165) ?_
                  show Steps p.tables e below (T217.setTop (mkF m 166 #[.val (.int k0), .val (.int k1), .val (.int k2), .val (.int k3), .val (.int k4), .val (.ref b64), .val (.int k0), .val (.int k3), .val (.ref b175), .val (.int (((k4.toUInt32 >>> ((2 : Int32) &&& 31).toUInt32).toInt32) &&& (3 : Int32))), .val (.ref b175), .val (.int (0 : Int32))] [(.int (1 : Int32))])) _
                  exact k_)
                obtain ⟨fs, hr, hrun, hended, hW, hsame⟩ := X217.leave (v := some (.int (1 : Int32))) (fun h => by rw [Bd.returns] at h; cases h)
                refine ⟨_, _, pre218 _ ?_, hrun, hended, _, _, rfl, ?_, ⟨_, rfl⟩, hW, hsame.mono (by decide) (by decide)⟩
                · show Steps p.tables e below (T217.setTop (mkF m 166 #[.val (.int k0), .val (.int k1), .val (.int k2), .val (.int k3), .val (.int k4), .val (.ref b64), .val (.int k0), .val (.int k3), .val (.ref b175), .val (.int (((k4.toUInt32 >>> ((2 : Int32) &&& 31).toUInt32).toInt32) &&& (3 : Int32))), .val (.ref b175), .val (.int (0 : Int32))] [(.int (1 : Int32))])) _
                  exact retN X217 hx (t := .boolean) Bd.returns (by simp) (hb hby at_166) hr
                · show Q_0 Z k0 k1 k2 k3 k4 w_cache cl_cache bx h0 n0 _ T217.heap _
                  rw [e217]
                  exact ⟨rfl, N217⟩
              · have pre219 : ∀ t_, Steps p.tables e below (T214.setTop (mkF m 166 #[.val (.int k0), .val (.int k1), .val (.int k2), .val (.int k3), .val (.int k4), .val (.ref b64), .val (.int k0), .val (.int k3), .val (.ref b175), .val (.int (((k4.toUInt32 >>> ((2 : Int32) &&& 31).toUInt32).toInt32) &&& (3 : Int32))), .val (.ref b175), .val (.int (0 : Int32))] [(.int (1 : Int32))])) t_ → Steps p.tables e below (s₁.setTop (entryFrame m #[(.int k0), (.int k1), (.int k2), (.int k3), (.int k4)] maxLocals)) t_ := fun t_ k_ => pre215 t_ (by
                  show Steps p.tables e below (T214.setTop (mkF m 148 #[.val (.int k0), .val (.int k1), .val (.int k2), .val (.int k3), .val (.int k4), .val (.ref b64), .val (.int k0), .val (.int k3), .val (.ref b175), .val (.int (((k4.toUInt32 >>> ((2 : Int32) &&& 31).toUInt32).toInt32) &&& (3 : Int32))), .val (.ref b175), .val (.int (0 : Int32))] [(.int (((k4.toUInt32 >>> ((2 : Int32) &&& 31).toUInt32).toInt32) &&& (3 : Int32)))])) _
                  refine XS.ifYes X214.here hx rfl (pc0 := 148) (pc' := 165) rfl (hb hby at_148) rfl ((if0 _ _).trans (feq hc148_216).2) (by decide) (by decide) ?_
                  show Steps p.tables e below (T214.setTop (mkF m 165 #[.val (.int k0), .val (.int k1), .val (.int k2), .val (.int k3), .val (.int k4), .val (.ref b64), .val (.int k0), .val (.int k3), .val (.ref b175), .val (.int (((k4.toUInt32 >>> ((2 : Int32) &&& 31).toUInt32).toInt32) &&& (3 : Int32))), .val (.ref b175), .val (.int (0 : Int32))] [])) _
                  refine XS.iconst X214.here hx rfl (hb hby at_165) ?_
                  show Steps p.tables e below (T214.setTop (mkF m 166 #[.val (.int k0), .val (.int k1), .val (.int k2), .val (.int k3), .val (.int k4), .val (.ref b64), .val (.int k0), .val (.int k3), .val (.ref b175), .val (.int (((k4.toUInt32 >>> ((2 : Int32) &&& 31).toUInt32).toInt32) &&& (3 : Int32))), .val (.ref b175), .val (.int (0 : Int32))] [(.int (1 : Int32))])) _
                  exact k_)
                obtain ⟨fs, hr, hrun, hended, hW, hsame⟩ := X214.leave (v := some (.int (1 : Int32))) (fun h => by rw [Bd.returns] at h; cases h)
                refine ⟨_, _, pre219 _ ?_, hrun, hended, _, _, rfl, ?_, ⟨_, rfl⟩, hW, hsame.mono (by decide) (by decide)⟩
                · show Steps p.tables e below (T214.setTop (mkF m 166 #[.val (.int k0), .val (.int k1), .val (.int k2), .val (.int k3), .val (.int k4), .val (.ref b64), .val (.int k0), .val (.int k3), .val (.ref b175), .val (.int (((k4.toUInt32 >>> ((2 : Int32) &&& 31).toUInt32).toInt32) &&& (3 : Int32))), .val (.ref b175), .val (.int (0 : Int32))] [(.int (1 : Int32))])) _
                  exact retN X214 hx (t := .boolean) Bd.returns (by simp) (hb hby at_166) hr
                · show Q_0 Z k0 k1 k2 k3 k4 w_cache cl_cache bx h0 n0 _ T214.heap _
                  rw [e214]
                  exact ⟨rfl, N214⟩
    · obtain ⟨T220, h220, X220, e220, E220, A220, D220, -, st220⟩ := newO X68 hx hZ hown (hw _ (List.mem_of_getElem? (i := 0) rfl)) (hw _ (List.mem_of_getElem? (i := 1) rfl)) (hw _ (List.mem_of_getElem? (i := 2) rfl)) rfl (g := (mkF m 39 #[.val (.int k0), .val (.int k1), .val (.int k2), .val (.int k3), .val (.int k4), .val (.ref b64), .val (.int k0), .val (.int k1), .unset, .unset, .unset, .unset] [])) rfl (hb hby at_39) (by decide) (by decide)
      obtain ⟨b220, g220⟩ : ∃ z, z = T68.heap.size := ⟨_, rfl⟩
      rw [← g220] at A220 D220 st220
      have ne_b64_b220 : b64 ≠ b220 := Nat.ne_of_lt (Nat.lt_of_lt_of_le E68x.lt (Nat.le_of_eq g220.symm))
      have gg_b220 : n0 ≤ b220 := Nat.le_trans Zs69 (Nat.le_of_eq g220.symm)
      have sz_b220 : h0.size ≤ b220 := Nat.le_trans O69.1 (Nat.le_of_eq g220.symm)
      have O221 := own_ext_trans O69 E220
      have Zs221 := Nat.le_trans Zs69 (E220).1
      have c222 : Exa Z h220 b64 "com/example/fissure/fissure/games/breakable/Cube" := E68x.ext E220
      have c223 : Fld Z h220 b64 "com/example/fissure/fissure/games/breakable/Cube" "x" "I" (.int k0) := F68_x.ext E220
      have c224 : Fld Z h220 b64 "com/example/fissure/fissure/games/breakable/Cube" "z" "I" (.int k1) := F68_z.ext E220
      have F220_x : Fld Z h220 b220 "com/example/fissure/fissure/games/breakable/Cube" "x" "I" (.int (0 : Int32)) := D220 (Or.inr (hw _ (List.mem_of_getElem? (i := 10) rfl))) (ty := .int) (by decide)
      have F220_y : Fld Z h220 b220 "com/example/fissure/fissure/games/breakable/Cube" "y" "I" (.int (0 : Int32)) := D220 (Or.inr (hw _ (List.mem_of_getElem? (i := 12) rfl))) (ty := .int) (by decide)
      have F220_z : Fld Z h220 b220 "com/example/fissure/fissure/games/breakable/Cube" "z" "I" (.int (0 : Int32)) := D220 (Or.inr (hw _ (List.mem_of_getElem? (i := 14) rfl))) (ty := .int) (by decide)
      obtain ⟨v225, _, ⟨T225, L225, k225, n225⟩, -, X225, ⟨Lc225, hQ225, l225, y225, z225⟩, st225⟩ := X220.specialBack hx (y := (⟨"com/example/fissure/fissure/games/breakable/Cube", "<init>", "(II)V"⟩ : MethodName)) rfl hown (mvT hZ (hw _ (List.mem_of_getElem? (i := 3) rfl))) (mvT hZ (hw _ (List.mem_of_getElem? (i := 4) rfl))) (mvT hZ (hw _ (List.mem_of_getElem? (i := 5) rfl))) (by decide) (backOf (W := 1) (rm_init l Z a0 hw [] b220 k0 k1 (.int (0 : Int32)) (.int (0 : Int32)) (.int (0 : Int32)) h220 n0 Zs221 A220 gg_b220 F220_x F220_y F220_z) hZ (hw _ (List.mem_of_getElem? (i := 5) rfl)) (hw _ (List.mem_of_getElem? (i := 2) rfl)) (by decide) (by decide)) (g := (mkF m 47 #[.val (.int k0), .val (.int k1), .val (.int k2), .val (.int k3), .val (.int k4), .val (.ref b64), .val (.int k0), .val (.int k1), .unset, .unset, .unset, .unset] [(.int k1), (.int k0), (.ref b220), (.ref b220)])) rfl (by rw [hml]; rfl) (Steps.refl _) (a := b220) (argsL := [(.int k0), (.int k1)]) (rest := [(.ref b220)]) (lenOf pd_2 rfl) rfl (by show 2 * 0 + _ ≤ _; exact Nat.le_of_eq rfl) (hb hby at_47) (fun _ _ => ⟨rfl, e220, (by decide : 2 + 0 ≤ _), (by decide : 6 + 0 ≤ _)⟩)
      dsimp only [Pt.U, Pt.locs, Pt.cells, Pt.slots] at X225 l225 y225 z225 st225 hQ225
      subst l225 y225 z225
      obtain ⟨hv225, N225q, M225⟩ := hQ225
      have N225 := Fr.app N68 N225q
      subst hv225
      obtain ⟨K225k, E225x, F225_x, F225_z⟩ := M225
      have O226 := own_ext_keep O221 K225k (allS sz_b220 all0)
      have Zs226 := Nat.le_trans Zs221 K225k.1
      have c227 : Exa Z T225.heap b64 "com/example/fissure/fissure/games/breakable/Cube" := c222.keep K225k
      have c228 : Fld Z T225.heap b64 "com/example/fissure/fissure/games/breakable/Cube" "x" "I" (.int k0) := c223.keep K225k (ninS ne_b64_b220 nin0)
      have c229 : Fld Z T225.heap b64 "com/example/fissure/fissure/games/breakable/Cube" "z" "I" (.int k1) := c224.keep K225k (ninS ne_b64_b220 nin0)
      have c230 : Exa Z T225.heap b220 "com/example/fissure/fissure/games/breakable/Cube" := A220.keep K225k
      have pre231 : ∀ t_, Steps p.tables e below (T225.setTop (mkF m 63 #[.val (.int k0), .val (.int k1), .val (.int k2), .val (.int k3), .val (.int k4), .val (.ref b64), .val (.int k0), .val (.int k1), .val (.ref b220), .val (.int (((k4.toUInt32 >>> ((2 : Int32) &&& 31).toUInt32).toInt32) &&& (3 : Int32))), .unset, .unset] [(.int (1 : Int32)), (.int (((k4.toUInt32 >>> ((2 : Int32) &&& 31).toUInt32).toInt32) &&& (3 : Int32)))])) t_ → Steps p.tables e below (s₁.setTop (entryFrame m #[(.int k0), (.int k1), (.int k2), (.int k3), (.int k4)] maxLocals)) t_ := fun t_ k_ => pre173 t_ (by
        show Steps p.tables e below (T68.setTop (mkF m 29 #[.val (.int k0), .val (.int k1), .val (.int k2), .val (.int k3), .val (.int k4), .val (.ref b64), .val (.int k0), .unset, .unset, .unset, .unset, .unset] [(.int (k4 &&& (2 : Int32)))])) _
        refine XS.ifNo X68.here hx rfl (hb hby at_29) rfl ((if0 _ _).trans (feq hc29_174).1) ?_
        show Steps p.tables e below (T68.setTop (mkF m 32 #[.val (.int k0), .val (.int k1), .val (.int k2), .val (.int k3), .val (.int k4), .val (.ref b64), .val (.int k0), .unset, .unset, .unset, .unset, .unset] [])) _
        refine XS.iloadN X68.here hx rfl (hb hby at_32) rfl ?_
        show Steps p.tables e below (T68.setTop (mkF m 33 #[.val (.int k0), .val (.int k1), .val (.int k2), .val (.int k3), .val (.int k4), .val (.ref b64), .val (.int k0), .unset, .unset, .unset, .unset, .unset] [(.int k1)])) _
        refine XS.goto X68.here hx rfl (pc0 := 33) (pc' := 37) rfl (hb hby at_33) (by decide) (by decide) ?_
        show Steps p.tables e below (T68.setTop (mkF m 37 #[.val (.int k0), .val (.int k1), .val (.int k2), .val (.int k3), .val (.int k4), .val (.ref b64), .val (.int k0), .unset, .unset, .unset, .unset, .unset] [(.int k1)])) _
        refine XS.istore X68.here hx rfl (hb hby at_37) rfl (l' := #[.val (.int k0), .val (.int k1), .val (.int k2), .val (.int k3), .val (.int k4), .val (.ref b64), .val (.int k0), .val (.int k1), .unset, .unset, .unset, .unset]) rfl ?_
        show Steps p.tables e below (T68.setTop (mkF m 39 #[.val (.int k0), .val (.int k1), .val (.int k2), .val (.int k3), .val (.int k4), .val (.ref b64), .val (.int k0), .val (.int k1), .unset, .unset, .unset, .unset] [])) _
        refine st220 _ ?_
        show Steps p.tables e below (T220.setTop (mkF m 42 #[.val (.int k0), .val (.int k1), .val (.int k2), .val (.int k3), .val (.int k4), .val (.ref b64), .val (.int k0), .val (.int k1), .unset, .unset, .unset, .unset] [(.ref b220)])) _
        refine XS.dup X220.here hx rfl (hb hby at_42) rfl rfl ?_
        show Steps p.tables e below (T220.setTop (mkF m 43 #[.val (.int k0), .val (.int k1), .val (.int k2), .val (.int k3), .val (.int k4), .val (.ref b64), .val (.int k0), .val (.int k1), .unset, .unset, .unset, .unset] [(.ref b220), (.ref b220)])) _
        refine XS.iload X220.here hx rfl (hb hby at_43) rfl ?_
        show Steps p.tables e below (T220.setTop (mkF m 45 #[.val (.int k0), .val (.int k1), .val (.int k2), .val (.int k3), .val (.int k4), .val (.ref b64), .val (.int k0), .val (.int k1), .unset, .unset, .unset, .unset] [(.int k0), (.ref b220), (.ref b220)])) _
        refine XS.iload X220.here hx rfl (hb hby at_45) rfl ?_
        show Steps p.tables e below (T220.setTop (mkF m 47 #[.val (.int k0), .val (.int k1), .val (.int k2), .val (.int k3), .val (.int k4), .val (.ref b64), .val (.int k0), .val (.int k1), .unset, .unset, .unset, .unset] [(.int k1), (.int k0), (.ref b220), (.ref b220)])) _
        refine st225.trans ?_
        show Steps p.tables e below (T225.setTop (mkF m 50 #[.val (.int k0), .val (.int k1), .val (.int k2), .val (.int k3), .val (.int k4), .val (.ref b64), .val (.int k0), .val (.int k1), .unset, .unset, .unset, .unset] [(.ref b220)])) _
        refine XS.astore X225.here hx rfl (hb hby at_50) rfl rfl (l' := #[.val (.int k0), .val (.int k1), .val (.int k2), .val (.int k3), .val (.int k4), .val (.ref b64), .val (.int k0), .val (.int k1), .val (.ref b220), .unset, .unset, .unset]) rfl ?_
        show Steps p.tables e below (T225.setTop (mkF m 52 #[.val (.int k0), .val (.int k1), .val (.int k2), .val (.int k3), .val (.int k4), .val (.ref b64), .val (.int k0), .val (.int k1), .val (.ref b220), .unset, .unset, .unset] [])) _
        refine XS.iload X225.here hx rfl (hb hby at_52) rfl ?_
        show Steps p.tables e below (T225.setTop (mkF m 54 #[.val (.int k0), .val (.int k1), .val (.int k2), .val (.int k3), .val (.int k4), .val (.ref b64), .val (.int k0), .val (.int k1), .val (.ref b220), .unset, .unset, .unset] [(.int k4)])) _
        refine XS.iconst X225.here hx rfl (hb hby at_54) ?_
        show Steps p.tables e below (T225.setTop (mkF m 55 #[.val (.int k0), .val (.int k1), .val (.int k2), .val (.int k3), .val (.int k4), .val (.ref b64), .val (.int k0), .val (.int k1), .val (.ref b220), .unset, .unset, .unset] [(.int (2 : Int32)), (.int k4)])) _
        refine XS.iushr X225.here hx rfl (hb hby at_55) rfl ?_
        show Steps p.tables e below (T225.setTop (mkF m 56 #[.val (.int k0), .val (.int k1), .val (.int k2), .val (.int k3), .val (.int k4), .val (.ref b64), .val (.int k0), .val (.int k1), .val (.ref b220), .unset, .unset, .unset] [(.int ((k4.toUInt32 >>> ((2 : Int32) &&& 31).toUInt32).toInt32))])) _
        refine XS.iconst X225.here hx rfl (hb hby at_56) ?_
        show Steps p.tables e below (T225.setTop (mkF m 57 #[.val (.int k0), .val (.int k1), .val (.int k2), .val (.int k3), .val (.int k4), .val (.ref b64), .val (.int k0), .val (.int k1), .val (.ref b220), .unset, .unset, .unset] [(.int (3 : Int32)), (.int ((k4.toUInt32 >>> ((2 : Int32) &&& 31).toUInt32).toInt32))])) _
        refine XS.iand X225.here hx rfl (hb hby at_57) rfl ?_
        show Steps p.tables e below (T225.setTop (mkF m 58 #[.val (.int k0), .val (.int k1), .val (.int k2), .val (.int k3), .val (.int k4), .val (.ref b64), .val (.int k0), .val (.int k1), .val (.ref b220), .unset, .unset, .unset] [(.int (((k4.toUInt32 >>> ((2 : Int32) &&& 31).toUInt32).toInt32) &&& (3 : Int32)))])) _
        refine XS.istore X225.here hx rfl (hb hby at_58) rfl (l' := #[.val (.int k0), .val (.int k1), .val (.int k2), .val (.int k3), .val (.int k4), .val (.ref b64), .val (.int k0), .val (.int k1), .val (.ref b220), .val (.int (((k4.toUInt32 >>> ((2 : Int32) &&& 31).toUInt32).toInt32) &&& (3 : Int32))), .unset, .unset]) rfl ?_
        show Steps p.tables e below (T225.setTop (mkF m 60 #[.val (.int k0), .val (.int k1), .val (.int k2), .val (.int k3), .val (.int k4), .val (.ref b64), .val (.int k0), .val (.int k1), .val (.ref b220), .val (.int (((k4.toUInt32 >>> ((2 : Int32) &&& 31).toUInt32).toInt32) &&& (3 : Int32))), .unset, .unset] [])) _
        refine XS.iload X225.here hx rfl (hb hby at_60) rfl ?_
        show Steps p.tables e below (T225.setTop (mkF m 62 #[.val (.int k0), .val (.int k1), .val (.int k2), .val (.int k3), .val (.int k4), .val (.ref b64), .val (.int k0), .val (.int k1), .val (.ref b220), .val (.int (((k4.toUInt32 >>> ((2 : Int32) &&& 31).toUInt32).toInt32) &&& (3 : Int32))), .unset, .unset] [(.int (((k4.toUInt32 >>> ((2 : Int32) &&& 31).toUInt32).toInt32) &&& (3 : Int32)))])) _
        refine XS.iconst X225.here hx rfl (hb hby at_62) ?_
        show Steps p.tables e below (T225.setTop (mkF m 63 #[.val (.int k0), .val (.int k1), .val (.int k2), .val (.int k3), .val (.int k4), .val (.ref b64), .val (.int k0), .val (.int k1), .val (.ref b220), .val (.int (((k4.toUInt32 >>> ((2 : Int32) &&& 31).toUInt32).toInt32) &&& (3 : Int32))), .unset, .unset] [(.int (1 : Int32)), (.int (((k4.toUInt32 >>> ((2 : Int32) &&& 31).toUInt32).toInt32) &&& (3 : Int32)))])) _
        exact k_)
      by_cases hc63_232 : (((k4.toUInt32 >>> ((2 : Int32) &&& 31).toUInt32).toInt32) &&& (3 : Int32)) = (1 : Int32)
      · obtain ⟨cq233, kq233, q233a, q233b, q233c⟩ := isOf hZ rfl c227
        obtain ⟨v233, _, ⟨T233, L233, k233, n233⟩, -, X233, ⟨Lc233, hQ233, l233, y233, z233⟩, st233⟩ := X225.virtualBack hx (y := (⟨"com/example/fissure/fissure/games/breakable/Cube", "equals", "(Ljava/lang/Object;)Z"⟩ : MethodName)) (z := (⟨"com/example/fissure/fissure/games/breakable/Cube", "equals", "(Ljava/lang/Object;)Z"⟩ : MethodName)) hown (mvT hZ (hw _ (List.mem_of_getElem? (i := 15) rfl))) (mvT hZ (hw _ (List.mem_of_getElem? (i := 16) rfl))) (notFace_of_selects (args := #[]) (mvT hZ (hw _ (List.mem_of_getElem? (i := 18) rfl)))) (mvT hZ (hw _ (List.mem_of_getElem? (i := 18) rfl))) (mvT hZ (hw _ (List.mem_of_getElem? (i := 17) rfl))) (by decide) (backOf (W := 0) (rm_eqN l Z a0 hw [] b64 T225.heap n0 Zs226 ) hZ (hw _ (List.mem_of_getElem? (i := 19) rfl)) (hw _ (List.mem_of_getElem? (i := 2) rfl)) (by decide) (by decide)) q233a q233c (g := (mkF m 136 #[.val (.int k0), .val (.int k1), .val (.int k2), .val (.int k3), .val (.int k4), .val (.ref b64), .val (.int k0), .val (.int k1), .val (.ref b220), .val (.int (((k4.toUInt32 >>> ((2 : Int32) &&& 31).toUInt32).toInt32) &&& (3 : Int32))), .val .null, .val (.int (0 : Int32))] [.null, (.ref b64)])) rfl (by rw [hml]; rfl) (Steps.refl _) (argsL := [.null]) (rest := []) (lenOf pd_3 rfl) rfl (by show 2 * 0 + _ ≤ _; exact Nat.le_of_eq rfl) (hb hby at_136) (fun _ _ => ⟨rfl, rfl, (by decide : 2 + 0 ≤ _), (by decide : 6 + 0 ≤ _)⟩)
        dsimp only [Pt.U, Pt.locs, Pt.cells, Pt.slots] at X233 l233 y233 z233 st233 hQ233
        subst l233 y233 z233
        obtain ⟨hv233, N233q, e233⟩ := hQ233
        have N233 := Fr.app N225 N233q
        subst hv233
        have pre234 : ∀ t_, Steps p.tables e below (T233.setTop (mkF m 166 #[.val (.int k0), .val (.int k1), .val (.int k2), .val (.int k3), .val (.int k4), .val (.ref b64), .val (.int k0), .val (.int k1), .val (.ref b220), .val (.int (((k4.toUInt32 >>> ((2 : Int32) &&& 31).toUInt32).toInt32) &&& (3 : Int32))), .val .null, .val (.int (0 : Int32))] [(.int (1 : Int32))])) t_ → Steps p.tables e below (s₁.setTop (entryFrame m #[(.int k0), (.int k1), (.int k2), (.int k3), (.int k4)] maxLocals)) t_ := fun t_ k_ => pre231 t_ (by
          show Steps p.tables e below (T225.setTop (mkF m 63 #[.val (.int k0), .val (.int k1), .val (.int k2), .val (.int k3), .val (.int k4), .val (.ref b64), .val (.int k0), .val (.int k1), .val (.ref b220), .val (.int (((k4.toUInt32 >>> ((2 : Int32) &&& 31).toUInt32).toInt32) &&& (3 : Int32))), .unset, .unset] [(.int (1 : Int32)), (.int (((k4.toUInt32 >>> ((2 : Int32) &&& 31).toUInt32).toInt32) &&& (3 : Int32)))])) _
          refine XS.icmpNo X225.here hx rfl (hb hby at_63) rfl (teq hc63_232).2 ?_
          show Steps p.tables e below (T225.setTop (mkF m 66 #[.val (.int k0), .val (.int k1), .val (.int k2), .val (.int k3), .val (.int k4), .val (.ref b64), .val (.int k0), .val (.int k1), .val (.ref b220), .val (.int (((k4.toUInt32 >>> ((2 : Int32) &&& 31).toUInt32).toInt32) &&& (3 : Int32))), .unset, .unset] [])) _
          refine XS.aconstNull X225.here hx rfl (hb hby at_66) ?_
          show Steps p.tables e below (T225.setTop (mkF m 67 #[.val (.int k0), .val (.int k1), .val (.int k2), .val (.int k3), .val (.int k4), .val (.ref b64), .val (.int k0), .val (.int k1), .val (.ref b220), .val (.int (((k4.toUInt32 >>> ((2 : Int32) &&& 31).toUInt32).toInt32) &&& (3 : Int32))), .unset, .unset] [.null])) _
          refine XS.astore X225.here hx rfl (hb hby at_67) rfl rfl (l' := #[.val (.int k0), .val (.int k1), .val (.int k2), .val (.int k3), .val (.int k4), .val (.ref b64), .val (.int k0), .val (.int k1), .val (.ref b220), .val (.int (((k4.toUInt32 >>> ((2 : Int32) &&& 31).toUInt32).toInt32) &&& (3 : Int32))), .val .null, .unset]) rfl ?_
          show Steps p.tables e below (T225.setTop (mkF m 69 #[.val (.int k0), .val (.int k1), .val (.int k2), .val (.int k3), .val (.int k4), .val (.ref b64), .val (.int k0), .val (.int k1), .val (.ref b220), .val (.int (((k4.toUInt32 >>> ((2 : Int32) &&& 31).toUInt32).toInt32) &&& (3 : Int32))), .val .null, .unset] [])) _
          refine XS.iconst X225.here hx rfl (hb hby at_69) ?_
          show Steps p.tables e below (T225.setTop (mkF m 70 #[.val (.int k0), .val (.int k1), .val (.int k2), .val (.int k3), .val (.int k4), .val (.ref b64), .val (.int k0), .val (.int k1), .val (.ref b220), .val (.int (((k4.toUInt32 >>> ((2 : Int32) &&& 31).toUInt32).toInt32) &&& (3 : Int32))), .val .null, .unset] [(.int (0 : Int32))])) _
          refine XS.istore X225.here hx rfl (hb hby at_70) rfl (l' := #[.val (.int k0), .val (.int k1), .val (.int k2), .val (.int k3), .val (.int k4), .val (.ref b64), .val (.int k0), .val (.int k1), .val (.ref b220), .val (.int (((k4.toUInt32 >>> ((2 : Int32) &&& 31).toUInt32).toInt32) &&& (3 : Int32))), .val .null, .val (.int (0 : Int32))]) rfl ?_
          show Steps p.tables e below (T225.setTop (mkF m 72 #[.val (.int k0), .val (.int k1), .val (.int k2), .val (.int k3), .val (.int k4), .val (.ref b64), .val (.int k0), .val (.int k1), .val (.ref b220), .val (.int (((k4.toUInt32 >>> ((2 : Int32) &&& 31).toUInt32).toInt32) &&& (3 : Int32))), .val .null, .val (.int (0 : Int32))] [])) _
          refine XS.goto X225.here hx rfl (pc0 := 72) (pc' := 132) rfl (hb hby at_72) (by decide) (by decide) ?_
          show Steps p.tables e below (T225.setTop (mkF m 132 #[.val (.int k0), .val (.int k1), .val (.int k2), .val (.int k3), .val (.int k4), .val (.ref b64), .val (.int k0), .val (.int k1), .val (.ref b220), .val (.int (((k4.toUInt32 >>> ((2 : Int32) &&& 31).toUInt32).toInt32) &&& (3 : Int32))), .val .null, .val (.int (0 : Int32))] [])) _
          refine XS.aload X225.here hx rfl (hb hby at_132) rfl rfl ?_
          show Steps p.tables e below (T225.setTop (mkF m 134 #[.val (.int k0), .val (.int k1), .val (.int k2), .val (.int k3), .val (.int k4), .val (.ref b64), .val (.int k0), .val (.int k1), .val (.ref b220), .val (.int (((k4.toUInt32 >>> ((2 : Int32) &&& 31).toUInt32).toInt32) &&& (3 : Int32))), .val .null, .val (.int (0 : Int32))] [(.ref b64)])) _
          refine XS.aload X225.here hx rfl (hb hby at_134) rfl rfl ?_
          show Steps p.tables e below (T225.setTop (mkF m 136 #[.val (.int k0), .val (.int k1), .val (.int k2), .val (.int k3), .val (.int k4), .val (.ref b64), .val (.int k0), .val (.int k1), .val (.ref b220), .val (.int (((k4.toUInt32 >>> ((2 : Int32) &&& 31).toUInt32).toInt32) &&& (3 : Int32))), .val .null, .val (.int (0 : Int32))] [.null, (.ref b64)])) _
          refine st233.trans ?_
          show Steps p.tables e below (T233.setTop (mkF m 139 #[.val (.int k0), .val (.int k1), .val (.int k2), .val (.int k3), .val (.int k4), .val (.ref b64), .val (.int k0), .val (.int k1), .val (.ref b220), .val (.int (((k4.toUInt32 >>> ((2 : Int32) &&& 31).toUInt32).toInt32) &&& (3 : Int32))), .val .null, .val (.int (0 : Int32))] [(.int (0 : Int32))])) _
          refine XS.iload X233.here hx rfl (hb hby at_139) rfl ?_
          show Steps p.tables e below (T233.setTop (mkF m 141 #[.val (.int k0), .val (.int k1), .val (.int k2), .val (.int k3), .val (.int k4), .val (.ref b64), .val (.int k0), .val (.int k1), .val (.ref b220), .val (.int (((k4.toUInt32 >>> ((2 : Int32) &&& 31).toUInt32).toInt32) &&& (3 : Int32))), .val .null, .val (.int (0 : Int32))] [(.int (0 : Int32)), (.int (0 : Int32))])) _
          refine XS.icmpYes X233.here hx rfl (pc0 := 141) (pc' := 146) rfl (hb hby at_141) rfl (teq (rfl : (0 : Int32) = (0 : Int32))).1 (by decide) (by decide) ?_
          show Steps p.tables e below (T233.setTop (mkF m 146 #[.val (.int k0), .val (.int k1), .val (.int k2), .val (.int k3), .val (.int k4), .val (.ref b64), .val (.int k0), .val (.int k1), .val (.ref b220), .val (.int (((k4.toUInt32 >>> ((2 : Int32) &&& 31).toUInt32).toInt32) &&& (3 : Int32))), .val .null, .val (.int (0 : Int32))] [])) _
          refine XS.iload X233.here hx rfl (hb hby at_146) rfl ?_
          show Steps p.tables e below (T233.setTop (mkF m 148 #[.val (.int k0), .val (.int k1), .val (.int k2), .val (.int k3), .val (.int k4), .val (.ref b64), .val (.int k0), .val (.int k1), .val (.ref b220), .val (.int (((k4.toUInt32 >>> ((2 : Int32) &&& 31).toUInt32).toInt32) &&& (3 : Int32))), .val .null, .val (.int (0 : Int32))] [(.int (((k4.toUInt32 >>> ((2 : Int32) &&& 31).toUInt32).toInt32) &&& (3 : Int32)))])) _
          refine XS.ifYes X233.here hx rfl (pc0 := 148) (pc' := 165) rfl (hb hby at_148) rfl ((if0 _ _).trans (feq (fun q_ => absurd (hc63_232.symm.trans q_) (by decide))).2) (by decide) (by decide) ?_
          show Steps p.tables e below (T233.setTop (mkF m 165 #[.val (.int k0), .val (.int k1), .val (.int k2), .val (.int k3), .val (.int k4), .val (.ref b64), .val (.int k0), .val (.int k1), .val (.ref b220), .val (.int (((k4.toUInt32 >>> ((2 : Int32) &&& 31).toUInt32).toInt32) &&& (3 : Int32))), .val .null, .val (.int (0 : Int32))] [])) _
          refine XS.iconst X233.here hx rfl (hb hby at_165) ?_
          show Steps p.tables e below (T233.setTop (mkF m 166 #[.val (.int k0), .val (.int k1), .val (.int k2), .val (.int k3), .val (.int k4), .val (.ref b64), .val (.int k0), .val (.int k1), .val (.ref b220), .val (.int (((k4.toUInt32 >>> ((2 : Int32) &&& 31).toUInt32).toInt32) &&& (3 : Int32))), .val .null, .val (.int (0 : Int32))] [(.int (1 : Int32))])) _
          exact k_)
        obtain ⟨fs, hr, hrun, hended, hW, hsame⟩ := X233.leave (v := some (.int (1 : Int32))) (fun h => by rw [Bd.returns] at h; cases h)
        refine ⟨_, _, pre234 _ ?_, hrun, hended, _, _, rfl, ?_, ⟨_, rfl⟩, hW, hsame.mono (by decide) (by decide)⟩
        · show Steps p.tables e below (T233.setTop (mkF m 166 #[.val (.int k0), .val (.int k1), .val (.int k2), .val (.int k3), .val (.int k4), .val (.ref b64), .val (.int k0), .val (.int k1), .val (.ref b220), .val (.int (((k4.toUInt32 >>> ((2 : Int32) &&& 31).toUInt32).toInt32) &&& (3 : Int32))), .val .null, .val (.int (0 : Int32))] [(.int (1 : Int32))])) _
          exact retN X233 hx (t := .boolean) Bd.returns (by simp) (hb hby at_166) hr
        · show Q_0 Z k0 k1 k2 k3 k4 w_cache cl_cache bx h0 n0 _ T233.heap _
          rw [e233]
          exact ⟨rfl, N233⟩
      · have pre235 : ∀ t_, Steps p.tables e below (T225.setTop (mkF m 78 #[.val (.int k0), .val (.int k1), .val (.int k2), .val (.int k3), .val (.int k4), .val (.ref b64), .val (.int k0), .val (.int k1), .val (.ref b220), .val (.int (((k4.toUInt32 >>> ((2 : Int32) &&& 31).toUInt32).toInt32) &&& (3 : Int32))), .unset, .unset] [(.int (2 : Int32)), (.int (((k4.toUInt32 >>> ((2 : Int32) &&& 31).toUInt32).toInt32) &&& (3 : Int32)))])) t_ → Steps p.tables e below (s₁.setTop (entryFrame m #[(.int k0), (.int k1), (.int k2), (.int k3), (.int k4)] maxLocals)) t_ := fun t_ k_ => pre231 t_ (by
          show Steps p.tables e below (T225.setTop (mkF m 63 #[.val (.int k0), .val (.int k1), .val (.int k2), .val (.int k3), .val (.int k4), .val (.ref b64), .val (.int k0), .val (.int k1), .val (.ref b220), .val (.int (((k4.toUInt32 >>> ((2 : Int32) &&& 31).toUInt32).toInt32) &&& (3 : Int32))), .unset, .unset] [(.int (1 : Int32)), (.int (((k4.toUInt32 >>> ((2 : Int32) &&& 31).toUInt32).toInt32) &&& (3 : Int32)))])) _
          refine XS.icmpYes X225.here hx rfl (pc0 := 63) (pc' := 75) rfl (hb hby at_63) rfl (feq hc63_232).2 (by decide) (by decide) ?_
          show Steps p.tables e below (T225.setTop (mkF m 75 #[.val (.int k0), .val (.int k1), .val (.int k2), .val (.int k3), .val (.int k4), .val (.ref b64), .val (.int k0), .val (.int k1), .val (.ref b220), .val (.int (((k4.toUInt32 >>> ((2 : Int32) &&& 31).toUInt32).toInt32) &&& (3 : Int32))), .unset, .unset] [])) _
          refine XS.iload X225.here hx rfl (hb hby at_75) rfl ?_
          show Steps p.tables e below (T225.setTop (mkF m 77 #[.val (.int k0), .val (.int k1), .val (.int k2), .val (.int k3), .val (.int k4), .val (.ref b64), .val (.int k0), .val (.int k1), .val (.ref b220), .val (.int (((k4.toUInt32 >>> ((2 : Int32) &&& 31).toUInt32).toInt32) &&& (3 : Int32))), .unset, .unset] [(.int (((k4.toUInt32 >>> ((2 : Int32) &&& 31).toUInt32).toInt32) &&& (3 : Int32)))])) _
          refine XS.iconst X225.here hx rfl (hb hby at_77) ?_
          show Steps p.tables e below (T225.setTop (mkF m 78 #[.val (.int k0), .val (.int k1), .val (.int k2), .val (.int k3), .val (.int k4), .val (.ref b64), .val (.int k0), .val (.int k1), .val (.ref b220), .val (.int (((k4.toUInt32 >>> ((2 : Int32) &&& 31).toUInt32).toInt32) &&& (3 : Int32))), .unset, .unset] [(.int (2 : Int32)), (.int (((k4.toUInt32 >>> ((2 : Int32) &&& 31).toUInt32).toInt32) &&& (3 : Int32)))])) _
          exact k_)
        by_cases hc78_236 : (((k4.toUInt32 >>> ((2 : Int32) &&& 31).toUInt32).toInt32) &&& (3 : Int32)) = (2 : Int32)
        · obtain ⟨v237, _, ⟨T237, L237, k237, n237⟩, -, X237, ⟨Lc237, hQ237, l237, y237, z237⟩, st237⟩ := Jvm.LawKit.callS X225 hx (y := (⟨"java/lang/Integer", "valueOf", "(I)Ljava/lang/Integer;"⟩ : MethodName)) hown (mvT hZ (hw _ (List.mem_of_getElem? (i := 22) rfl))) (mvT hZ (hw _ (List.mem_of_getElem? (i := 23) rfl))) (mvT hZ (hw _ (List.mem_of_getElem? (i := 24) rfl))) (mvT hZ (hw _ (List.mem_of_getElem? (i := 25) rfl))) (by decide) (backOf (W := 0) (rm_valueOf l Z a0 hw [] k0 w_cache cl_cache bx T225.heap n0 Zs226 (S_high.ext O226) (S_cache.ext O226) Bx (own_ext_trans Oz O226)) hZ (hw _ (List.mem_of_getElem? (i := 25) rfl)) (hw _ (List.mem_of_getElem? (i := 24) rfl)) (by decide) (by decide)) (g := (mkF m 82 #[.val (.int k0), .val (.int k1), .val (.int k2), .val (.int k3), .val (.int k4), .val (.ref b64), .val (.int k0), .val (.int k1), .val (.ref b220), .val (.int (((k4.toUInt32 >>> ((2 : Int32) &&& 31).toUInt32).toInt32) &&& (3 : Int32))), .unset, .unset] [(.int k0)])) rfl (by rw [hml]; rfl) (argsL := [(.int k0)]) (rest := []) (lenOf pd_4 rfl) rfl (by show 2 * 0 + _ ≤ _; exact Nat.le_of_eq rfl) (hb hby at_82) (fun _ _ => ⟨rfl, rfl, (by decide : 2 + 1 ≤ _), (by decide : 6 + 1 ≤ _)⟩)
          dsimp only [Pt.U, Pt.locs, Pt.cells, Pt.slots] at X237 l237 y237 z237 st237 hQ237
          subst l237 y237 z237
          obtain ⟨⟨r237, hv237, Er237⟩, N237q, M237⟩ := hQ237
          have N237 := Fr.app N225 N237q
          subst hv237
          have O238 := own_ext_trans O226 M237
          have Zs238 := Nat.le_trans Zs226 (M237).1
          have c239 : Exa Z T237.heap b64 "com/example/fissure/fissure/games/breakable/Cube" := c227.ext M237
          have c240 : Fld Z T237.heap b64 "com/example/fissure/fissure/games/breakable/Cube" "x" "I" (.int k0) := c228.ext M237
          have c241 : Fld Z T237.heap b64 "com/example/fissure/fissure/games/breakable/Cube" "z" "I" (.int k1) := c229.ext M237
          have c242 : Exa Z T237.heap b220 "com/example/fissure/fissure/games/breakable/Cube" := E225x.ext M237
          have c243 : Fld Z T237.heap b220 "com/example/fissure/fissure/games/breakable/Cube" "x" "I" (.int k0) := F225_x.ext M237
          have c244 : Fld Z T237.heap b220 "com/example/fissure/fissure/games/breakable/Cube" "z" "I" (.int k1) := F225_z.ext M237
          obtain ⟨cq245, kq245, q245a, q245b, q245c⟩ := isOf hZ rfl c239
          obtain ⟨v245, _, ⟨T245, L245, k245, n245⟩, -, X245, ⟨Lc245, hQ245, l245, y245, z245⟩, st245⟩ := X237.virtualBack hx (y := (⟨"com/example/fissure/fissure/games/breakable/Cube", "equals", "(Ljava/lang/Object;)Z"⟩ : MethodName)) (z := (⟨"com/example/fissure/fissure/games/breakable/Cube", "equals", "(Ljava/lang/Object;)Z"⟩ : MethodName)) hown (mvT hZ (hw _ (List.mem_of_getElem? (i := 15) rfl))) (mvT hZ (hw _ (List.mem_of_getElem? (i := 16) rfl))) (notFace_of_selects (args := #[]) (mvT hZ (hw _ (List.mem_of_getElem? (i := 18) rfl)))) (mvT hZ (hw _ (List.mem_of_getElem? (i := 18) rfl))) (mvT hZ (hw _ (List.mem_of_getElem? (i := 17) rfl))) (by decide) (backOf (W := 0) (rm_eqI l Z a0 hw [] b64 r237 T237.heap n0 Zs238 Er237) hZ (hw _ (List.mem_of_getElem? (i := 19) rfl)) (hw _ (List.mem_of_getElem? (i := 2) rfl)) (by decide) (by decide)) q245a q245c (g := (mkF m 136 #[.val (.int k0), .val (.int k1), .val (.int k2), .val (.int k3), .val (.int k4), .val (.ref b64), .val (.int k0), .val (.int k1), .val (.ref b220), .val (.int (((k4.toUInt32 >>> ((2 : Int32) &&& 31).toUInt32).toInt32) &&& (3 : Int32))), .val (.ref r237), .val (.int (0 : Int32))] [(.ref r237), (.ref b64)])) rfl (by rw [hml]; rfl) (Steps.refl _) (argsL := [(.ref r237)]) (rest := []) (lenOf pd_3 rfl) rfl (by show 2 * 0 + _ ≤ _; exact Nat.le_of_eq rfl) (hb hby at_136) (fun _ _ => ⟨rfl, rfl, (by decide : 3 + 0 ≤ _), (by decide : 7 + 0 ≤ _)⟩)
          dsimp only [Pt.U, Pt.locs, Pt.cells, Pt.slots] at X245 l245 y245 z245 st245 hQ245
          subst l245 y245 z245
          obtain ⟨hv245, N245q, e245⟩ := hQ245
          have N245 := Fr.app N237 N245q
          subst hv245
          have pre246 : ∀ t_, Steps p.tables e below (T245.setTop (mkF m 166 #[.val (.int k0), .val (.int k1), .val (.int k2), .val (.int k3), .val (.int k4), .val (.ref b64), .val (.int k0), .val (.int k1), .val (.ref b220), .val (.int (((k4.toUInt32 >>> ((2 : Int32) &&& 31).toUInt32).toInt32) &&& (3 : Int32))), .val (.ref r237), .val (.int (0 : Int32))] [(.int (1 : Int32))])) t_ → Steps p.tables e below (s₁.setTop (entryFrame m #[(.int k0), (.int k1), (.int k2), (.int k3), (.int k4)] maxLocals)) t_ := fun t_ k_ => pre235 t_ (by
            show Steps p.tables e below (T225.setTop (mkF m 78 #[.val (.int k0), .val (.int k1), .val (.int k2), .val (.int k3), .val (.int k4), .val (.ref b64), .val (.int k0), .val (.int k1), .val (.ref b220), .val (.int (((k4.toUInt32 >>> ((2 : Int32) &&& 31).toUInt32).toInt32) &&& (3 : Int32))), .unset, .unset] [(.int (2 : Int32)), (.int (((k4.toUInt32 >>> ((2 : Int32) &&& 31).toUInt32).toInt32) &&& (3 : Int32)))])) _
            refine XS.icmpNo X225.here hx rfl (hb hby at_78) rfl (teq hc78_236).2 ?_
            show Steps p.tables e below (T225.setTop (mkF m 81 #[.val (.int k0), .val (.int k1), .val (.int k2), .val (.int k3), .val (.int k4), .val (.ref b64), .val (.int k0), .val (.int k1), .val (.ref b220), .val (.int (((k4.toUInt32 >>> ((2 : Int32) &&& 31).toUInt32).toInt32) &&& (3 : Int32))), .unset, .unset] [])) _
            refine XS.iloadN X225.here hx rfl (hb hby at_81) rfl ?_
            show Steps p.tables e below (T225.setTop (mkF m 82 #[.val (.int k0), .val (.int k1), .val (.int k2), .val (.int k3), .val (.int k4), .val (.ref b64), .val (.int k0), .val (.int k1), .val (.ref b220), .val (.int (((k4.toUInt32 >>> ((2 : Int32) &&& 31).toUInt32).toInt32) &&& (3 : Int32))), .unset, .unset] [(.int k0)])) _
            refine st237 _ ?_
            show Steps p.tables e below (T237.setTop (mkF m 85 #[.val (.int k0), .val (.int k1), .val (.int k2), .val (.int k3), .val (.int k4), .val (.ref b64), .val (.int k0), .val (.int k1), .val (.ref b220), .val (.int (((k4.toUInt32 >>> ((2 : Int32) &&& 31).toUInt32).toInt32) &&& (3 : Int32))), .unset, .unset] [(.ref r237)])) _
            refine XS.astore X237.here hx rfl (hb hby at_85) rfl rfl (l' := #[.val (.int k0), .val (.int k1), .val (.int k2), .val (.int k3), .val (.int k4), .val (.ref b64), .val (.int k0), .val (.int k1), .val (.ref b220), .val (.int (((k4.toUInt32 >>> ((2 : Int32) &&& 31).toUInt32).toInt32) &&& (3 : Int32))), .val (.ref r237), .unset]) rfl ?_
            show Steps p.tables e below (T237.setTop (mkF m 87 #[.val (.int k0), .val (.int k1), .val (.int k2), .val (.int k3), .val (.int k4), .val (.ref b64), .val (.int k0), .val (.int k1), .val (.ref b220), .val (.int (((k4.toUInt32 >>> ((2 : Int32) &&& 31).toUInt32).toInt32) &&& (3 : Int32))), .val (.ref r237), .unset] [])) _
            refine XS.iconst X237.here hx rfl (hb hby at_87) ?_
            show Steps p.tables e below (T237.setTop (mkF m 88 #[.val (.int k0), .val (.int k1), .val (.int k2), .val (.int k3), .val (.int k4), .val (.ref b64), .val (.int k0), .val (.int k1), .val (.ref b220), .val (.int (((k4.toUInt32 >>> ((2 : Int32) &&& 31).toUInt32).toInt32) &&& (3 : Int32))), .val (.ref r237), .unset] [(.int (0 : Int32))])) _
            refine XS.istore X237.here hx rfl (hb hby at_88) rfl (l' := #[.val (.int k0), .val (.int k1), .val (.int k2), .val (.int k3), .val (.int k4), .val (.ref b64), .val (.int k0), .val (.int k1), .val (.ref b220), .val (.int (((k4.toUInt32 >>> ((2 : Int32) &&& 31).toUInt32).toInt32) &&& (3 : Int32))), .val (.ref r237), .val (.int (0 : Int32))]) rfl ?_
            show Steps p.tables e below (T237.setTop (mkF m 90 #[.val (.int k0), .val (.int k1), .val (.int k2), .val (.int k3), .val (.int k4), .val (.ref b64), .val (.int k0), .val (.int k1), .val (.ref b220), .val (.int (((k4.toUInt32 >>> ((2 : Int32) &&& 31).toUInt32).toInt32) &&& (3 : Int32))), .val (.ref r237), .val (.int (0 : Int32))] [])) _
            refine XS.goto X237.here hx rfl (pc0 := 90) (pc' := 132) rfl (hb hby at_90) (by decide) (by decide) ?_
            show Steps p.tables e below (T237.setTop (mkF m 132 #[.val (.int k0), .val (.int k1), .val (.int k2), .val (.int k3), .val (.int k4), .val (.ref b64), .val (.int k0), .val (.int k1), .val (.ref b220), .val (.int (((k4.toUInt32 >>> ((2 : Int32) &&& 31).toUInt32).toInt32) &&& (3 : Int32))), .val (.ref r237), .val (.int (0 : Int32))] [])) _
            refine XS.aload X237.here hx rfl (hb hby at_132) rfl rfl ?_
            show Steps p.tables e below (T237.setTop (mkF m 134 #[.val (.int k0), .val (.int k1), .val (.int k2), .val (.int k3), .val (.int k4), .val (.ref b64), .val (.int k0), .val (.int k1), .val (.ref b220), .val (.int (((k4.toUInt32 >>> ((2 : Int32) &&& 31).toUInt32).toInt32) &&& (3 : Int32))), .val (.ref r237), .val (.int (0 : Int32))] [(.ref b64)])) _
            refine XS.aload X237.here hx rfl (hb hby at_134) rfl rfl ?_
            show Steps p.tables e below (T237.setTop (mkF m 136 #[.val (.int k0), .val (.int k1), .val (.int k2), .val (.int k3), .val (.int k4), .val (.ref b64), .val (.int k0), .val (.int k1), .val (.ref b220), .val (.int (((k4.toUInt32 >>> ((2 : Int32) &&& 31).toUInt32).toInt32) &&& (3 : Int32))), .val (.ref r237), .val (.int (0 : Int32))] [(.ref r237), (.ref b64)])) _
            refine st245.trans ?_
            show Steps p.tables e below (T245.setTop (mkF m 139 #[.val (.int k0), .val (.int k1), .val (.int k2), .val (.int k3), .val (.int k4), .val (.ref b64), .val (.int k0), .val (.int k1), .val (.ref b220), .val (.int (((k4.toUInt32 >>> ((2 : Int32) &&& 31).toUInt32).toInt32) &&& (3 : Int32))), .val (.ref r237), .val (.int (0 : Int32))] [(.int (0 : Int32))])) _
            refine XS.iload X245.here hx rfl (hb hby at_139) rfl ?_
            show Steps p.tables e below (T245.setTop (mkF m 141 #[.val (.int k0), .val (.int k1), .val (.int k2), .val (.int k3), .val (.int k4), .val (.ref b64), .val (.int k0), .val (.int k1), .val (.ref b220), .val (.int (((k4.toUInt32 >>> ((2 : Int32) &&& 31).toUInt32).toInt32) &&& (3 : Int32))), .val (.ref r237), .val (.int (0 : Int32))] [(.int (0 : Int32)), (.int (0 : Int32))])) _
            refine XS.icmpYes X245.here hx rfl (pc0 := 141) (pc' := 146) rfl (hb hby at_141) rfl (teq (rfl : (0 : Int32) = (0 : Int32))).1 (by decide) (by decide) ?_
            show Steps p.tables e below (T245.setTop (mkF m 146 #[.val (.int k0), .val (.int k1), .val (.int k2), .val (.int k3), .val (.int k4), .val (.ref b64), .val (.int k0), .val (.int k1), .val (.ref b220), .val (.int (((k4.toUInt32 >>> ((2 : Int32) &&& 31).toUInt32).toInt32) &&& (3 : Int32))), .val (.ref r237), .val (.int (0 : Int32))] [])) _
            refine XS.iload X245.here hx rfl (hb hby at_146) rfl ?_
            show Steps p.tables e below (T245.setTop (mkF m 148 #[.val (.int k0), .val (.int k1), .val (.int k2), .val (.int k3), .val (.int k4), .val (.ref b64), .val (.int k0), .val (.int k1), .val (.ref b220), .val (.int (((k4.toUInt32 >>> ((2 : Int32) &&& 31).toUInt32).toInt32) &&& (3 : Int32))), .val (.ref r237), .val (.int (0 : Int32))] [(.int (((k4.toUInt32 >>> ((2 : Int32) &&& 31).toUInt32).toInt32) &&& (3 : Int32)))])) _
            refine XS.ifYes X245.here hx rfl (pc0 := 148) (pc' := 165) rfl (hb hby at_148) rfl ((if0 _ _).trans (feq (fun q_ => absurd (hc78_236.symm.trans q_) (by decide))).2) (by decide) (by decide) ?_
            show Steps p.tables e below (T245.setTop (mkF m 165 #[.val (.int k0), .val (.int k1), .val (.int k2), .val (.int k3), .val (.int k4), .val (.ref b64), .val (.int k0), .val (.int k1), .val (.ref b220), .val (.int (((k4.toUInt32 >>> ((2 : Int32) &&& 31).toUInt32).toInt32) &&& (3 : Int32))), .val (.ref r237), .val (.int (0 : Int32))] [])) _
            refine XS.iconst X245.here hx rfl (hb hby at_165) ?_
            show Steps p.tables e below (T245.setTop (mkF m 166 #[.val (.int k0), .val (.int k1), .val (.int k2), .val (.int k3), .val (.int k4), .val (.ref b64), .val (.int k0), .val (.int k1), .val (.ref b220), .val (.int (((k4.toUInt32 >>> ((2 : Int32) &&& 31).toUInt32).toInt32) &&& (3 : Int32))), .val (.ref r237), .val (.int (0 : Int32))] [(.int (1 : Int32))])) _
            exact k_)
          obtain ⟨fs, hr, hrun, hended, hW, hsame⟩ := X245.leave (v := some (.int (1 : Int32))) (fun h => by rw [Bd.returns] at h; cases h)
          refine ⟨_, _, pre246 _ ?_, hrun, hended, _, _, rfl, ?_, ⟨_, rfl⟩, hW, hsame.mono (by decide) (by decide)⟩
          · show Steps p.tables e below (T245.setTop (mkF m 166 #[.val (.int k0), .val (.int k1), .val (.int k2), .val (.int k3), .val (.int k4), .val (.ref b64), .val (.int k0), .val (.int k1), .val (.ref b220), .val (.int (((k4.toUInt32 >>> ((2 : Int32) &&& 31).toUInt32).toInt32) &&& (3 : Int32))), .val (.ref r237), .val (.int (0 : Int32))] [(.int (1 : Int32))])) _
            exact retN X245 hx (t := .boolean) Bd.returns (by simp) (hb hby at_166) hr
          · show Q_0 Z k0 k1 k2 k3 k4 w_cache cl_cache bx h0 n0 _ T245.heap _
            rw [e245]
            exact ⟨rfl, N245⟩
        · have pre247 : ∀ t_, Steps p.tables e below (T225.setTop (mkF m 96 #[.val (.int k0), .val (.int k1), .val (.int k2), .val (.int k3), .val (.int k4), .val (.ref b64), .val (.int k0), .val (.int k1), .val (.ref b220), .val (.int (((k4.toUInt32 >>> ((2 : Int32) &&& 31).toUInt32).toInt32) &&& (3 : Int32))), .unset, .unset] [(.int (3 : Int32)), (.int (((k4.toUInt32 >>> ((2 : Int32) &&& 31).toUInt32).toInt32) &&& (3 : Int32)))])) t_ → Steps p.tables e below (s₁.setTop (entryFrame m #[(.int k0), (.int k1), (.int k2), (.int k3), (.int k4)] maxLocals)) t_ := fun t_ k_ => pre235 t_ (by
            show Steps p.tables e below (T225.setTop (mkF m 78 #[.val (.int k0), .val (.int k1), .val (.int k2), .val (.int k3), .val (.int k4), .val (.ref b64), .val (.int k0), .val (.int k1), .val (.ref b220), .val (.int (((k4.toUInt32 >>> ((2 : Int32) &&& 31).toUInt32).toInt32) &&& (3 : Int32))), .unset, .unset] [(.int (2 : Int32)), (.int (((k4.toUInt32 >>> ((2 : Int32) &&& 31).toUInt32).toInt32) &&& (3 : Int32)))])) _
            refine XS.icmpYes X225.here hx rfl (pc0 := 78) (pc' := 93) rfl (hb hby at_78) rfl (feq hc78_236).2 (by decide) (by decide) ?_
            show Steps p.tables e below (T225.setTop (mkF m 93 #[.val (.int k0), .val (.int k1), .val (.int k2), .val (.int k3), .val (.int k4), .val (.ref b64), .val (.int k0), .val (.int k1), .val (.ref b220), .val (.int (((k4.toUInt32 >>> ((2 : Int32) &&& 31).toUInt32).toInt32) &&& (3 : Int32))), .unset, .unset] [])) _
            refine XS.iload X225.here hx rfl (hb hby at_93) rfl ?_
            show Steps p.tables e below (T225.setTop (mkF m 95 #[.val (.int k0), .val (.int k1), .val (.int k2), .val (.int k3), .val (.int k4), .val (.ref b64), .val (.int k0), .val (.int k1), .val (.ref b220), .val (.int (((k4.toUInt32 >>> ((2 : Int32) &&& 31).toUInt32).toInt32) &&& (3 : Int32))), .unset, .unset] [(.int (((k4.toUInt32 >>> ((2 : Int32) &&& 31).toUInt32).toInt32) &&& (3 : Int32)))])) _
            refine XS.iconst X225.here hx rfl (hb hby at_95) ?_
            show Steps p.tables e below (T225.setTop (mkF m 96 #[.val (.int k0), .val (.int k1), .val (.int k2), .val (.int k3), .val (.int k4), .val (.ref b64), .val (.int k0), .val (.int k1), .val (.ref b220), .val (.int (((k4.toUInt32 >>> ((2 : Int32) &&& 31).toUInt32).toInt32) &&& (3 : Int32))), .unset, .unset] [(.int (3 : Int32)), (.int (((k4.toUInt32 >>> ((2 : Int32) &&& 31).toUInt32).toInt32) &&& (3 : Int32)))])) _
            exact k_)
          by_cases hc96_248 : (((k4.toUInt32 >>> ((2 : Int32) &&& 31).toUInt32).toInt32) &&& (3 : Int32)) = (3 : Int32)
          · obtain ⟨cq249, kq249, q249a, q249b, q249c⟩ := isOf hZ rfl c227
            obtain ⟨v249, _, ⟨T249, L249, k249, n249⟩, -, X249, ⟨Lc249, hQ249, l249, y249, z249⟩, st249⟩ := X225.virtualBack hx (y := (⟨"com/example/fissure/fissure/games/breakable/Cube", "equals", "(Ljava/lang/Object;)Z"⟩ : MethodName)) (z := (⟨"com/example/fissure/fissure/games/breakable/Cube", "equals", "(Ljava/lang/Object;)Z"⟩ : MethodName)) hown (mvT hZ (hw _ (List.mem_of_getElem? (i := 15) rfl))) (mvT hZ (hw _ (List.mem_of_getElem? (i := 16) rfl))) (notFace_of_selects (args := #[]) (mvT hZ (hw _ (List.mem_of_getElem? (i := 18) rfl)))) (mvT hZ (hw _ (List.mem_of_getElem? (i := 18) rfl))) (mvT hZ (hw _ (List.mem_of_getElem? (i := 17) rfl))) (by decide) (backOf (W := 0) (rm_eqC l Z a0 hw [] b64 b64 k0 k1 k0 k1 T225.heap n0 Zs226 c227 c228 c229 c228 c229) hZ (hw _ (List.mem_of_getElem? (i := 19) rfl)) (hw _ (List.mem_of_getElem? (i := 2) rfl)) (by decide) (by decide)) q249a q249c (g := (mkF m 136 #[.val (.int k0), .val (.int k1), .val (.int k2), .val (.int k3), .val (.int k4), .val (.ref b64), .val (.int k0), .val (.int k1), .val (.ref b220), .val (.int (((k4.toUInt32 >>> ((2 : Int32) &&& 31).toUInt32).toInt32) &&& (3 : Int32))), .val (.ref b64), .val (.int (1 : Int32))] [(.ref b64), (.ref b64)])) rfl (by rw [hml]; rfl) (Steps.refl _) (argsL := [(.ref b64)]) (rest := []) (lenOf pd_3 rfl) rfl (by show 2 * 0 + _ ≤ _; exact Nat.le_of_eq rfl) (hb hby at_136) (fun _ _ => ⟨rfl, rfl, (by decide : 2 + 0 ≤ _), (by decide : 6 + 0 ≤ _)⟩)
            dsimp only [Pt.U, Pt.locs, Pt.cells, Pt.slots] at X249 l249 y249 z249 st249 hQ249
            subst l249 y249 z249
            obtain ⟨hv249, N249q, e249⟩ := hQ249
            have N249 := Fr.app N225 N249q
            have hw249 : v249 = some (.int (1 : Int32)) := hv249.trans (congrArg (fun z => some (Value.int z)) (own_self _ _))
            subst hw249
            have pre250 : ∀ t_, Steps p.tables e below (T249.setTop (mkF m 166 #[.val (.int k0), .val (.int k1), .val (.int k2), .val (.int k3), .val (.int k4), .val (.ref b64), .val (.int k0), .val (.int k1), .val (.ref b220), .val (.int (((k4.toUInt32 >>> ((2 : Int32) &&& 31).toUInt32).toInt32) &&& (3 : Int32))), .val (.ref b64), .val (.int (1 : Int32))] [(.int (1 : Int32))])) t_ → Steps p.tables e below (s₁.setTop (entryFrame m #[(.int k0), (.int k1), (.int k2), (.int k3), (.int k4)] maxLocals)) t_ := fun t_ k_ => pre247 t_ (by
              show Steps p.tables e below (T225.setTop (mkF m 96 #[.val (.int k0), .val (.int k1), .val (.int k2), .val (.int k3), .val (.int k4), .val (.ref b64), .val (.int k0), .val (.int k1), .val (.ref b220), .val (.int (((k4.toUInt32 >>> ((2 : Int32) &&& 31).toUInt32).toInt32) &&& (3 : Int32))), .unset, .unset] [(.int (3 : Int32)), (.int (((k4.toUInt32 >>> ((2 : Int32) &&& 31).toUInt32).toInt32) &&& (3 : Int32)))])) _
              refine XS.icmpNo X225.here hx rfl (hb hby at_96) rfl (teq hc96_248).2 ?_
              show Steps p.tables e below (T225.setTop (mkF m 99 #[.val (.int k0), .val (.int k1), .val (.int k2), .val (.int k3), .val (.int k4), .val (.ref b64), .val (.int k0), .val (.int k1), .val (.ref b220), .val (.int (((k4.toUInt32 >>> ((2 : Int32) &&& 31).toUInt32).toInt32) &&& (3 : Int32))), .unset, .unset] [])) _
              refine XS.aload X225.here hx rfl (hb hby at_99) rfl rfl ?_
              show Steps p.tables e below (T225.setTop (mkF m 101 #[.val (.int k0), .val (.int k1), .val (.int k2), .val (.int k3), .val (.int k4), .val (.ref b64), .val (.int k0), .val (.int k1), .val (.ref b220), .val (.int (((k4.toUInt32 >>> ((2 : Int32) &&& 31).toUInt32).toInt32) &&& (3 : Int32))), .unset, .unset] [(.ref b64)])) _
              refine XS.astore X225.here hx rfl (hb hby at_101) rfl rfl (l' := #[.val (.int k0), .val (.int k1), .val (.int k2), .val (.int k3), .val (.int k4), .val (.ref b64), .val (.int k0), .val (.int k1), .val (.ref b220), .val (.int (((k4.toUInt32 >>> ((2 : Int32) &&& 31).toUInt32).toInt32) &&& (3 : Int32))), .val (.ref b64), .unset]) rfl ?_
              show Steps p.tables e below (T225.setTop (mkF m 103 #[.val (.int k0), .val (.int k1), .val (.int k2), .val (.int k3), .val (.int k4), .val (.ref b64), .val (.int k0), .val (.int k1), .val (.ref b220), .val (.int (((k4.toUInt32 >>> ((2 : Int32) &&& 31).toUInt32).toInt32) &&& (3 : Int32))), .val (.ref b64), .unset] [])) _
              refine XS.iconst X225.here hx rfl (hb hby at_103) ?_
              show Steps p.tables e below (T225.setTop (mkF m 104 #[.val (.int k0), .val (.int k1), .val (.int k2), .val (.int k3), .val (.int k4), .val (.ref b64), .val (.int k0), .val (.int k1), .val (.ref b220), .val (.int (((k4.toUInt32 >>> ((2 : Int32) &&& 31).toUInt32).toInt32) &&& (3 : Int32))), .val (.ref b64), .unset] [(.int (1 : Int32))])) _
              refine XS.istore X225.here hx rfl (hb hby at_104) rfl (l' := #[.val (.int k0), .val (.int k1), .val (.int k2), .val (.int k3), .val (.int k4), .val (.ref b64), .val (.int k0), .val (.int k1), .val (.ref b220), .val (.int (((k4.toUInt32 >>> ((2 : Int32) &&& 31).toUInt32).toInt32) &&& (3 : Int32))), .val (.ref b64), .val (.int (1 : Int32))]) rfl ?_
              show Steps p.tables e below (T225.setTop (mkF m 106 #[.val (.int k0), .val (.int k1), .val (.int k2), .val (.int k3), .val (.int k4), .val (.ref b64), .val (.int k0), .val (.int k1), .val (.ref b220), .val (.int (((k4.toUInt32 >>> ((2 : Int32) &&& 31).toUInt32).toInt32) &&& (3 : Int32))), .val (.ref b64), .val (.int (1 : Int32))] [])) _
              refine XS.goto X225.here hx rfl (pc0 := 106) (pc' := 132) rfl (hb hby at_106) (by decide) (by decide) ?_
              show Steps p.tables e below (T225.setTop (mkF m 132 #[.val (.int k0), .val (.int k1), .val (.int k2), .val (.int k3), .val (.int k4), .val (.ref b64), .val (.int k0), .val (.int k1), .val (.ref b220), .val (.int (((k4.toUInt32 >>> ((2 : Int32) &&& 31).toUInt32).toInt32) &&& (3 : Int32))), .val (.ref b64), .val (.int (1 : Int32))] [])) _
              refine XS.aload X225.here hx rfl (hb hby at_132) rfl rfl ?_
              show Steps p.tables e below (T225.setTop (mkF m 134 #[.val (.int k0), .val (.int k1), .val (.int k2), .val (.int k3), .val (.int k4), .val (.ref b64), .val (.int k0), .val (.int k1), .val (.ref b220), .val (.int (((k4.toUInt32 >>> ((2 : Int32) &&& 31).toUInt32).toInt32) &&& (3 : Int32))), .val (.ref b64), .val (.int (1 : Int32))] [(.ref b64)])) _
              refine XS.aload X225.here hx rfl (hb hby at_134) rfl rfl ?_
              show Steps p.tables e below (T225.setTop (mkF m 136 #[.val (.int k0), .val (.int k1), .val (.int k2), .val (.int k3), .val (.int k4), .val (.ref b64), .val (.int k0), .val (.int k1), .val (.ref b220), .val (.int (((k4.toUInt32 >>> ((2 : Int32) &&& 31).toUInt32).toInt32) &&& (3 : Int32))), .val (.ref b64), .val (.int (1 : Int32))] [(.ref b64), (.ref b64)])) _
              refine st249.trans ?_
              show Steps p.tables e below (T249.setTop (mkF m 139 #[.val (.int k0), .val (.int k1), .val (.int k2), .val (.int k3), .val (.int k4), .val (.ref b64), .val (.int k0), .val (.int k1), .val (.ref b220), .val (.int (((k4.toUInt32 >>> ((2 : Int32) &&& 31).toUInt32).toInt32) &&& (3 : Int32))), .val (.ref b64), .val (.int (1 : Int32))] [(.int (1 : Int32))])) _
              refine XS.iload X249.here hx rfl (hb hby at_139) rfl ?_
              show Steps p.tables e below (T249.setTop (mkF m 141 #[.val (.int k0), .val (.int k1), .val (.int k2), .val (.int k3), .val (.int k4), .val (.ref b64), .val (.int k0), .val (.int k1), .val (.ref b220), .val (.int (((k4.toUInt32 >>> ((2 : Int32) &&& 31).toUInt32).toInt32) &&& (3 : Int32))), .val (.ref b64), .val (.int (1 : Int32))] [(.int (1 : Int32)), (.int (1 : Int32))])) _
              refine XS.icmpYes X249.here hx rfl (pc0 := 141) (pc' := 146) rfl (hb hby at_141) rfl (teq (rfl : (1 : Int32) = (1 : Int32))).1 (by decide) (by decide) ?_
              show Steps p.tables e below (T249.setTop (mkF m 146 #[.val (.int k0), .val (.int k1), .val (.int k2), .val (.int k3), .val (.int k4), .val (.ref b64), .val (.int k0), .val (.int k1), .val (.ref b220), .val (.int (((k4.toUInt32 >>> ((2 : Int32) &&& 31).toUInt32).toInt32) &&& (3 : Int32))), .val (.ref b64), .val (.int (1 : Int32))] [])) _
              refine XS.iload X249.here hx rfl (hb hby at_146) rfl ?_
              show Steps p.tables e below (T249.setTop (mkF m 148 #[.val (.int k0), .val (.int k1), .val (.int k2), .val (.int k3), .val (.int k4), .val (.ref b64), .val (.int k0), .val (.int k1), .val (.ref b220), .val (.int (((k4.toUInt32 >>> ((2 : Int32) &&& 31).toUInt32).toInt32) &&& (3 : Int32))), .val (.ref b64), .val (.int (1 : Int32))] [(.int (((k4.toUInt32 >>> ((2 : Int32) &&& 31).toUInt32).toInt32) &&& (3 : Int32)))])) _
              refine XS.ifYes X249.here hx rfl (pc0 := 148) (pc' := 165) rfl (hb hby at_148) rfl ((if0 _ _).trans (feq (fun q_ => absurd (hc96_248.symm.trans q_) (by decide))).2) (by decide) (by decide) ?_
              show Steps p.tables e below (T249.setTop (mkF m 165 #[.val (.int k0), .val (.int k1), .val (.int k2), .val (.int k3), .val (.int k4), .val (.ref b64), .val (.int k0), .val (.int k1), .val (.ref b220), .val (.int (((k4.toUInt32 >>> ((2 : Int32) &&& 31).toUInt32).toInt32) &&& (3 : Int32))), .val (.ref b64), .val (.int (1 : Int32))] [])) _
              refine XS.iconst X249.here hx rfl (hb hby at_165) ?_
              show Steps p.tables e below (T249.setTop (mkF m 166 #[.val (.int k0), .val (.int k1), .val (.int k2), .val (.int k3), .val (.int k4), .val (.ref b64), .val (.int k0), .val (.int k1), .val (.ref b220), .val (.int (((k4.toUInt32 >>> ((2 : Int32) &&& 31).toUInt32).toInt32) &&& (3 : Int32))), .val (.ref b64), .val (.int (1 : Int32))] [(.int (1 : Int32))])) _
              exact k_)
            obtain ⟨fs, hr, hrun, hended, hW, hsame⟩ := X249.leave (v := some (.int (1 : Int32))) (fun h => by rw [Bd.returns] at h; cases h)
            refine ⟨_, _, pre250 _ ?_, hrun, hended, _, _, rfl, ?_, ⟨_, rfl⟩, hW, hsame.mono (by decide) (by decide)⟩
            · show Steps p.tables e below (T249.setTop (mkF m 166 #[.val (.int k0), .val (.int k1), .val (.int k2), .val (.int k3), .val (.int k4), .val (.ref b64), .val (.int k0), .val (.int k1), .val (.ref b220), .val (.int (((k4.toUInt32 >>> ((2 : Int32) &&& 31).toUInt32).toInt32) &&& (3 : Int32))), .val (.ref b64), .val (.int (1 : Int32))] [(.int (1 : Int32))])) _
              exact retN X249 hx (t := .boolean) Bd.returns (by simp) (hb hby at_166) hr
            · show Q_0 Z k0 k1 k2 k3 k4 w_cache cl_cache bx h0 n0 _ T249.heap _
              rw [e249]
              exact ⟨rfl, N249⟩
          · obtain ⟨cq251, kq251, q251a, q251b, q251c⟩ := isOf hZ rfl c227
            obtain ⟨v251, _, ⟨T251, L251, k251, n251⟩, -, X251, ⟨Lc251, hQ251, l251, y251, z251⟩, st251⟩ := X225.virtualBack hx (y := (⟨"com/example/fissure/fissure/games/breakable/Cube", "equals", "(Ljava/lang/Object;)Z"⟩ : MethodName)) (z := (⟨"com/example/fissure/fissure/games/breakable/Cube", "equals", "(Ljava/lang/Object;)Z"⟩ : MethodName)) hown (mvT hZ (hw _ (List.mem_of_getElem? (i := 15) rfl))) (mvT hZ (hw _ (List.mem_of_getElem? (i := 16) rfl))) (notFace_of_selects (args := #[]) (mvT hZ (hw _ (List.mem_of_getElem? (i := 18) rfl)))) (mvT hZ (hw _ (List.mem_of_getElem? (i := 18) rfl))) (mvT hZ (hw _ (List.mem_of_getElem? (i := 17) rfl))) (by decide) (backOf (W := 0) (rm_eqC l Z a0 hw [] b64 b220 k0 k1 k0 k1 T225.heap n0 Zs226 E225x c228 c229 F225_x F225_z) hZ (hw _ (List.mem_of_getElem? (i := 19) rfl)) (hw _ (List.mem_of_getElem? (i := 2) rfl)) (by decide) (by decide)) q251a q251c (g := (mkF m 136 #[.val (.int k0), .val (.int k1), .val (.int k2), .val (.int k3), .val (.int k4), .val (.ref b64), .val (.int k0), .val (.int k1), .val (.ref b220), .val (.int (((k4.toUInt32 >>> ((2 : Int32) &&& 31).toUInt32).toInt32) &&& (3 : Int32))), .val (.ref b220), .val (.int (1 : Int32))] [(.ref b220), (.ref b64)])) rfl (by rw [hml]; rfl) (Steps.refl _) (argsL := [(.ref b220)]) (rest := []) (lenOf pd_3 rfl) rfl (by show 2 * 0 + _ ≤ _; exact Nat.le_of_eq rfl) (hb hby at_136) (fun _ _ => ⟨rfl, rfl, (by decide : 2 + 0 ≤ _), (by decide : 6 + 0 ≤ _)⟩)
            dsimp only [Pt.U, Pt.locs, Pt.cells, Pt.slots] at X251 l251 y251 z251 st251 hQ251
            subst l251 y251 z251
            obtain ⟨hv251, N251q, e251⟩ := hQ251
            have N251 := Fr.app N225 N251q
            have hw251 : v251 = some (.int (1 : Int32)) := hv251.trans (congrArg (fun z => some (Value.int z)) (own_yes rfl rfl))
            subst hw251
            have pre252 : ∀ t_, Steps p.tables e below (T251.setTop (mkF m 148 #[.val (.int k0), .val (.int k1), .val (.int k2), .val (.int k3), .val (.int k4), .val (.ref b64), .val (.int k0), .val (.int k1), .val (.ref b220), .val (.int (((k4.toUInt32 >>> ((2 : Int32) &&& 31).toUInt32).toInt32) &&& (3 : Int32))), .val (.ref b220), .val (.int (1 : Int32))] [(.int (((k4.toUInt32 >>> ((2 : Int32) &&& 31).toUInt32).toInt32) &&& (3 : Int32)))])) t_ → Steps p.tables e below (s₁.setTop (entryFrame m #[(.int k0), (.int k1), (.int k2), (.int k3), (.int k4)] maxLocals)) t_ := fun t_ k_ => pre247 t_ (by
              show Steps p.tables e below (T225.setTop (mkF m 96 #[.val (.int k0), .val (.int k1), .val (.int k2), .val (.int k3), .val (.int k4), .val (.ref b64), .val (.int k0), .val (.int k1), .val (.ref b220), .val (.int (((k4.toUInt32 >>> ((2 : Int32) &&& 31).toUInt32).toInt32) &&& (3 : Int32))), .unset, .unset] [(.int (3 : Int32)), (.int (((k4.toUInt32 >>> ((2 : Int32) &&& 31).toUInt32).toInt32) &&& (3 : Int32)))])) _
              refine XS.icmpYes X225.here hx rfl (pc0 := 96) (pc' := 109) rfl (hb hby at_96) rfl (feq hc96_248).2 (by decide) (by decide) ?_
              show Steps p.tables e below (T225.setTop (mkF m 109 #[.val (.int k0), .val (.int k1), .val (.int k2), .val (.int k3), .val (.int k4), .val (.ref b64), .val (.int k0), .val (.int k1), .val (.ref b220), .val (.int (((k4.toUInt32 >>> ((2 : Int32) &&& 31).toUInt32).toInt32) &&& (3 : Int32))), .unset, .unset] [])) _
              refine XS.aload X225.here hx rfl (hb hby at_109) rfl rfl ?_
              show Steps p.tables e below (T225.setTop (mkF m 111 #[.val (.int k0), .val (.int k1), .val (.int k2), .val (.int k3), .val (.int k4), .val (.ref b64), .val (.int k0), .val (.int k1), .val (.ref b220), .val (.int (((k4.toUInt32 >>> ((2 : Int32) &&& 31).toUInt32).toInt32) &&& (3 : Int32))), .unset, .unset] [(.ref b220)])) _
              refine XS.astore X225.here hx rfl (hb hby at_111) rfl rfl (l' := #[.val (.int k0), .val (.int k1), .val (.int k2), .val (.int k3), .val (.int k4), .val (.ref b64), .val (.int k0), .val (.int k1), .val (.ref b220), .val (.int (((k4.toUInt32 >>> ((2 : Int32) &&& 31).toUInt32).toInt32) &&& (3 : Int32))), .val (.ref b220), .unset]) rfl ?_
              show Steps p.tables e below (T225.setTop (mkF m 113 #[.val (.int k0), .val (.int k1), .val (.int k2), .val (.int k3), .val (.int k4), .val (.ref b64), .val (.int k0), .val (.int k1), .val (.ref b220), .val (.int (((k4.toUInt32 >>> ((2 : Int32) &&& 31).toUInt32).toInt32) &&& (3 : Int32))), .val (.ref b220), .unset] [])) _
              refine XS.iloadN X225.here hx rfl (hb hby at_113) rfl ?_
              show Steps p.tables e below (T225.setTop (mkF m 114 #[.val (.int k0), .val (.int k1), .val (.int k2), .val (.int k3), .val (.int k4), .val (.ref b64), .val (.int k0), .val (.int k1), .val (.ref b220), .val (.int (((k4.toUInt32 >>> ((2 : Int32) &&& 31).toUInt32).toInt32) &&& (3 : Int32))), .val (.ref b220), .unset] [(.int k0)])) _
              refine XS.iload X225.here hx rfl (hb hby at_114) rfl ?_
              show Steps p.tables e below (T225.setTop (mkF m 116 #[.val (.int k0), .val (.int k1), .val (.int k2), .val (.int k3), .val (.int k4), .val (.ref b64), .val (.int k0), .val (.int k1), .val (.ref b220), .val (.int (((k4.toUInt32 >>> ((2 : Int32) &&& 31).toUInt32).toInt32) &&& (3 : Int32))), .val (.ref b220), .unset] [(.int k0), (.int k0)])) _
              refine XS.icmpNo X225.here hx rfl (hb hby at_116) rfl (teq (rfl : k0 = k0)).2 ?_
              show Steps p.tables e below (T225.setTop (mkF m 119 #[.val (.int k0), .val (.int k1), .val (.int k2), .val (.int k3), .val (.int k4), .val (.ref b64), .val (.int k0), .val (.int k1), .val (.ref b220), .val (.int (((k4.toUInt32 >>> ((2 : Int32) &&& 31).toUInt32).toInt32) &&& (3 : Int32))), .val (.ref b220), .unset] [])) _
              refine XS.iloadN X225.here hx rfl (hb hby at_119) rfl ?_
              show Steps p.tables e below (T225.setTop (mkF m 120 #[.val (.int k0), .val (.int k1), .val (.int k2), .val (.int k3), .val (.int k4), .val (.ref b64), .val (.int k0), .val (.int k1), .val (.ref b220), .val (.int (((k4.toUInt32 >>> ((2 : Int32) &&& 31).toUInt32).toInt32) &&& (3 : Int32))), .val (.ref b220), .unset] [(.int k1)])) _
              refine XS.iload X225.here hx rfl (hb hby at_120) rfl ?_
              show Steps p.tables e below (T225.setTop (mkF m 122 #[.val (.int k0), .val (.int k1), .val (.int k2), .val (.int k3), .val (.int k4), .val (.ref b64), .val (.int k0), .val (.int k1), .val (.ref b220), .val (.int (((k4.toUInt32 >>> ((2 : Int32) &&& 31).toUInt32).toInt32) &&& (3 : Int32))), .val (.ref b220), .unset] [(.int k1), (.int k1)])) _
              refine XS.icmpNo X225.here hx rfl (hb hby at_122) rfl (teq (rfl : k1 = k1)).2 ?_
              show Steps p.tables e below (T225.setTop (mkF m 125 #[.val (.int k0), .val (.int k1), .val (.int k2), .val (.int k3), .val (.int k4), .val (.ref b64), .val (.int k0), .val (.int k1), .val (.ref b220), .val (.int (((k4.toUInt32 >>> ((2 : Int32) &&& 31).toUInt32).toInt32) &&& (3 : Int32))), .val (.ref b220), .unset] [])) _
              refine XS.iconst X225.here hx rfl (hb hby at_125) ?_
              show Steps p.tables e below (T225.setTop (mkF m 126 #[.val (.int k0), .val (.int k1), .val (.int k2), .val (.int k3), .val (.int k4), .val (.ref b64), .val (.int k0), .val (.int k1), .val (.ref b220), .val (.int (((k4.toUInt32 >>> ((2 : Int32) &&& 31).toUInt32).toInt32) &&& (3 : Int32))), .val (.ref b220), .unset] [(.int (1 : Int32))])) _
              refine XS.goto X225.here hx rfl (pc0 := 126) (pc' := 130) rfl (hb hby at_126) (by decide) (by decide) ?_
              show Steps p.tables e below (T225.setTop (mkF m 130 #[.val (.int k0), .val (.int k1), .val (.int k2), .val (.int k3), .val (.int k4), .val (.ref b64), .val (.int k0), .val (.int k1), .val (.ref b220), .val (.int (((k4.toUInt32 >>> ((2 : Int32) &&& 31).toUInt32).toInt32) &&& (3 : Int32))), .val (.ref b220), .unset] [(.int (1 : Int32))])) _
              refine XS.istore X225.here hx rfl (hb hby at_130) rfl (l' := #[.val (.int k0), .val (.int k1), .val (.int k2), .val (.int k3), .val (.int k4), .val (.ref b64), .val (.int k0), .val (.int k1), .val (.ref b220), .val (.int (((k4.toUInt32 >>> ((2 : Int32) &&& 31).toUInt32).toInt32) &&& (3 : Int32))), .val (.ref b220), .val (.int (1 : Int32))]) rfl ?_
              show Steps p.tables e below (T225.setTop (mkF m 132 #[.val (.int k0), .val (.int k1), .val (.int k2), .val (.int k3), .val (.int k4), .val (.ref b64), .val (.int k0), .val (.int k1), .val (.ref b220), .val (.int (((k4.toUInt32 >>> ((2 : Int32) &&& 31).toUInt32).toInt32) &&& (3 : Int32))), .val (.ref b220), .val (.int (1 : Int32))] [])) _
              refine XS.aload X225.here hx rfl (hb hby at_132) rfl rfl ?_
              show Steps p.tables e below (T225.setTop (mkF m 134 #[.val (.int k0), .val (.int k1), .val (.int k2), .val (.int k3), .val (.int k4), .val (.ref b64), .val (.int k0), .val (.int k1), .val (.ref b220), .val (.int (((k4.toUInt32 >>> ((2 : Int32) &&& 31).toUInt32).toInt32) &&& (3 : Int32))), .val (.ref b220), .val (.int (1 : Int32))] [(.ref b64)])) _
              refine XS.aload X225.here hx rfl (hb hby at_134) rfl rfl ?_
              show Steps p.tables e below (T225.setTop (mkF m 136 #[.val (.int k0), .val (.int k1), .val (.int k2), .val (.int k3), .val (.int k4), .val (.ref b64), .val (.int k0), .val (.int k1), .val (.ref b220), .val (.int (((k4.toUInt32 >>> ((2 : Int32) &&& 31).toUInt32).toInt32) &&& (3 : Int32))), .val (.ref b220), .val (.int (1 : Int32))] [(.ref b220), (.ref b64)])) _
              refine st251.trans ?_
              show Steps p.tables e below (T251.setTop (mkF m 139 #[.val (.int k0), .val (.int k1), .val (.int k2), .val (.int k3), .val (.int k4), .val (.ref b64), .val (.int k0), .val (.int k1), .val (.ref b220), .val (.int (((k4.toUInt32 >>> ((2 : Int32) &&& 31).toUInt32).toInt32) &&& (3 : Int32))), .val (.ref b220), .val (.int (1 : Int32))] [(.int (1 : Int32))])) _
              refine XS.iload X251.here hx rfl (hb hby at_139) rfl ?_
              show Steps p.tables e below (T251.setTop (mkF m 141 #[.val (.int k0), .val (.int k1), .val (.int k2), .val (.int k3), .val (.int k4), .val (.ref b64), .val (.int k0), .val (.int k1), .val (.ref b220), .val (.int (((k4.toUInt32 >>> ((2 : Int32) &&& 31).toUInt32).toInt32) &&& (3 : Int32))), .val (.ref b220), .val (.int (1 : Int32))] [(.int (1 : Int32)), (.int (1 : Int32))])) _
              refine XS.icmpYes X251.here hx rfl (pc0 := 141) (pc' := 146) rfl (hb hby at_141) rfl (teq (rfl : (1 : Int32) = (1 : Int32))).1 (by decide) (by decide) ?_
              show Steps p.tables e below (T251.setTop (mkF m 146 #[.val (.int k0), .val (.int k1), .val (.int k2), .val (.int k3), .val (.int k4), .val (.ref b64), .val (.int k0), .val (.int k1), .val (.ref b220), .val (.int (((k4.toUInt32 >>> ((2 : Int32) &&& 31).toUInt32).toInt32) &&& (3 : Int32))), .val (.ref b220), .val (.int (1 : Int32))] [])) _
              refine XS.iload X251.here hx rfl (hb hby at_146) rfl ?_
              show Steps p.tables e below (T251.setTop (mkF m 148 #[.val (.int k0), .val (.int k1), .val (.int k2), .val (.int k3), .val (.int k4), .val (.ref b64), .val (.int k0), .val (.int k1), .val (.ref b220), .val (.int (((k4.toUInt32 >>> ((2 : Int32) &&& 31).toUInt32).toInt32) &&& (3 : Int32))), .val (.ref b220), .val (.int (1 : Int32))] [(.int (((k4.toUInt32 >>> ((2 : Int32) &&& 31).toUInt32).toInt32) &&& (3 : Int32)))])) _
              exact k_)
            by_cases hc148_253 : (((k4.toUInt32 >>> ((2 : Int32) &&& 31).toUInt32).toInt32) &&& (3 : Int32)) = (0 : Int32)
            · obtain ⟨cq254, kq254, q254a, q254b, q254c⟩ := isOf hZ e251 E225x
              obtain ⟨v254, _, ⟨T254, L254, k254, n254⟩, -, X254, ⟨Lc254, hQ254, l254, y254, z254⟩, st254⟩ := X251.virtualBack hx (y := (⟨"com/example/fissure/fissure/games/breakable/Cube", "equals", "(Ljava/lang/Object;)Z"⟩ : MethodName)) (z := (⟨"com/example/fissure/fissure/games/breakable/Cube", "equals", "(Ljava/lang/Object;)Z"⟩ : MethodName)) hown (mvT hZ (hw _ (List.mem_of_getElem? (i := 15) rfl))) (mvT hZ (hw _ (List.mem_of_getElem? (i := 16) rfl))) (notFace_of_selects (args := #[]) (mvT hZ (hw _ (List.mem_of_getElem? (i := 18) rfl)))) (mvT hZ (hw _ (List.mem_of_getElem? (i := 18) rfl))) (mvT hZ (hw _ (List.mem_of_getElem? (i := 17) rfl))) (by decide) (backOf (W := 0) (rm_eqC l Z a0 hw [] b220 b64 k0 k1 k0 k1 T225.heap n0 Zs226 c227 F225_x F225_z c228 c229) hZ (hw _ (List.mem_of_getElem? (i := 19) rfl)) (hw _ (List.mem_of_getElem? (i := 2) rfl)) (by decide) (by decide)) q254a q254c (g := (mkF m 155 #[.val (.int k0), .val (.int k1), .val (.int k2), .val (.int k3), .val (.int k4), .val (.ref b64), .val (.int k0), .val (.int k1), .val (.ref b220), .val (.int (((k4.toUInt32 >>> ((2 : Int32) &&& 31).toUInt32).toInt32) &&& (3 : Int32))), .val (.ref b220), .val (.int (1 : Int32))] [(.ref b64), (.ref b220)])) rfl (by rw [hml]; rfl) (Steps.refl _) (argsL := [(.ref b64)]) (rest := []) (lenOf pd_3 rfl) rfl (by show 2 * 0 + _ ≤ _; exact Nat.le_of_eq rfl) (hb hby at_155) (fun _ _ => ⟨rfl, e251, (by decide : 2 + 0 ≤ _), (by decide : 6 + 0 ≤ _)⟩)
              dsimp only [Pt.U, Pt.locs, Pt.cells, Pt.slots] at X254 l254 y254 z254 st254 hQ254
              subst l254 y254 z254
              obtain ⟨hv254, N254q, e254⟩ := hQ254
              have N254 := Fr.app N251 N254q
              have hw254 : v254 = some (.int (1 : Int32)) := hv254.trans (congrArg (fun z => some (Value.int z)) (own_yes rfl rfl))
              subst hw254
              have pre255 : ∀ t_, Steps p.tables e below (T254.setTop (mkF m 166 #[.val (.int k0), .val (.int k1), .val (.int k2), .val (.int k3), .val (.int k4), .val (.ref b64), .val (.int k0), .val (.int k1), .val (.ref b220), .val (.int (((k4.toUInt32 >>> ((2 : Int32) &&& 31).toUInt32).toInt32) &&& (3 : Int32))), .val (.ref b220), .val (.int (1 : Int32))] [(.int (1 : Int32))])) t_ → Steps p.tables e below (s₁.setTop (entryFrame m #[(.int k0), (.int k1), (.int k2), (.int k3), (.int k4)] maxLocals)) t_ := fun t_ k_ => pre252 t_ (by
                show Steps p.tables e below (T251.setTop (mkF m 148 #[.val (.int k0), .val (.int k1), .val (.int k2), .val (.int k3), .val (.int k4), .val (.ref b64), .val (.int k0), .val (.int k1), .val (.ref b220), .val (.int (((k4.toUInt32 >>> ((2 : Int32) &&& 31).toUInt32).toInt32) &&& (3 : Int32))), .val (.ref b220), .val (.int (1 : Int32))] [(.int (((k4.toUInt32 >>> ((2 : Int32) &&& 31).toUInt32).toInt32) &&& (3 : Int32)))])) _
                refine XS.ifNo X251.here hx rfl (hb hby at_148) rfl ((if0 _ _).trans (teq hc148_253).2) ?_
                show Steps p.tables e below (T251.setTop (mkF m 151 #[.val (.int k0), .val (.int k1), .val (.int k2), .val (.int k3), .val (.int k4), .val (.ref b64), .val (.int k0), .val (.int k1), .val (.ref b220), .val (.int (((k4.toUInt32 >>> ((2 : Int32) &&& 31).toUInt32).toInt32) &&& (3 : Int32))), .val (.ref b220), .val (.int (1 : Int32))] [])) _
                refine XS.aload X251.here hx rfl (hb hby at_151) rfl rfl ?_
                show Steps p.tables e below (T251.setTop (mkF m 153 #[.val (.int k0), .val (.int k1), .val (.int k2), .val (.int k3), .val (.int k4), .val (.ref b64), .val (.int k0), .val (.int k1), .val (.ref b220), .val (.int (((k4.toUInt32 >>> ((2 : Int32) &&& 31).toUInt32).toInt32) &&& (3 : Int32))), .val (.ref b220), .val (.int (1 : Int32))] [(.ref b220)])) _
                refine XS.aload X251.here hx rfl (hb hby at_153) rfl rfl ?_
                show Steps p.tables e below (T251.setTop (mkF m 155 #[.val (.int k0), .val (.int k1), .val (.int k2), .val (.int k3), .val (.int k4), .val (.ref b64), .val (.int k0), .val (.int k1), .val (.ref b220), .val (.int (((k4.toUInt32 >>> ((2 : Int32) &&& 31).toUInt32).toInt32) &&& (3 : Int32))), .val (.ref b220), .val (.int (1 : Int32))] [(.ref b64), (.ref b220)])) _
                refine st254.trans ?_
                show Steps p.tables e below (T254.setTop (mkF m 158 #[.val (.int k0), .val (.int k1), .val (.int k2), .val (.int k3), .val (.int k4), .val (.ref b64), .val (.int k0), .val (.int k1), .val (.ref b220), .val (.int (((k4.toUInt32 >>> ((2 : Int32) &&& 31).toUInt32).toInt32) &&& (3 : Int32))), .val (.ref b220), .val (.int (1 : Int32))] [(.int (1 : Int32))])) _
                refine XS.iload X254.here hx rfl (hb hby at_158) rfl ?_
                show Steps p.tables e below (T254.setTop (mkF m 160 #[.val (.int k0), .val (.int k1), .val (.int k2), .val (.int k3), .val (.int k4), .val (.ref b64), .val (.int k0), .val (.int k1), .val (.ref b220), .val (.int (((k4.toUInt32 >>> ((2 : Int32) &&& 31).toUInt32).toInt32) &&& (3 : Int32))), .val (.ref b220), .val (.int (1 : Int32))] [(.int (1 : Int32)), (.int (1 : Int32))])) _
                refine XS.icmpYes X254.here hx rfl (pc0 := 160) (pc' := 165) rfl (hb hby at_160) rfl (teq (rfl : (1 : Int32) = (1 : Int32))).1 (by decide) (by decide) ?_
                show Steps p.tables e below (T254.setTop (mkF m 165 #[.val (.int k0), .val (.int k1), .val (.int k2), .val (.int k3), .val (.int k4), .val (.ref b64), .val (.int k0), .val (.int k1), .val (.ref b220), .val (.int (((k4.toUInt32 >>> ((2 : Int32) &&& 31).toUInt32).toInt32) &&& (3 : Int32))), .val (.ref b220), .val (.int (1 : Int32))] [])) _
                refine XS.iconst X254.here hx rfl (hb hby at_165) ?_
                show Steps p.tables e below (T254.setTop (mkF m 166 #[.val (.int k0), .val (.int k1), .val (.int k2), .val (.int k3), .val (.int k4), .val (.ref b64), .val (.int k0), .val (.int k1), .val (.ref b220), .val (.int (((k4.toUInt32 >>> ((2 : Int32) &&& 31).toUInt32).toInt32) &&& (3 : Int32))), .val (.ref b220), .val (.int (1 : Int32))] [(.int (1 : Int32))])) _
                exact k_)
              obtain ⟨fs, hr, hrun, hended, hW, hsame⟩ := X254.leave (v := some (.int (1 : Int32))) (fun h => by rw [Bd.returns] at h; cases h)
              refine ⟨_, _, pre255 _ ?_, hrun, hended, _, _, rfl, ?_, ⟨_, rfl⟩, hW, hsame.mono (by decide) (by decide)⟩
              · show Steps p.tables e below (T254.setTop (mkF m 166 #[.val (.int k0), .val (.int k1), .val (.int k2), .val (.int k3), .val (.int k4), .val (.ref b64), .val (.int k0), .val (.int k1), .val (.ref b220), .val (.int (((k4.toUInt32 >>> ((2 : Int32) &&& 31).toUInt32).toInt32) &&& (3 : Int32))), .val (.ref b220), .val (.int (1 : Int32))] [(.int (1 : Int32))])) _
                exact retN X254 hx (t := .boolean) Bd.returns (by simp) (hb hby at_166) hr
              · show Q_0 Z k0 k1 k2 k3 k4 w_cache cl_cache bx h0 n0 _ T254.heap _
                rw [e254]
                exact ⟨rfl, N254⟩
            · have pre256 : ∀ t_, Steps p.tables e below (T251.setTop (mkF m 166 #[.val (.int k0), .val (.int k1), .val (.int k2), .val (.int k3), .val (.int k4), .val (.ref b64), .val (.int k0), .val (.int k1), .val (.ref b220), .val (.int (((k4.toUInt32 >>> ((2 : Int32) &&& 31).toUInt32).toInt32) &&& (3 : Int32))), .val (.ref b220), .val (.int (1 : Int32))] [(.int (1 : Int32))])) t_ → Steps p.tables e below (s₁.setTop (entryFrame m #[(.int k0), (.int k1), (.int k2), (.int k3), (.int k4)] maxLocals)) t_ := fun t_ k_ => pre252 t_ (by
                show Steps p.tables e below (T251.setTop (mkF m 148 #[.val (.int k0), .val (.int k1), .val (.int k2), .val (.int k3), .val (.int k4), .val (.ref b64), .val (.int k0), .val (.int k1), .val (.ref b220), .val (.int (((k4.toUInt32 >>> ((2 : Int32) &&& 31).toUInt32).toInt32) &&& (3 : Int32))), .val (.ref b220), .val (.int (1 : Int32))] [(.int (((k4.toUInt32 >>> ((2 : Int32) &&& 31).toUInt32).toInt32) &&& (3 : Int32)))])) _
                refine XS.ifYes X251.here hx rfl (pc0 := 148) (pc' := 165) rfl (hb hby at_148) rfl ((if0 _ _).trans (feq hc148_253).2) (by decide) (by decide) ?_
                show Steps p.tables e below (T251.setTop (mkF m 165 #[.val (.int k0), .val (.int k1), .val (.int k2), .val (.int k3), .val (.int k4), .val (.ref b64), .val (.int k0), .val (.int k1), .val (.ref b220), .val (.int (((k4.toUInt32 >>> ((2 : Int32) &&& 31).toUInt32).toInt32) &&& (3 : Int32))), .val (.ref b220), .val (.int (1 : Int32))] [])) _
                refine XS.iconst X251.here hx rfl (hb hby at_165) ?_
                show Steps p.tables e below (T251.setTop (mkF m 166 #[.val (.int k0), .val (.int k1), .val (.int k2), .val (.int k3), .val (.int k4), .val (.ref b64), .val (.int k0), .val (.int k1), .val (.ref b220), .val (.int (((k4.toUInt32 >>> ((2 : Int32) &&& 31).toUInt32).toInt32) &&& (3 : Int32))), .val (.ref b220), .val (.int (1 : Int32))] [(.int (1 : Int32))])) _
                exact k_)
              obtain ⟨fs, hr, hrun, hended, hW, hsame⟩ := X251.leave (v := some (.int (1 : Int32))) (fun h => by rw [Bd.returns] at h; cases h)
              refine ⟨_, _, pre256 _ ?_, hrun, hended, _, _, rfl, ?_, ⟨_, rfl⟩, hW, hsame.mono (by decide) (by decide)⟩
              · show Steps p.tables e below (T251.setTop (mkF m 166 #[.val (.int k0), .val (.int k1), .val (.int k2), .val (.int k3), .val (.int k4), .val (.ref b64), .val (.int k0), .val (.int k1), .val (.ref b220), .val (.int (((k4.toUInt32 >>> ((2 : Int32) &&& 31).toUInt32).toInt32) &&& (3 : Int32))), .val (.ref b220), .val (.int (1 : Int32))] [(.int (1 : Int32))])) _
                exact retN X251 hx (t := .boolean) Bd.returns (by simp) (hb hby at_166) hr
              · show Q_0 Z k0 k1 k2 k3 k4 w_cache cl_cache bx h0 n0 _ T251.heap _
                rw [e251]
                exact ⟨rfl, N251⟩
set_option maxRecDepth 65536 in
set_option maxHeartbeats 40000000 in
theorem comes_1 {Post : Tables → Env → Array Value → State → Outcome → State → Prop} (hpost : ∀ tb e args s v u, (limb_1_1.after args s (.returned v) u = true ∧ limb_1_2.after args s (.returned v) u = true ∧ True) → FrameEnd s (.returned v) u (Jvm.fieldLocs frame_1_writes args s ++ Jvm.arrayLocs frame_1_arrays args s ++ Jvm.staticLocs frame_1_statics s) 16 128 → Post tb e args s (.returned v) u) :
    ArmFor flags0 classFile x code maxLocals ret World_1 tables_1 room_1 Calls_1 rest_1 Pre_1 Post := by
  intro l hfl _ _ p e ha hc hk s m args below hf hA hF happ hP
  obtain ⟨hcalls, hrest, hpre⟩ := hP
  obtain ⟨-, -, -, hnamed, -, -, -, hat⟩ := (Spec.applies_iff hf).mp happ
  obtain ⟨hg, hn⟩ := and_e (Cond.before_iff.mp (show (Jvm.Cond.and given_1 narrow_1).before args s = true from hpre))
  obtain ⟨hcount, hg0⟩ := and_e hg
  obtain ⟨hi0, hg1⟩ := and_e hg0
  obtain ⟨hi1, hg2⟩ := and_e hg1
  obtain ⟨hi2, hg3⟩ := and_e hg2
  obtain ⟨hi3, hg4⟩ := and_e hg3
  obtain ⟨w0, w1, w2, w3, w4, rfl⟩ : ∃ w0 w1 w2 w3 w4 : Value, args = #[w0, w1, w2, w3, w4] := by
    have hs : args.size = 5 := by simpa [Cond.value, given_1] using hcount
    obtain ⟨L⟩ := args
    match L, hs with
    | [w0, w1, w2, w3, w4], _ => exact ⟨w0, w1, w2, w3, w4, rfl⟩
  have hw := fun d (hd : d ∈ tables_1) => atoms_spec (ws := Jvm.Cond.code x code maxLocals ret :: tables_1) hat d (List.mem_cons_of_mem _ hd)
  have hfit : Fit s := fun {y c} hc i hi => by
    obtain ⟨ha, rfl⟩ := Array.getElem?_eq_some_iff.mp hc
    have q := List.all_eq_true.mp ((Array.all_eq_true_iff_forall_mem.mp hF) _ (Array.getElem_mem ha)) i (List.mem_range.mpr hi)
    simpa [Array.getElem?_eq_getElem hi] using q
  obtain ⟨i0, ei0⟩ := is_v hi0
  obtain rfl : w0 = (.int i0) := Option.some.inj ei0
  obtain ⟨i1, ei1⟩ := is_v hi1
  obtain rfl : w1 = (.int i1) := Option.some.inj ei1
  obtain ⟨i2, ei2⟩ := is_v hi2
  obtain rfl : w2 = (.int i2) := Option.some.inj ei2
  obtain ⟨i3, ei3⟩ := is_v hi3
  obtain rfl : w3 = (.int i3) := Option.some.inj ei3
  obtain ⟨i4, ei4⟩ := is_v hg4
  obtain rfl : w4 = (.int i4) := Option.some.inj ei4
  obtain ⟨hsets, hown0⟩ := atoms_of _ (rest_1_c_eq ▸ (show rest_1_c.before _ s = true from hrest))
  have hsv := fun d (hd : d ∈ jdkStatics_1) => Cond.before_iff.mp (hsets d hd)
  have ev_high := eqv_i (F := .int (127 : Int32)) rfl (hsv _ (List.mem_of_getElem? (i := 3) rfl))
  have S_high : Sta s s.heap "java/lang/Integer$IntegerCache" "high" "I" (.int (127 : Int32)) := Sta.start ev_high (Or.inl (hsets _ (List.mem_of_getElem? (i := 1) rfl)))
  obtain ⟨w_cache, ev_cache, S_cache, cl_cache, Ar_cache⟩ := own_staA (Z := s) (C := "java/lang/Integer$IntegerCache") (hw _ (List.mem_of_getElem? (i := 27) rfl)) (hsets _ (List.mem_of_getElem? (i := 2) rfl)) (hsv _ (List.mem_of_getElem? (i := 4) rfl))
  have Z_cache : cl_cache.slots.size = 256 := own_len ev_cache Ar_cache (hsv _ (List.mem_of_getElem? (i := 6) rfl)) (by decide)
  have Bx := Bxs.start (F := .sub (.index 0) (.int (128 : Int32))) (z := (256 : Int32)) (val := fun j => .int (j - (128 : Int32))) (fun idx => (ev_cache : _)) Ar_cache (by rw [Z_cache]; decide) (by rw [Z_cache]; decide) (by decide) (hsv _ (List.mem_of_getElem? (i := 7) rfl)) (fun X j hj h => eqv_i (own_sub hj) h)
  obtain ⟨n, o, h1, h2, h3, _, L, rfl, ⟨rfl, N⟩, hq⟩ := rm_0 l s _ hw tables_1 i0 i1 i2 i3 i4 w_cache cl_cache _ s.heap s.heap.size (Nat.le_refl _) S_high S_cache Bx (own_ext_refl _) p e ha hc hk s m _ below hf ((Spec.applies_iff_loose hf).mp happ).1 ⟨rfl, State.Warmed39.refl s, rfl⟩ trivial
  refine ⟨n, _, h1, h2, h3, hpost _ _ _ _ _ _ ⟨Cond.after_iff.mpr rfl, Cond.after_iff.mpr (eq_i res_at (Term.int_eval (1)) rfl), trivial⟩ ⟨hq.1, hq.2.1, (hq.2.2.sift fun y hy => Or.inr (N y hy)).mono (by decide) (by decide)⟩⟩
theorem main_1_1 : Claimed_1_1 := comes_1 fun _ _ _ _ _ _ h hF => ⟨h.1, hF⟩
theorem main_1_2 : Claimed_1_2 := comes_1 fun _ _ _ _ _ _ h hF => ⟨h.2.1, hF⟩
end Jvm.Pilot.@@N@@
namespace Jvm.Pilot.@@N@@
open Jvm Jvm.ClassFile Sem Op Lib Jvm.Free Jvm.Stand Jvm.Pilot.@@N@@.Jvm.D
/-! MADE BY PROGRAM (witnessworld.py) out of the Statement's table words and the real class files: 16 classes; the members and pool entries that the words name. The judged class is class 1, her method 1. -/
namespace start1
open Jvm.ClassFile
def u (s : String) : CpInfo := .utf8 (stringToUtf16 s)
/-- a pool by its gaps: so many unusable entries, then the entry; so many at the end -/
def gap : Nat → List CpInfo → List CpInfo
  | 0, r => r
  | n + 1, r => .unusable :: gap n r
def poolList (es : List (Nat × CpInfo)) (last : Nat) : List CpInfo := es.foldr (fun e r => gap e.1 (e.2 :: r)) (gap last [])
def pool (es : List (Nat × CpInfo)) (last : Nat) : Array CpInfo := ⟨poolList es last⟩
def fileOf (pool : Array CpInfo) (this : Nat) (attrs : Array Attribute := #[]) (ms : Array MethodInfo := #[]) (fl : Nat := 33) (sup : Nat := 0) (ifs : Array Nat := #[]) (fds : Array FieldInfo := #[]) : ClassFile where
  minorVersion := 0
  majorVersion := 65
  constantPool := pool
  accessFlags := fl
  thisClass := this
  superClass := sup
  interfaces := ifs
  fields := fds
  methods := ms
  attributes := attrs
def plain (name : String) (sup : Option ClassId) : Class where
  name := name
  kind := .ordinary
  loader := none
  accessFlags := 33
  super := sup
  interfaces := #[]
  cf := none
  fields := #[]
  methods := #[]
  instanceTypes := #[]
  staticTypes := #[]
  resolved := #[]
  callSites := []
  init := .initialized
  statics := none
  mirror := none

def pool0 : Array CpInfo := pool [(5, u "<init>"), (0, u "()V"), (1, .class_ 10), (1, u "java/lang/Object")] 113

def k0c0 : Code := { maxStack := 0, maxLocals := 1, code := object_method_1_code, exceptionTable := #[], attributes := #[] }
def k0m0 : Method := { name := "<init>", desc := "()V", sig := { parameters := [], returnType := none }, accessFlags := 1, code := some k0c0 }
/-- java/lang/Object -/
def k0 : Class := { plain "java/lang/Object" none with
  accessFlags := 33
  interfaces := #[]
  cf := some (fileOf pool0 8 #[] #[{ accessFlags := 1, nameIndex := 5, descriptorIndex := 6, attributes := #[] }] 33 0 #[] #[])
  fields := #[]
  methods := #[k0m0]
  instanceTypes := #[]
  staticTypes := #[]
  resolved := Array.replicate 124 none
  statics := none }

def pool1 : Array CpInfo := pool [(2, .class_ 4), (1, u "java/lang/Object"), (0, u "<init>"), (0, u "()V"), (0, .class_ 8), (0, u "com/example/fissure/fissure/games/breakable/Cube"), (0, .methodref 7 10), (0, .nameAndType 5 11), (0, u "(II)V"), (0, .methodref 13 14), (0, .class_ 15), (0, .nameAndType 16 17), (0, u "java/lang/Integer"), (0, u "valueOf"), (0, u "(I)Ljava/lang/Integer;"), (0, .methodref 7 19), (0, .nameAndType 20 21), (0, u "equals"), (0, u "(Ljava/lang/Object;)Z"), (0, .class_ 23), (0, u "com/example/fissure/fissure/games/breakable/CubeEqualsPinLaw"), (2, u "law"), (0, u "(IIIII)Z")] 3

def k1m0 : Method := { name := "<init>", desc := "()V", sig := { parameters := [], returnType := none }, accessFlags := 1, code := none }
def k1c1 : Code := { maxStack := 4, maxLocals := 12, code := code, exceptionTable := #[], attributes := #[] }
def k1m1 : Method := { name := "law", desc := "(IIIII)Z", sig := { parameters := [.int, .int, .int, .int, .int], returnType := some .boolean }, accessFlags := 9, code := some k1c1 }
/-- com/example/fissure/fissure/games/breakable/CubeEqualsPinLaw -/
def k1 : Class := { plain "com/example/fissure/fissure/games/breakable/CubeEqualsPinLaw" (some 0) with
  accessFlags := 49
  interfaces := #[]
  cf := some (fileOf pool1 22 #[] #[{ accessFlags := 1, nameIndex := 5, descriptorIndex := 6, attributes := #[] }, { accessFlags := 9, nameIndex := 26, descriptorIndex := 27, attributes := #[] }] 49 2 #[] #[])
  fields := #[]
  methods := #[k1m0, k1m1]
  instanceTypes := #[]
  staticTypes := #[]
  resolved := Array.replicate 31 none
  statics := none }

def pool2 : Array CpInfo := pool [(1, .methodref 2 3), (0, .class_ 4), (0, .nameAndType 5 6), (0, u "java/lang/Object"), (0, u "<init>"), (0, u "()V"), (0, .fieldref 8 9), (0, .class_ 10), (0, .nameAndType 11 12), (0, u "com/example/fissure/fissure/games/breakable/Cube"), (0, u "x"), (0, u "I"), (0, .fieldref 8 14), (0, .nameAndType 15 12), (0, u "y"), (0, .fieldref 8 17), (0, .nameAndType 18 12), (0, u "z"), (19, u "SIDES"), (0, u "[I"), (6, u "NUDGE"), (0, u "[D"), (9, u "(Ljava/lang/Object;)Z"), (9, u "(II)V"), (15, u "equals")] 4

def k2c0 : Code := { maxStack := 3, maxLocals := 3, code := prog_23_method_1_code, exceptionTable := #[], attributes := #[] }
def k2m0 : Method := { name := "<init>", desc := "(II)V", sig := { parameters := [.int, .int], returnType := none }, accessFlags := 0, code := some k2c0 }
def k2c1 : Code := { maxStack := 2, maxLocals := 3, code := prog_23_method_8_code, exceptionTable := #[], attributes := #[] }
def k2m1 : Method := { name := "equals", desc := "(Ljava/lang/Object;)Z", sig := { parameters := [(.object "java/lang/Object")], returnType := some .boolean }, accessFlags := 1, code := some k2c1 }
/-- com/example/fissure/fissure/games/breakable/Cube -/
def k2 : Class := { plain "com/example/fissure/fissure/games/breakable/Cube" (some 0) with
  accessFlags := 32
  interfaces := #[]
  cf := some (fileOf pool2 8 #[] #[{ accessFlags := 0, nameIndex := 5, descriptorIndex := 67, attributes := #[] }, { accessFlags := 1, nameIndex := 83, descriptorIndex := 57, attributes := #[] }] 32 2 #[] #[{ accessFlags := 26, nameIndex := 46, descriptorIndex := 47, attributes := #[] }, { accessFlags := 26, nameIndex := 38, descriptorIndex := 39, attributes := #[] }, { accessFlags := 18, nameIndex := 11, descriptorIndex := 12, attributes := #[] }, { accessFlags := 18, nameIndex := 15, descriptorIndex := 12, attributes := #[] }, { accessFlags := 18, nameIndex := 18, descriptorIndex := 12, attributes := #[] }])
  fields := #[{ name := "NUDGE", type := (.array .double), accessFlags := 26, slot := 0, constantValue := 0 }, { name := "SIDES", type := (.array .int), accessFlags := 26, slot := 1, constantValue := 0 }, { name := "x", type := .int, accessFlags := 18, slot := 0, constantValue := 0 }, { name := "y", type := .int, accessFlags := 18, slot := 1, constantValue := 0 }, { name := "z", type := .int, accessFlags := 18, slot := 2, constantValue := 0 }]
  methods := #[k2m0, k2m1]
  instanceTypes := #[.int, .int, .int]
  staticTypes := #[(.array .double), (.array .int)]
  resolved := Array.replicate 88 none
  statics := none }

def pool3 : Array CpInfo := pool [(1, .class_ 2), (0, u "java/io/Serializable"), (0, .class_ 4), (0, u "java/lang/Object")] 2

/-- java/io/Serializable -/
def k3 : Class := { plain "java/io/Serializable" (some 0) with
  accessFlags := 1537
  interfaces := #[]
  cf := some (fileOf pool3 1 #[] #[] 1537 3 #[] #[])
  fields := #[]
  methods := #[]
  instanceTypes := #[]
  staticTypes := #[]
  resolved := Array.replicate 7 none
  statics := none }

def pool4 : Array CpInfo := pool [(1, .methodref 2 3), (0, .class_ 4), (0, .nameAndType 5 6), (0, u "java/lang/Object"), (0, u "<init>"), (0, u "()V"), (1, .class_ 10), (1, u "java/lang/Number"), (2, .class_ 14), (0, u "java/io/Serializable"), (0, u "serialVersionUID"), (0, u "J")] 20

def k4c0 : Code := { maxStack := 1, maxLocals := 1, code := jdk_18_method_1_code, exceptionTable := #[], attributes := #[] }
def k4m0 : Method := { name := "<init>", desc := "()V", sig := { parameters := [], returnType := none }, accessFlags := 1, code := some k4c0 }
/-- java/lang/Number -/
def k4 : Class := { plain "java/lang/Number" (some 0) with
  accessFlags := 1057
  interfaces := #[3]
  cf := some (fileOf pool4 8 #[] #[{ accessFlags := 1, nameIndex := 5, descriptorIndex := 6, attributes := #[] }] 1057 2 #[13] #[{ accessFlags := 26, nameIndex := 15, descriptorIndex := 16, attributes := #[] }])
  fields := #[{ name := "serialVersionUID", type := .long, accessFlags := 26, slot := 0, constantValue := 0 }]
  methods := #[k4m0]
  instanceTypes := #[]
  staticTypes := #[.long]
  resolved := Array.replicate 37 none
  statics := none }

def pool5 : Array CpInfo := pool [(1, .class_ 2), (0, u "java/lang/Comparable"), (0, .class_ 4), (0, u "java/lang/Object")] 7

/-- java/lang/Comparable -/
def k5 : Class := { plain "java/lang/Comparable" (some 0) with
  accessFlags := 1537
  interfaces := #[]
  cf := some (fileOf pool5 1 #[] #[] 1537 3 #[] #[])
  fields := #[]
  methods := #[]
  instanceTypes := #[]
  staticTypes := #[]
  resolved := Array.replicate 12 none
  statics := none }

def pool6 : Array CpInfo := pool [(1, .class_ 2), (0, u "java/lang/constant/Constable"), (0, .class_ 4), (0, u "java/lang/Object")] 6

/-- java/lang/constant/Constable -/
def k6 : Class := { plain "java/lang/constant/Constable" (some 0) with
  accessFlags := 1537
  interfaces := #[]
  cf := some (fileOf pool6 1 #[] #[] 1537 3 #[] #[])
  fields := #[]
  methods := #[]
  instanceTypes := #[]
  staticTypes := #[]
  resolved := Array.replicate 11 none
  statics := none }

def pool7 : Array CpInfo := pool [(1, .class_ 2), (0, u "java/lang/constant/ConstantDesc"), (0, .class_ 4), (0, u "java/lang/Object")] 32

/-- java/lang/constant/ConstantDesc -/
def k7 : Class := { plain "java/lang/constant/ConstantDesc" (some 0) with
  accessFlags := 1537
  interfaces := #[]
  cf := some (fileOf pool7 1 #[] #[] 1537 3 #[] #[])
  fields := #[]
  methods := #[]
  instanceTypes := #[]
  staticTypes := #[]
  resolved := Array.replicate 37 none
  statics := none }

def pool8 : Array CpInfo := pool [(1, .class_ 2), (0, u "java/lang/Integer"), (16, u "digits"), (0, u "[C"), (46, u "<init>"), (17, u "DigitOnes"), (0, u "[B"), (2, u "DigitTens"), (10, .nameAndType 67 101), (0, u "()V"), (85, u "valueOf"), (0, u "(I)Ljava/lang/Integer;"), (0, .class_ 190), (0, u "java/lang/Integer$IntegerCache"), (0, .fieldref 189 192), (0, .nameAndType 193 194), (0, u "high"), (0, u "I"), (0, .fieldref 189 196), (0, .nameAndType 197 198), (0, u "cache"), (0, u "[Ljava/lang/Integer;"), (0, .methodref 1 200), (0, .nameAndType 67 201), (0, u "(I)V"), (0, .methodref 203 100), (0, .class_ 204), (0, u "java/lang/Number"), (0, .fieldref 1 206), (0, .nameAndType 207 194), (0, u "value"), (94, u "TYPE"), (0, u "Ljava/lang/Class;"), (0, .class_ 305), (0, u "java/lang/Comparable"), (0, .class_ 307), (0, u "java/lang/constant/Constable"), (0, .class_ 309), (0, u "java/lang/constant/ConstantDesc"), (0, u "MIN_VALUE"), (1, u "MAX_VALUE"), (3, u "SIZE"), (1, u "BYTES"), (1, u "serialVersionUID"), (0, u "J")] 131

def k8c0 : Code := { maxStack := 3, maxLocals := 1, code := jdk_33_method_22_code, exceptionTable := #[], attributes := #[] }
def k8m0 : Method := { name := "valueOf", desc := "(I)Ljava/lang/Integer;", sig := { parameters := [.int], returnType := some (.object "java/lang/Integer") }, accessFlags := 9, code := some k8c0 }
def k8c1 : Code := { maxStack := 2, maxLocals := 2, code := jdk_33_method_23_code, exceptionTable := #[], attributes := #[] }
def k8m1 : Method := { name := "<init>", desc := "(I)V", sig := { parameters := [.int], returnType := none }, accessFlags := 1, code := some k8c1 }
/-- java/lang/Integer -/
def k8 : Class := { plain "java/lang/Integer" (some 4) with
  accessFlags := 49
  interfaces := #[5, 6, 7]
  cf := some (fileOf pool8 1 #[.nestMembers #[189]] #[{ accessFlags := 9, nameIndex := 187, descriptorIndex := 188, attributes := #[] }, { accessFlags := 1, nameIndex := 67, descriptorIndex := 201, attributes := #[] }] 49 203 #[304, 306, 308] #[{ accessFlags := 25, nameIndex := 310, descriptorIndex := 194, attributes := #[] }, { accessFlags := 25, nameIndex := 312, descriptorIndex := 194, attributes := #[] }, { accessFlags := 25, nameIndex := 302, descriptorIndex := 303, attributes := #[] }, { accessFlags := 24, nameIndex := 19, descriptorIndex := 20, attributes := #[] }, { accessFlags := 24, nameIndex := 89, descriptorIndex := 86, attributes := #[] }, { accessFlags := 24, nameIndex := 85, descriptorIndex := 86, attributes := #[] }, { accessFlags := 18, nameIndex := 207, descriptorIndex := 194, attributes := #[] }, { accessFlags := 25, nameIndex := 316, descriptorIndex := 194, attributes := #[] }, { accessFlags := 25, nameIndex := 318, descriptorIndex := 194, attributes := #[] }, { accessFlags := 26, nameIndex := 320, descriptorIndex := 321, attributes := #[] }])
  fields := #[{ name := "MIN_VALUE", type := .int, accessFlags := 25, slot := 0, constantValue := 0 }, { name := "MAX_VALUE", type := .int, accessFlags := 25, slot := 1, constantValue := 0 }, { name := "TYPE", type := (.object "java/lang/Class"), accessFlags := 25, slot := 2, constantValue := 0 }, { name := "digits", type := (.array .char), accessFlags := 24, slot := 3, constantValue := 0 }, { name := "DigitTens", type := (.array .byte), accessFlags := 24, slot := 4, constantValue := 0 }, { name := "DigitOnes", type := (.array .byte), accessFlags := 24, slot := 5, constantValue := 0 }, { name := "value", type := .int, accessFlags := 18, slot := 0, constantValue := 0 }, { name := "SIZE", type := .int, accessFlags := 25, slot := 6, constantValue := 0 }, { name := "BYTES", type := .int, accessFlags := 25, slot := 7, constantValue := 0 }, { name := "serialVersionUID", type := .long, accessFlags := 26, slot := 8, constantValue := 0 }]
  methods := #[k8m0, k8m1]
  instanceTypes := #[.int]
  staticTypes := #[.int, .int, (.object "java/lang/Class"), (.array .char), (.array .byte), (.array .byte), .int, .int, .long]
  resolved := Array.replicate 453 none
  statics := none }

def pool9 : Array CpInfo := pool [(2, .class_ 4), (1, u "java/lang/Object"), (0, u "<init>"), (0, u "()V"), (0, .class_ 8), (0, u "java/lang/Integer"), (7, .class_ 18), (1, u "java/lang/Integer$IntegerCache"), (0, u "$assertionsDisabled"), (0, u "Z"), (26, u "high"), (0, u "I"), (8, u "archivedCache"), (0, u "[Ljava/lang/Integer;"), (12, u "cache"), (0, u "low")] 27

def k9m0 : Method := { name := "<init>", desc := "()V", sig := { parameters := [], returnType := none }, accessFlags := 2, code := none }
/-- java/lang/Integer$IntegerCache -/
def k9 : Class := { plain "java/lang/Integer$IntegerCache" (some 0) with
  accessFlags := 48
  interfaces := #[]
  cf := some (fileOf pool9 16 #[.nestHost 7] #[{ accessFlags := 2, nameIndex := 5, descriptorIndex := 6, attributes := #[] }] 48 2 #[] #[{ accessFlags := 24, nameIndex := 72, descriptorIndex := 48, attributes := #[] }, { accessFlags := 24, nameIndex := 47, descriptorIndex := 48, attributes := #[] }, { accessFlags := 24, nameIndex := 71, descriptorIndex := 58, attributes := #[] }, { accessFlags := 8, nameIndex := 57, descriptorIndex := 58, attributes := #[] }, { accessFlags := 4120, nameIndex := 19, descriptorIndex := 20, attributes := #[] }])
  fields := #[{ name := "low", type := .int, accessFlags := 24, slot := 0, constantValue := 0 }, { name := "high", type := .int, accessFlags := 24, slot := 1, constantValue := 0 }, { name := "cache", type := (.array (.object "java/lang/Integer")), accessFlags := 24, slot := 2, constantValue := 0 }, { name := "archivedCache", type := (.array (.object "java/lang/Integer")), accessFlags := 8, slot := 3, constantValue := 0 }, { name := "$assertionsDisabled", type := .boolean, accessFlags := 4120, slot := 4, constantValue := 0 }]
  methods := #[k9m0]
  instanceTypes := #[]
  staticTypes := #[.int, .int, (.array (.object "java/lang/Integer")), (.array (.object "java/lang/Integer")), .boolean]
  resolved := Array.replicate 100 none
  statics := some 0 }

def pool10 : Array CpInfo := pool [(1, u "java/lang/Cloneable"), (0, .class_ 1), (0, u "java/lang/Object"), (0, .class_ 3)] 3

/-- java/lang/Cloneable -/
def k10 : Class := { plain "java/lang/Cloneable" (some 0) with
  accessFlags := 1537
  interfaces := #[]
  cf := some (fileOf pool10 2 #[] #[] 1537 4 #[] #[])
  fields := #[]
  methods := #[]
  instanceTypes := #[]
  staticTypes := #[]
  resolved := Array.replicate 8 none
  statics := none }

/-- the primitive byte -/
def k11 : Class := { plain "byte" none with kind := .primitive 'B', accessFlags := 0x411 }
/-- [B -/
def k12 : Class := { plain "[B" (some 0) with kind := .array 11 .byte, interfaces := #[10, 3], accessFlags := 1041 }

/-- the primitive int -/
def k13 : Class := { plain "int" none with kind := .primitive 'I', accessFlags := 0x411 }
/-- [I -/
def k14 : Class := { plain "[I" (some 0) with kind := .array 13 .int, interfaces := #[10, 3], accessFlags := 1041 }

/-- [Ljava/lang/Integer; -/
def k15 : Class := { plain "[Ljava/lang/Integer;" (some 0) with kind := .array 8 (.object "java/lang/Integer"), interfaces := #[10, 3], accessFlags := 1041 }

def heap : Heap := #[{ cls := 9, slots := #[.int 0, .int 127, .ref 1, .null, .int 0], vm := .statics 9 },
  { cls := 15, slots := #[.ref 2, .ref 3, .ref 4, .ref 5, .ref 6, .ref 7, .ref 8, .ref 9, .ref 10, .ref 11, .ref 12, .ref 13, .ref 14, .ref 15, .ref 16, .ref 17, .ref 18, .ref 19, .ref 20, .ref 21, .ref 22, .ref 23, .ref 24, .ref 25, .ref 26, .ref 27, .ref 28, .ref 29, .ref 30, .ref 31, .ref 32, .ref 33, .ref 34, .ref 35, .ref 36, .ref 37, .ref 38, .ref 39, .ref 40, .ref 41, .ref 42, .ref 43, .ref 44, .ref 45, .ref 46, .ref 47, .ref 48, .ref 49, .ref 50, .ref 51, .ref 52, .ref 53, .ref 54, .ref 55, .ref 56, .ref 57, .ref 58, .ref 59, .ref 60, .ref 61, .ref 62, .ref 63, .ref 64, .ref 65, .ref 66, .ref 67, .ref 68, .ref 69, .ref 70, .ref 71, .ref 72, .ref 73, .ref 74, .ref 75, .ref 76, .ref 77, .ref 78, .ref 79, .ref 80, .ref 81, .ref 82, .ref 83, .ref 84, .ref 85, .ref 86, .ref 87, .ref 88, .ref 89, .ref 90, .ref 91, .ref 92, .ref 93, .ref 94, .ref 95, .ref 96, .ref 97, .ref 98, .ref 99, .ref 100, .ref 101, .ref 102, .ref 103, .ref 104, .ref 105, .ref 106, .ref 107, .ref 108, .ref 109, .ref 110, .ref 111, .ref 112, .ref 113, .ref 114, .ref 115, .ref 116, .ref 117, .ref 118, .ref 119, .ref 120, .ref 121, .ref 122, .ref 123, .ref 124, .ref 125, .ref 126, .ref 127, .ref 128, .ref 129, .ref 130, .ref 131, .ref 132, .ref 133, .ref 134, .ref 135, .ref 136, .ref 137, .ref 138, .ref 139, .ref 140, .ref 141, .ref 142, .ref 143, .ref 144, .ref 145, .ref 146, .ref 147, .ref 148, .ref 149, .ref 150, .ref 151, .ref 152, .ref 153, .ref 154, .ref 155, .ref 156, .ref 157, .ref 158, .ref 159, .ref 160, .ref 161, .ref 162, .ref 163, .ref 164, .ref 165, .ref 166, .ref 167, .ref 168, .ref 169, .ref 170, .ref 171, .ref 172, .ref 173, .ref 174, .ref 175, .ref 176, .ref 177, .ref 178, .ref 179, .ref 180, .ref 181, .ref 182, .ref 183, .ref 184, .ref 185, .ref 186, .ref 187, .ref 188, .ref 189, .ref 190, .ref 191, .ref 192, .ref 193, .ref 194, .ref 195, .ref 196, .ref 197, .ref 198, .ref 199, .ref 200, .ref 201, .ref 202, .ref 203, .ref 204, .ref 205, .ref 206, .ref 207, .ref 208, .ref 209, .ref 210, .ref 211, .ref 212, .ref 213, .ref 214, .ref 215, .ref 216, .ref 217, .ref 218, .ref 219, .ref 220, .ref 221, .ref 222, .ref 223, .ref 224, .ref 225, .ref 226, .ref 227, .ref 228, .ref 229, .ref 230, .ref 231, .ref 232, .ref 233, .ref 234, .ref 235, .ref 236, .ref 237, .ref 238, .ref 239, .ref 240, .ref 241, .ref 242, .ref 243, .ref 244, .ref 245, .ref 246, .ref 247, .ref 248, .ref 249, .ref 250, .ref 251, .ref 252, .ref 253, .ref 254, .ref 255, .ref 256, .ref 257], vm := .none },
  { cls := 8, slots := #[.int (-128)], vm := .none },
  { cls := 8, slots := #[.int (-127)], vm := .none },
  { cls := 8, slots := #[.int (-126)], vm := .none },
  { cls := 8, slots := #[.int (-125)], vm := .none },
  { cls := 8, slots := #[.int (-124)], vm := .none },
  { cls := 8, slots := #[.int (-123)], vm := .none },
  { cls := 8, slots := #[.int (-122)], vm := .none },
  { cls := 8, slots := #[.int (-121)], vm := .none },
  { cls := 8, slots := #[.int (-120)], vm := .none },
  { cls := 8, slots := #[.int (-119)], vm := .none },
  { cls := 8, slots := #[.int (-118)], vm := .none },
  { cls := 8, slots := #[.int (-117)], vm := .none },
  { cls := 8, slots := #[.int (-116)], vm := .none },
  { cls := 8, slots := #[.int (-115)], vm := .none },
  { cls := 8, slots := #[.int (-114)], vm := .none },
  { cls := 8, slots := #[.int (-113)], vm := .none },
  { cls := 8, slots := #[.int (-112)], vm := .none },
  { cls := 8, slots := #[.int (-111)], vm := .none },
  { cls := 8, slots := #[.int (-110)], vm := .none },
  { cls := 8, slots := #[.int (-109)], vm := .none },
  { cls := 8, slots := #[.int (-108)], vm := .none },
  { cls := 8, slots := #[.int (-107)], vm := .none },
  { cls := 8, slots := #[.int (-106)], vm := .none },
  { cls := 8, slots := #[.int (-105)], vm := .none },
  { cls := 8, slots := #[.int (-104)], vm := .none },
  { cls := 8, slots := #[.int (-103)], vm := .none },
  { cls := 8, slots := #[.int (-102)], vm := .none },
  { cls := 8, slots := #[.int (-101)], vm := .none },
  { cls := 8, slots := #[.int (-100)], vm := .none },
  { cls := 8, slots := #[.int (-99)], vm := .none },
  { cls := 8, slots := #[.int (-98)], vm := .none },
  { cls := 8, slots := #[.int (-97)], vm := .none },
  { cls := 8, slots := #[.int (-96)], vm := .none },
  { cls := 8, slots := #[.int (-95)], vm := .none },
  { cls := 8, slots := #[.int (-94)], vm := .none },
  { cls := 8, slots := #[.int (-93)], vm := .none },
  { cls := 8, slots := #[.int (-92)], vm := .none },
  { cls := 8, slots := #[.int (-91)], vm := .none },
  { cls := 8, slots := #[.int (-90)], vm := .none },
  { cls := 8, slots := #[.int (-89)], vm := .none },
  { cls := 8, slots := #[.int (-88)], vm := .none },
  { cls := 8, slots := #[.int (-87)], vm := .none },
  { cls := 8, slots := #[.int (-86)], vm := .none },
  { cls := 8, slots := #[.int (-85)], vm := .none },
  { cls := 8, slots := #[.int (-84)], vm := .none },
  { cls := 8, slots := #[.int (-83)], vm := .none },
  { cls := 8, slots := #[.int (-82)], vm := .none },
  { cls := 8, slots := #[.int (-81)], vm := .none },
  { cls := 8, slots := #[.int (-80)], vm := .none },
  { cls := 8, slots := #[.int (-79)], vm := .none },
  { cls := 8, slots := #[.int (-78)], vm := .none },
  { cls := 8, slots := #[.int (-77)], vm := .none },
  { cls := 8, slots := #[.int (-76)], vm := .none },
  { cls := 8, slots := #[.int (-75)], vm := .none },
  { cls := 8, slots := #[.int (-74)], vm := .none },
  { cls := 8, slots := #[.int (-73)], vm := .none },
  { cls := 8, slots := #[.int (-72)], vm := .none },
  { cls := 8, slots := #[.int (-71)], vm := .none },
  { cls := 8, slots := #[.int (-70)], vm := .none },
  { cls := 8, slots := #[.int (-69)], vm := .none },
  { cls := 8, slots := #[.int (-68)], vm := .none },
  { cls := 8, slots := #[.int (-67)], vm := .none },
  { cls := 8, slots := #[.int (-66)], vm := .none },
  { cls := 8, slots := #[.int (-65)], vm := .none },
  { cls := 8, slots := #[.int (-64)], vm := .none },
  { cls := 8, slots := #[.int (-63)], vm := .none },
  { cls := 8, slots := #[.int (-62)], vm := .none },
  { cls := 8, slots := #[.int (-61)], vm := .none },
  { cls := 8, slots := #[.int (-60)], vm := .none },
  { cls := 8, slots := #[.int (-59)], vm := .none },
  { cls := 8, slots := #[.int (-58)], vm := .none },
  { cls := 8, slots := #[.int (-57)], vm := .none },
  { cls := 8, slots := #[.int (-56)], vm := .none },
  { cls := 8, slots := #[.int (-55)], vm := .none },
  { cls := 8, slots := #[.int (-54)], vm := .none },
  { cls := 8, slots := #[.int (-53)], vm := .none },
  { cls := 8, slots := #[.int (-52)], vm := .none },
  { cls := 8, slots := #[.int (-51)], vm := .none },
  { cls := 8, slots := #[.int (-50)], vm := .none },
  { cls := 8, slots := #[.int (-49)], vm := .none },
  { cls := 8, slots := #[.int (-48)], vm := .none },
  { cls := 8, slots := #[.int (-47)], vm := .none },
  { cls := 8, slots := #[.int (-46)], vm := .none },
  { cls := 8, slots := #[.int (-45)], vm := .none },
  { cls := 8, slots := #[.int (-44)], vm := .none },
  { cls := 8, slots := #[.int (-43)], vm := .none },
  { cls := 8, slots := #[.int (-42)], vm := .none },
  { cls := 8, slots := #[.int (-41)], vm := .none },
  { cls := 8, slots := #[.int (-40)], vm := .none },
  { cls := 8, slots := #[.int (-39)], vm := .none },
  { cls := 8, slots := #[.int (-38)], vm := .none },
  { cls := 8, slots := #[.int (-37)], vm := .none },
  { cls := 8, slots := #[.int (-36)], vm := .none },
  { cls := 8, slots := #[.int (-35)], vm := .none },
  { cls := 8, slots := #[.int (-34)], vm := .none },
  { cls := 8, slots := #[.int (-33)], vm := .none },
  { cls := 8, slots := #[.int (-32)], vm := .none },
  { cls := 8, slots := #[.int (-31)], vm := .none },
  { cls := 8, slots := #[.int (-30)], vm := .none },
  { cls := 8, slots := #[.int (-29)], vm := .none },
  { cls := 8, slots := #[.int (-28)], vm := .none },
  { cls := 8, slots := #[.int (-27)], vm := .none },
  { cls := 8, slots := #[.int (-26)], vm := .none },
  { cls := 8, slots := #[.int (-25)], vm := .none },
  { cls := 8, slots := #[.int (-24)], vm := .none },
  { cls := 8, slots := #[.int (-23)], vm := .none },
  { cls := 8, slots := #[.int (-22)], vm := .none },
  { cls := 8, slots := #[.int (-21)], vm := .none },
  { cls := 8, slots := #[.int (-20)], vm := .none },
  { cls := 8, slots := #[.int (-19)], vm := .none },
  { cls := 8, slots := #[.int (-18)], vm := .none },
  { cls := 8, slots := #[.int (-17)], vm := .none },
  { cls := 8, slots := #[.int (-16)], vm := .none },
  { cls := 8, slots := #[.int (-15)], vm := .none },
  { cls := 8, slots := #[.int (-14)], vm := .none },
  { cls := 8, slots := #[.int (-13)], vm := .none },
  { cls := 8, slots := #[.int (-12)], vm := .none },
  { cls := 8, slots := #[.int (-11)], vm := .none },
  { cls := 8, slots := #[.int (-10)], vm := .none },
  { cls := 8, slots := #[.int (-9)], vm := .none },
  { cls := 8, slots := #[.int (-8)], vm := .none },
  { cls := 8, slots := #[.int (-7)], vm := .none },
  { cls := 8, slots := #[.int (-6)], vm := .none },
  { cls := 8, slots := #[.int (-5)], vm := .none },
  { cls := 8, slots := #[.int (-4)], vm := .none },
  { cls := 8, slots := #[.int (-3)], vm := .none },
  { cls := 8, slots := #[.int (-2)], vm := .none },
  { cls := 8, slots := #[.int (-1)], vm := .none },
  { cls := 8, slots := #[.int 0], vm := .none },
  { cls := 8, slots := #[.int 1], vm := .none },
  { cls := 8, slots := #[.int 2], vm := .none },
  { cls := 8, slots := #[.int 3], vm := .none },
  { cls := 8, slots := #[.int 4], vm := .none },
  { cls := 8, slots := #[.int 5], vm := .none },
  { cls := 8, slots := #[.int 6], vm := .none },
  { cls := 8, slots := #[.int 7], vm := .none },
  { cls := 8, slots := #[.int 8], vm := .none },
  { cls := 8, slots := #[.int 9], vm := .none },
  { cls := 8, slots := #[.int 10], vm := .none },
  { cls := 8, slots := #[.int 11], vm := .none },
  { cls := 8, slots := #[.int 12], vm := .none },
  { cls := 8, slots := #[.int 13], vm := .none },
  { cls := 8, slots := #[.int 14], vm := .none },
  { cls := 8, slots := #[.int 15], vm := .none },
  { cls := 8, slots := #[.int 16], vm := .none },
  { cls := 8, slots := #[.int 17], vm := .none },
  { cls := 8, slots := #[.int 18], vm := .none },
  { cls := 8, slots := #[.int 19], vm := .none },
  { cls := 8, slots := #[.int 20], vm := .none },
  { cls := 8, slots := #[.int 21], vm := .none },
  { cls := 8, slots := #[.int 22], vm := .none },
  { cls := 8, slots := #[.int 23], vm := .none },
  { cls := 8, slots := #[.int 24], vm := .none },
  { cls := 8, slots := #[.int 25], vm := .none },
  { cls := 8, slots := #[.int 26], vm := .none },
  { cls := 8, slots := #[.int 27], vm := .none },
  { cls := 8, slots := #[.int 28], vm := .none },
  { cls := 8, slots := #[.int 29], vm := .none },
  { cls := 8, slots := #[.int 30], vm := .none },
  { cls := 8, slots := #[.int 31], vm := .none },
  { cls := 8, slots := #[.int 32], vm := .none },
  { cls := 8, slots := #[.int 33], vm := .none },
  { cls := 8, slots := #[.int 34], vm := .none },
  { cls := 8, slots := #[.int 35], vm := .none },
  { cls := 8, slots := #[.int 36], vm := .none },
  { cls := 8, slots := #[.int 37], vm := .none },
  { cls := 8, slots := #[.int 38], vm := .none },
  { cls := 8, slots := #[.int 39], vm := .none },
  { cls := 8, slots := #[.int 40], vm := .none },
  { cls := 8, slots := #[.int 41], vm := .none },
  { cls := 8, slots := #[.int 42], vm := .none },
  { cls := 8, slots := #[.int 43], vm := .none },
  { cls := 8, slots := #[.int 44], vm := .none },
  { cls := 8, slots := #[.int 45], vm := .none },
  { cls := 8, slots := #[.int 46], vm := .none },
  { cls := 8, slots := #[.int 47], vm := .none },
  { cls := 8, slots := #[.int 48], vm := .none },
  { cls := 8, slots := #[.int 49], vm := .none },
  { cls := 8, slots := #[.int 50], vm := .none },
  { cls := 8, slots := #[.int 51], vm := .none },
  { cls := 8, slots := #[.int 52], vm := .none },
  { cls := 8, slots := #[.int 53], vm := .none },
  { cls := 8, slots := #[.int 54], vm := .none },
  { cls := 8, slots := #[.int 55], vm := .none },
  { cls := 8, slots := #[.int 56], vm := .none },
  { cls := 8, slots := #[.int 57], vm := .none },
  { cls := 8, slots := #[.int 58], vm := .none },
  { cls := 8, slots := #[.int 59], vm := .none },
  { cls := 8, slots := #[.int 60], vm := .none },
  { cls := 8, slots := #[.int 61], vm := .none },
  { cls := 8, slots := #[.int 62], vm := .none },
  { cls := 8, slots := #[.int 63], vm := .none },
  { cls := 8, slots := #[.int 64], vm := .none },
  { cls := 8, slots := #[.int 65], vm := .none },
  { cls := 8, slots := #[.int 66], vm := .none },
  { cls := 8, slots := #[.int 67], vm := .none },
  { cls := 8, slots := #[.int 68], vm := .none },
  { cls := 8, slots := #[.int 69], vm := .none },
  { cls := 8, slots := #[.int 70], vm := .none },
  { cls := 8, slots := #[.int 71], vm := .none },
  { cls := 8, slots := #[.int 72], vm := .none },
  { cls := 8, slots := #[.int 73], vm := .none },
  { cls := 8, slots := #[.int 74], vm := .none },
  { cls := 8, slots := #[.int 75], vm := .none },
  { cls := 8, slots := #[.int 76], vm := .none },
  { cls := 8, slots := #[.int 77], vm := .none },
  { cls := 8, slots := #[.int 78], vm := .none },
  { cls := 8, slots := #[.int 79], vm := .none },
  { cls := 8, slots := #[.int 80], vm := .none },
  { cls := 8, slots := #[.int 81], vm := .none },
  { cls := 8, slots := #[.int 82], vm := .none },
  { cls := 8, slots := #[.int 83], vm := .none },
  { cls := 8, slots := #[.int 84], vm := .none },
  { cls := 8, slots := #[.int 85], vm := .none },
  { cls := 8, slots := #[.int 86], vm := .none },
  { cls := 8, slots := #[.int 87], vm := .none },
  { cls := 8, slots := #[.int 88], vm := .none },
  { cls := 8, slots := #[.int 89], vm := .none },
  { cls := 8, slots := #[.int 90], vm := .none },
  { cls := 8, slots := #[.int 91], vm := .none },
  { cls := 8, slots := #[.int 92], vm := .none },
  { cls := 8, slots := #[.int 93], vm := .none },
  { cls := 8, slots := #[.int 94], vm := .none },
  { cls := 8, slots := #[.int 95], vm := .none },
  { cls := 8, slots := #[.int 96], vm := .none },
  { cls := 8, slots := #[.int 97], vm := .none },
  { cls := 8, slots := #[.int 98], vm := .none },
  { cls := 8, slots := #[.int 99], vm := .none },
  { cls := 8, slots := #[.int 100], vm := .none },
  { cls := 8, slots := #[.int 101], vm := .none },
  { cls := 8, slots := #[.int 102], vm := .none },
  { cls := 8, slots := #[.int 103], vm := .none },
  { cls := 8, slots := #[.int 104], vm := .none },
  { cls := 8, slots := #[.int 105], vm := .none },
  { cls := 8, slots := #[.int 106], vm := .none },
  { cls := 8, slots := #[.int 107], vm := .none },
  { cls := 8, slots := #[.int 108], vm := .none },
  { cls := 8, slots := #[.int 109], vm := .none },
  { cls := 8, slots := #[.int 110], vm := .none },
  { cls := 8, slots := #[.int 111], vm := .none },
  { cls := 8, slots := #[.int 112], vm := .none },
  { cls := 8, slots := #[.int 113], vm := .none },
  { cls := 8, slots := #[.int 114], vm := .none },
  { cls := 8, slots := #[.int 115], vm := .none },
  { cls := 8, slots := #[.int 116], vm := .none },
  { cls := 8, slots := #[.int 117], vm := .none },
  { cls := 8, slots := #[.int 118], vm := .none },
  { cls := 8, slots := #[.int 119], vm := .none },
  { cls := 8, slots := #[.int 120], vm := .none },
  { cls := 8, slots := #[.int 121], vm := .none },
  { cls := 8, slots := #[.int 122], vm := .none },
  { cls := 8, slots := #[.int 123], vm := .none },
  { cls := 8, slots := #[.int 124], vm := .none },
  { cls := 8, slots := #[.int 125], vm := .none },
  { cls := 8, slots := #[.int 126], vm := .none },
  { cls := 8, slots := #[.int 127], vm := .none }]
def classes : Array Class := #[k0, k1, k2, k3, k4, k5, k6, k7, k8, k9, k10, k11, k12, k13, k14, k15]
def interned : List (Array UInt16 × Addr) := []
def slotsUsed : Nat := 517
def theMethod : MethodId := ⟨1, 1⟩
def args0 : Array Value := #[.int 5, .int 5, .int 5, .int 5, .int 5]
def aboutOver (below : List Frame) : State where
  vm := { classes := classes, interned := interned.toArray }
  heap := heap
  slotsUsed := slotsUsed
  threads := #[{ frames := .invoking theMethod args0 :: below }]
def below0 : List Frame := [.native { method := ⟨0, 0⟩, args := #[] }]
def about1 : State := aboutOver below0
def p0 : Program := .bare "" "" ""
def e0 : Env := launch0.env 0 0 0
theorem w_frames : about1.frames = Frame.invoking theMethod args0 :: below0 := rfl
set_option maxRecDepth 65536 in
theorem w_args : argsFit about1.vm theMethod args0 = true := by decide +kernel
set_option maxRecDepth 65536 in
theorem w_heap : heapFits about1 = true := by decide +kernel
set_option maxRecDepth 65536 in
theorem w_runnable : about1.curStatus? = some .runnable := by decide +kernel
set_option maxRecDepth 65536 in
theorem w_alone : about1.alone = true := by decide +kernel
set_option maxRecDepth 65536 in
theorem w_named : about1.methodNamed? x = some theMethod := by decide +kernel
set_option maxRecDepth 65536 in
theorem w_hears : about1.hears theMethod below0 = true := by decide +kernel
set_option maxRecDepth 65536 in
theorem w_ripe : about1.ripe theMethod args0 below0 = true := by decide +kernel
theorem w_running : about1.status = .running := rfl
set_option maxRecDepth 65536 in
theorem w_room : about1.hasRoom e0.platform room_1 = true :=
  launch0.hasRoom_least _ room_1 (by decide +kernel) (by decide +kernel) (by decide +kernel) (by decide +kernel) (by decide +kernel) (by decide +kernel)
theorem allAtoms_all (ts : List Jvm.Cond) (a : Array Jvm.Value) (st : Jvm.State) : (allAtoms ts).before a st = ts.all (fun c => c.before a st) := by
  induction ts with
  | nil => rfl
  | cons c t ih =>
    show (Jvm.Cond.and c (allAtoms t)).before a st = _
    rw [Jvm.Cond.before_and, ih, List.all_cons]
def words1 : List Jvm.Cond := Jvm.Cond.code x code maxLocals ret :: tables_1
/-- a 'code' word, met by the world's own term for the bytes: nothing is compared byte by byte -/
theorem code_word {y : MethodName} {bytes : ByteArray} {mx : Nat} {rt : Option FieldType} {a : Array Value} {s : State} {m : MethodId} {meth : Method} {c : Code} (h1 : s.methodNamed? y = some m) (h2 : s.vm.method? m = some meth) (h3 : meth.code = some c) (h4 : c.code = bytes)
    (h5 : (c.maxLocals == mx && c.exceptionTable.isEmpty && decide (c.maxStack ≤ mostOperands) && decide (meth.sig.returnType = rt) && !meth.locks && decide (parseMethodDescriptor y.desc = some meth.sig)) = true) : (Jvm.Cond.code y bytes mx rt).before a s = true := by
  simp only [Bool.and_eq_true, beq_iff_eq, Bool.not_eq_true', decide_eq_true_eq] at h5
  obtain ⟨⟨⟨⟨⟨g1, g2⟩, g3⟩, g4⟩, g5⟩, g6⟩ := h5
  simp [Cond.before, Cond.holds, Cond.value, h1, h2, h3, h4, g1, g2, g3, g4, g5, g6]
def isCode : Jvm.Cond → Bool
  | .code _ _ _ _ => true
  | _ => false
theorem all_split {L : List Jvm.Cond} {P : Jvm.Cond → Bool} (h1 : L.all (fun c => isCode c || P c) = true) (h2 : ∀ c ∈ L.filter isCode, P c = true) : L.all P = true := by
  refine List.all_eq_true.mpr fun c hc => ?_
  have h := List.all_eq_true.mp h1 c hc
  rcases Bool.eq_false_or_eq_true (isCode c) with hi | hi
  · exact h2 c (List.mem_filter.mpr ⟨hc, hi⟩)
  · simpa [hi] using h
set_option maxRecDepth 65536 in
theorem w_c0 : (Jvm.Cond.code x code maxLocals ret).before args0 about1 = true := code_word (m := ⟨1, 1⟩) (meth := k1m1) (c := k1c1) (by decide +kernel) rfl rfl rfl (by decide +kernel)
set_option maxRecDepth 65536 in
theorem w_c1 : (Jvm.Cond.code ({ cls := "com/example/fissure/fissure/games/breakable/Cube", name := "<init>", desc := "(II)V" } : Jvm.MethodName) prog_23_method_1_code (3 : Nat) (Option.none : Option Jvm.ClassFile.FieldType)).before args0 about1 = true := code_word (m := ⟨2, 0⟩) (meth := k2m0) (c := k2c0) (by decide +kernel) rfl rfl rfl (by decide +kernel)
set_option maxRecDepth 65536 in
theorem w_c2 : (Jvm.Cond.code ({ cls := "java/lang/Object", name := "<init>", desc := "()V" } : Jvm.MethodName) object_method_1_code (1 : Nat) (Option.none : Option Jvm.ClassFile.FieldType)).before args0 about1 = true := code_word (m := ⟨0, 0⟩) (meth := k0m0) (c := k0c0) (by decide +kernel) rfl rfl rfl (by decide +kernel)
set_option maxRecDepth 65536 in
theorem w_c3 : (Jvm.Cond.code ({ cls := "com/example/fissure/fissure/games/breakable/Cube", name := "equals", desc := "(Ljava/lang/Object;)Z" } : Jvm.MethodName) prog_23_method_8_code (3 : Nat) (Option.some Jvm.ClassFile.FieldType.boolean)).before args0 about1 = true := code_word (m := ⟨2, 1⟩) (meth := k2m1) (c := k2c1) (by decide +kernel) rfl rfl rfl (by decide +kernel)
set_option maxRecDepth 65536 in
theorem w_c4 : (Jvm.Cond.code ({ cls := "java/lang/Integer", name := "valueOf", desc := "(I)Ljava/lang/Integer;" } : Jvm.MethodName) jdk_33_method_22_code (1 : Nat) (Option.some (Jvm.ClassFile.FieldType.object "java/lang/Integer"))).before args0 about1 = true := code_word (m := ⟨8, 0⟩) (meth := k8m0) (c := k8c0) (by decide +kernel) rfl rfl rfl (by decide +kernel)
set_option maxRecDepth 65536 in
theorem w_c5 : (Jvm.Cond.code ({ cls := "java/lang/Integer", name := "<init>", desc := "(I)V" } : Jvm.MethodName) jdk_33_method_23_code (2 : Nat) (Option.none : Option Jvm.ClassFile.FieldType)).before args0 about1 = true := code_word (m := ⟨8, 1⟩) (meth := k8m1) (c := k8c1) (by decide +kernel) rfl rfl rfl (by decide +kernel)
set_option maxRecDepth 65536 in
theorem w_c6 : (Jvm.Cond.code ({ cls := "java/lang/Number", name := "<init>", desc := "()V" } : Jvm.MethodName) jdk_18_method_1_code (1 : Nat) (Option.none : Option Jvm.ClassFile.FieldType)).before args0 about1 = true := code_word (m := ⟨4, 0⟩) (meth := k4m0) (c := k4c0) (by decide +kernel) rfl rfl rfl (by decide +kernel)
def codes1 : List Jvm.Cond := [Jvm.Cond.code x code maxLocals ret, Jvm.Cond.code ({ cls := "com/example/fissure/fissure/games/breakable/Cube", name := "<init>", desc := "(II)V" } : Jvm.MethodName) prog_23_method_1_code (3 : Nat) (Option.none : Option Jvm.ClassFile.FieldType), Jvm.Cond.code ({ cls := "java/lang/Object", name := "<init>", desc := "()V" } : Jvm.MethodName) object_method_1_code (1 : Nat) (Option.none : Option Jvm.ClassFile.FieldType), Jvm.Cond.code ({ cls := "com/example/fissure/fissure/games/breakable/Cube", name := "equals", desc := "(Ljava/lang/Object;)Z" } : Jvm.MethodName) prog_23_method_8_code (3 : Nat) (Option.some Jvm.ClassFile.FieldType.boolean), Jvm.Cond.code ({ cls := "java/lang/Integer", name := "valueOf", desc := "(I)Ljava/lang/Integer;" } : Jvm.MethodName) jdk_33_method_22_code (1 : Nat) (Option.some (Jvm.ClassFile.FieldType.object "java/lang/Integer")), Jvm.Cond.code ({ cls := "java/lang/Integer", name := "<init>", desc := "(I)V" } : Jvm.MethodName) jdk_33_method_23_code (2 : Nat) (Option.none : Option Jvm.ClassFile.FieldType), Jvm.Cond.code ({ cls := "java/lang/Number", name := "<init>", desc := "()V" } : Jvm.MethodName) jdk_18_method_1_code (1 : Nat) (Option.none : Option Jvm.ClassFile.FieldType)]
set_option maxRecDepth 65536 in
theorem codes_eq : words1.filter isCode = codes1 := rfl
theorem w_codes : ∀ c ∈ words1.filter isCode, c.before args0 about1 = true := by
  rw [codes_eq]
  intro c hc
  simp only [codes1, List.mem_cons, List.not_mem_nil, or_false] at hc
  rcases hc with rfl | rfl | rfl | rfl | rfl | rfl | rfl
  · exact w_c0
  · exact w_c1
  · exact w_c2
  · exact w_c3
  · exact w_c4
  · exact w_c5
  · exact w_c6
set_option maxRecDepth 65536 in
theorem w_t1 : (words1.take 24).all (fun c => isCode c || c.before args0 about1) = true := by decide +kernel
set_option maxRecDepth 65536 in
theorem w_t2 : (words1.drop 24).all (fun c => isCode c || c.before args0 about1) = true := by decide +kernel
theorem w_tables : (allAtoms (Jvm.Cond.code x code maxLocals ret :: tables_1)).before args0 about1 = true := by
  rw [allAtoms_all]
  show words1.all (fun c => c.before args0 about1) = true
  refine all_split ?_ w_codes
  rw [← List.take_append_drop 24 words1, List.all_append, w_t1, w_t2]
  rfl
set_option maxRecDepth 65536 in
theorem w_rest : rest_1_c.before args0 about1 = true := by decide +kernel
set_option maxRecDepth 65536 in
theorem w_case : (Jvm.Cond.and given_1 narrow_1).before args0 about1 = true := by decide +kernel
theorem w_applies : (headSpec (Jvm.Cond.code x code maxLocals ret :: tables_1) room_1).applies x e0.platform about1 = true :=
  (Spec.applies_iff w_frames).mpr ⟨w_running, w_runnable, w_alone, w_named, w_hears, w_ripe, w_room, w_tables⟩
theorem atStart : AtStart classFile x code maxLocals ret World_1 tables_1 room_1 Calls_1 rest_1 Pre_1 launch0 p0 e0 about1 theMethod args0 below0 :=
  ⟨lists_1, trivial, launch0.admits_env _ _ _, launch0.least_env, fairChoices_fair.cas, fairChoices_fair.clock, w_frames, w_args, w_heap, w_applies, trivial, w_rest, w_case⟩
end start1
theorem witness_1 : WitnessClaimed_1 := ⟨start1.p0, start1.e0, start1.about1, start1.theMethod, start1.args0, start1.below0, start1.atStart⟩
end Jvm.Pilot.@@N@@
