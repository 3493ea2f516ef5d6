import JvmDerived
import JvmDerived.Pilot.@@N@@Statement
import JvmDerived.Pilot.@@N@@Code
set_option linter.unusedVariables false
set_option linter.unusedSimpArgs false
namespace Jvm.RoadKit
open Sem ClassFile Op Lib Jvm.Stand Jvm.Free Jvm.LawKit
section New
variable {p : Program} {l : Launch} {e : Env} {R : Room} {s : State} {m : MethodId} {args : Array Value} {below : List Frame} {meth : Method} {c : Code} {T : State} {locs : List Loc} {cells slots : Nat}
theorem retI (X : Stand p l e R s m args below meth c T locs cells slots) (hx : p.tables.exec = Jvm.exec) {pc : Nat} {Ls : Array Slot} {z : Int32} {rest : List Value} (hret : meth.sig.returnType = some .int) (hd : decode c.code pc = .ok (.ireturn, 1)) {fs : List Frame}
    (hl : ∀ (f : JFrame) (acts : List Action), f.method = m → f.locked = none → f.entered = [] → (doReturn e (T.setTop f) acts (some (.int z))).1 = T.setFrames fs) : Steps p.tables e below (T.setTop (mkF m pc Ls (.int z :: rest))) (T.setFrames fs) := by
  have hm' : T.vm.method? m = some meth := X.method'
  have hn : narrow .int (.int z) = .int z := rfl
  show Steps p.tables e below (T.setTop { method := m, pc := pc, locals := Ls, stack := _ :: rest, locked := none }) _
  jvm_step X.here [X.here.top, hx, hd, hm', hret, hn]
  first | (intro acts; rw [hl _ acts rfl rfl rfl]) | rw [hl _ _ rfl rfl rfl]
  exact Steps.refl _
theorem retA (X : Stand p l e R s m args below meth c T locs cells slots) (hx : p.tables.exec = Jvm.exec) {pc : Nat} {Ls : Array Slot} {w : Value} {t : FieldType} {rest : List Value} (hret : meth.sig.returnType = some t) (ht : t.isReference = true) (hw : w.isRef = true) (hn : narrow t w = w) (hd : decode c.code pc = .ok (.areturn, 1)) {fs : List Frame}
    (hl : ∀ (f : JFrame) (acts : List Action), f.method = m → f.locked = none → f.entered = [] → (doReturn e (T.setTop f) acts (some w)).1 = T.setFrames fs) : Steps p.tables e below (T.setTop (mkF m pc Ls (w :: rest))) (T.setFrames fs) :=
  retOut X hx hret hn (Or.inr (Or.inr (Or.inr (Or.inr ⟨rfl, ht, hw⟩)))) hd hl
end New
/-- all that was there is there still: a write to a cell above -/
theorem own_ext_wr {h0 h h' : Heap} {a : Addr} {sl : Nat} {v : Value} (E : Ext h0 h) (W : Wr h h' a sl v) (q : h0.size ≤ a) : Ext h0 h' := by
  refine ⟨Nat.le_trans E.1 (Keep.of_wr W).1, fun x c hc => (Keep.of_wr W).2.1 x c (E.2 x c hc) fun hm => ?_⟩
  cases List.mem_singleton.mp hm
  exact absurd (Array.getElem?_eq_some_iff.mp hc).1 (Nat.not_lt.mpr q)
theorem own_ext_keep {h0 h h' : Heap} {ws : List Addr} (E : Ext h0 h) (K : Keep h h' ws) (q : ∀ x ∈ ws, h0.size ≤ x) : Ext h0 h' :=
  ⟨Nat.le_trans E.1 K.1, fun x c hc => K.2.1 x c (E.2 x c hc) fun hm => absurd (Array.getElem?_eq_some_iff.mp hc).1 (Nat.not_lt.mpr (q x hm))⟩
theorem own_ext_trans {h0 h h' : Heap} (E : Ext h0 h) (E' : Ext h h') : Ext h0 h' := ⟨Nat.le_trans E.1 E'.1, fun x c hc => E'.2 x c (E.2 x c hc)⟩
theorem own_ext_refl (h : Heap) : Ext h h := ⟨Nat.le_refl _, fun _ _ q => q⟩
/-- a static that holds an object of this very class -/
theorem own_sta {Z : State} {a0 : Array Value} {C n d K : String} (wi : (Cond.initialized C).before a0 Z = true) (wl : (Cond.laysStatic C n d).before a0 Z = true) (hx : (Cond.exactly (.static C n d) K).value a0 Z none Z [] = some true) :
    ∃ w, (Term.static C n d).eval a0 Z none [] Z = some (.ref w) ∧ Sta Z Z.heap C n d (.ref w) ∧ Exa Z Z.heap w K := by
  obtain ⟨w, ev⟩ := exa_v hx
  exact ⟨w, ev, Sta.start ev (Or.inr ⟨wi, wl⟩), Exa.start ev hx⟩
/-- a field of an object that a term names, by an 'eq' of ints -/
theorem own_fld {Z : State} {a0 : Array Value} {t : Term} {w : Addr} {C n d : String} {k : Int32} (ev : t.eval a0 Z none [] Z = some (.ref w)) (h : (Cond.eq (.field t C n d) (.int k)).value a0 Z none Z [] = some true) : Fld Z Z.heap w C n d (.int k) :=
  Fld.start ((fld_at ev).symm.trans (eqv_i (F := .int k) rfl h))
end Jvm.RoadKit
namespace Jvm.RoadKit
open Sem ClassFile Op Lib Jvm.Stand Jvm.Free Jvm.LawKit
theorem own_fldR {Z : State} {a0 : Array Value} {t u : Term} {w w' : Addr} {C n d : String} (ev : t.eval a0 Z none [] Z = some (.ref w)) (eu : u.eval a0 Z none [] Z = some (.ref w')) (h : (Cond.eq (.field t C n d) u).value a0 Z none Z [] = some true) : Fld Z Z.heap w C n d (.ref w') := by
  refine Fld.start ((fld_at ev).symm.trans ?_)
  obtain ⟨x, y, hx, hy, -, -⟩ := cmp_v (Or.inl h)
  cases eu.symm.trans hy
  simp only [Cond.value, hx, hy] at h
  cases x <;> simp at h
  rw [hx, h]
theorem own_staA {Z : State} {a0 : Array Value} {C n d : String} {ty : FieldType} (wi : (Cond.initialized C).before a0 Z = true) (wl : (Cond.laysStatic C n d).before a0 Z = true) (hx : (Cond.arrayOf (.static C n d) ty).value a0 Z none Z [] = some true) :
    ∃ w, (Term.static C n d).eval a0 Z none [] Z = some (.ref w) ∧ Sta Z Z.heap C n d (.ref w) ∧ ∃ c, Arr Z Z.heap w c ty := by
  obtain ⟨w, ev⟩ := arr_v hx
  exact ⟨w, ev, Sta.start ev (Or.inr ⟨wi, wl⟩), Arr.start ev hx⟩
theorem own_len {Z : State} {a0 : Array Value} {t : Term} {w : Addr} {c : Cell} {ty : FieldType} {k : Int32} {n : Nat} (ev : t.eval a0 Z none [] Z = some (.ref w)) (A : Arr Z Z.heap w c ty) (h : (Cond.eq (.length t) (.int k)).value a0 Z none Z [] = some true) (hk : k.toInt = n) : c.slots.size = n := by
  have e := eqv_i (F := .int k) rfl h
  have ha : Z.arrayAt? w = some c := Arr.fin (Vm.Alike.refl _) A
  simp only [Term.eval, ev, ha, Option.bind_eq_bind, Option.bind_some] at e
  split at e
  · rename_i hl
    have q : c.slots.size.toInt32 = k := by simpa using e
    have q2 := len_toInt hl
    rw [q, hk] at q2
    omega
  · cases e
theorem own_elem {Z : State} {a0 : Array Value} {t : Term} {w : Addr} {c : Cell} {ty : FieldType} {k : Int32} {n : Nat} {v : Value} (ev : t.eval a0 Z none [] Z = some (.ref w)) (A : Arr Z Z.heap w c ty) (h : (Term.elem t (.int k)).eval a0 Z none [] Z = some v) (hk : k.toNatClampNeg = n) : c.slots[n]? = some v := by
  have q := (elem_in h ev (j := k) rfl A.1).2
  rw [hk] at q; exact q
theorem own_elN {Z : State} {a0 : Array Value} {t : Term} {w : Addr} {c : Cell} {ty : FieldType} {k : Int32} {n : Nat} (ev : t.eval a0 Z none [] Z = some (.ref w)) (A : Arr Z Z.heap w c ty) (h : (Cond.eq (.elem t (.int k)) .null).value a0 Z none Z [] = some true) (hk : k.toNatClampNeg = n) : c.slots[n]? = some .null := own_elem ev A (null_v h) hk
theorem own_elI {Z : State} {a0 : Array Value} {t : Term} {w : Addr} {c : Cell} {ty : FieldType} {k i : Int32} {n : Nat} (ev : t.eval a0 Z none [] Z = some (.ref w)) (A : Arr Z Z.heap w c ty) (h : (Cond.eq (.elem t (.int k)) (.int i)).value a0 Z none Z [] = some true) (hk : k.toNatClampNeg = n) : c.slots[n]? = some (.int i) := own_elem ev A (eqv_i (F := .int i) rfl h) hk
theorem own_elR {Z : State} {a0 : Array Value} {t u : Term} {w w' : Addr} {c : Cell} {ty : FieldType} {k : Int32} {n : Nat} (ev : t.eval a0 Z none [] Z = some (.ref w)) (A : Arr Z Z.heap w c ty) (eu : u.eval a0 Z none [] Z = some (.ref w')) (h : (Cond.eq (.elem t (.int k)) u).value a0 Z none Z [] = some true) (hk : k.toNatClampNeg = n) : c.slots[n]? = some (.ref w') := by
  refine own_elem ev A ?_ hk
  obtain ⟨x, y, hx, hy, -, -⟩ := cmp_v (Or.inl h)
  cases eu.symm.trans hy
  simp only [Cond.value, hx, hy] at h
  cases x <;> simp at h
  rw [hx, h]
end Jvm.RoadKit
namespace Jvm.RoadKit
open Sem ClassFile Op Lib Jvm.Stand Jvm.Free Jvm.LawKit
/-- a constant is laid into a fresh array: what stood at the start stands, the array's list has it -/
theorem own_stR {p : Program} {l : Launch} {e : Env} {R : Room} {s : State} {m : MethodId} {args : Array Value} {below : List Frame} {meth : Method} {c : Code} {T : State} {locs : List Loc} {cells slots : Nat} {Z : State} {h0 h : Heap}
    (X : Stand p l e R s m args below meth c T locs cells slots) (hx : p.tables.exec = Jvm.exec) (hZ : Z.Warmed39 s.vm) (eT : T.heap = h) (O : Ext h0 h) {b : Addr} {k : ClassId} {C : String} {n : Int32} {vs : List Value} (A : Arv Z h b k (.object C) n vs .null) (Ov : Ovr Z k C) {w : Addr} (I : Ins Z h0 w C true) (hb : h0.size ≤ b)
    {j : Int32} {i : Nat} (hj : ¬ j < 0 ∧ j < n) (hi : j.toNatClampNeg = i) (hl : i < vs.length) {g : JFrame} (hg : g.method = m) {rest : List Value} (hs : g.stack = .ref w :: .int j :: .ref b :: rest) (hd : decode c.code g.pc = .ok (.aastore, 1)) :
    ∃ T' h', Stand p l e R s m args below meth c T' (locs ++ [⟨b, j.toNatClampNeg⟩]) cells slots ∧ T'.heap = h' ∧ Ext h0 h' ∧ Arv Z h' b k (.object C) n (vs.set i (.ref w)) .null ∧
      ∀ target, Steps p.tables e below (T'.setTop { g with pc := g.pc + 1, stack := rest }) target → Steps p.tables e below (T.setTop g) target := by
  obtain ⟨c, Ar, q1, S, N, H, G⟩ := A
  obtain ⟨T', h', X', e', W, st⟩ := stR X hx hZ eT Ar (inb_of S hj) rfl (Sto.ofV Ar q1 Ov (I.ext O)) hg hs hd
  exact ⟨T', h', X', e', own_ext_wr O W hb, Arv.set Ar q1 S N H G rfl W i hi hl, st⟩
/-- a remainder by a small number is one of the small numbers -/
theorem own_rem (x q : Int32) (d : Nat) (hq : q.toInt = d) (hd : 0 < d) : ∃ n : Nat, n < d ∧ (x &&& (2147483647 : Int32)) % q = n.toInt32 := by
  have h1 := c_mask x (2147483647 : Int32) 31 (by decide) (by decide)
  have h2 := (c_irem (x &&& (2147483647 : Int32)) q d hq).1 (by rw [h1]; omega)
  have hlo := (rng32 q).2
  have h3 : 0 ≤ ((x &&& (2147483647 : Int32)) % q).toInt ∧ ((x &&& (2147483647 : Int32)) % q).toInt < d := by
    rw [h2]; exact ⟨Int.emod_nonneg _ (by omega), Int.emod_lt_of_pos _ (by omega)⟩
  refine ⟨((x &&& (2147483647 : Int32)) % q).toInt.toNat, by omega, ?_⟩
  apply Int32.toInt_inj.mp
  rw [len_toInt (by omega)]
  omega
end Jvm.RoadKit
namespace Jvm.Pilot.@@N@@
open Jvm Jvm.ClassFile Sem Op Lib Jvm.Free Jvm.Stand Jvm.LawKit Jvm.RoadKit Bundle Jvm.Pilot.@@N@@.Jvm.D
theorem ef_1 (m : MethodId) (a : Addr) : entryFrame m #[(.ref a)] 1 = mkF m 0 #[.val (.ref a)] [] := by first | (simp [entryFrame, mkF, argsToLocals, Value.category]; done) | rfl
def Q_1 (Z : State) (a : Addr) (wk : Addr) (w_OFF_BALANCE : Addr) (h0 : Heap) (n0 : Nat) (v : Option Value) (h : Heap) (L : List Loc) : Prop := v = some (.int (if wk = w_OFF_BALANCE then (1 : Int32) else (0 : Int32))) ∧ Fr n0 L ∧ h = h0
theorem pn_0 : plainName "com/example/ponderat/ponderat/Item" = true := by first | (simp [plainName, overriddenIn]; done) | decide +kernel
theorem d1_0 : decode prog_13_method_5_code 0 = .ok (.aload_n 0, 1) := by decide +kernel
theorem d1_1 : decode prog_13_method_5_code 1 = .ok (.getfield 101, 3) := by decide +kernel
theorem d1_4 : decode prog_13_method_5_code 4 = .ok (.getstatic 110, 3) := by decide +kernel
theorem d1_7 : decode prog_13_method_5_code 7 = .ok (.if_acmp .ne 7, 3) := by decide +kernel
theorem d1_10 : decode prog_13_method_5_code 10 = .ok (.iconst 1, 1) := by decide +kernel
theorem d1_11 : decode prog_13_method_5_code 11 = .ok (.goto 4, 3) := by decide +kernel
theorem d1_15 : decode prog_13_method_5_code 15 = .ok (.ireturn, 1) := by decide +kernel
theorem d1_14 : decode prog_13_method_5_code 14 = .ok (.iconst 0, 1) := by decide +kernel
set_option maxRecDepth 65536 in
set_option maxHeartbeats 40000000 in
theorem rm_1 (l : Launch) (Z : State) (a0 : Array Value) (hw : ∀ d ∈ tables_1, d.before a0 Z = true) (ws : List Jvm.Cond) (a : Addr) (wk : Addr) (w_OFF_BALANCE : Addr) (h0 : Heap) (n0 : Nat) (Z0 : n0 ≤ h0.size) (Fk : Fld Z h0 a "com/example/ponderat/ponderat/Item" "kind" "Lcom/example/ponderat/ponderat/Item$Kind;" (.ref wk)) (S_OFF_BALANCE : Sta Z h0 "com/example/ponderat/ponderat/Item$Kind" "OFF_BALANCE" "Lcom/example/ponderat/ponderat/Item$Kind;" (.ref w_OFF_BALANCE)) :
    MetFree l (⟨"com/example/ponderat/ponderat/Item", "isOffBalance", "()Z"⟩ : MethodName) (head1 (Jvm.Cond.code (⟨"com/example/ponderat/ponderat/Item", "isOffBalance", "()Z"⟩ : MethodName) prog_13_method_5_code 1 (some .boolean) :: ws) ({ frames := 0, cells := 0, slots := 0, locals := 0 } : Room)) (fun a_ U_ => a_ = #[(.ref a)] ∧ Z.Warmed39 U_.vm ∧ U_.heap = h0) (fun _ _ _ _ _ => True) (fun _ U_ o_ V_ => ∃ v_ L_, o_ = .returned v_ ∧ Q_1 Z a wk w_OFF_BALANCE h0 n0 v_ V_.heap L_ ∧ FrameEnd U_ o_ V_ L_ ({ frames := 0, cells := 0, slots := 0, locals := 0 } : Room).cells ({ frames := 0, cells := 0, slots := 0, locals := 0 } : Room).slots) := by
  refine MetFree.of_bodySF (plainFor_of_name pn_0) hisR ?_
  intro p e s m args below meth c s₁ Bd hml0 hP hK
  obtain ⟨rfl, hZ, hh⟩ := hP
  have hx := Bd.exec
  have hby := Bd.bytes
  have hml : c.maxLocals = 1 := hml0
  have hown : s.vm.findClass "com/example/ponderat/ponderat/Item" = some m.cls := findClass_of_methodNamed Bd.named
  have hnm := (name_of_methodNamed Bd.named Bd.method).1
  have X0 : Stand p l e ({ frames := 0, cells := 0, slots := 0, locals := 0 } : Room) s m #[(.ref a)] below meth c s₁ [] 0 0 := Stand.of_body Bd
  have e0 : s₁.heap = h0 := by rw [← hh, Bd.state]; rfl
  have N0 := Fr.nil n0
  have pre0 : ∀ t_, Steps p.tables e below (s₁.setTop (mkF m 0 #[.val (.ref a)] [])) t_ → Steps p.tables e below (s₁.setTop (entryFrame m #[(.ref a)] 1)) t_ := fun t_ k_ => castTop (ef_1 m a) k_
  obtain ⟨T1, X1, e1, st1⟩ := getF X0 hx hZ hown (host := "") (Or.inl (hw _ (List.mem_of_getElem? (i := 62) rfl))) Via.refl e0 Fk (g := (mkF m 1 #[.val (.ref a)] [(.ref a)])) rfl rfl (hb hby d1_1)
  obtain ⟨T2, X2, e2, st2⟩ := getS2 X1 hx hZ hown (host := "") (Or.inl (hw _ (List.mem_of_getElem? (i := 66) rfl))) Via.refl e1 S_OFF_BALANCE (g := (mkF m 4 #[.val (.ref a)] [(.ref wk)])) rfl (hb hby d1_4)
  have pre3 : ∀ t_, Steps p.tables e below (T2.setTop (mkF m 7 #[.val (.ref a)] [(.ref w_OFF_BALANCE), (.ref wk)])) t_ → Steps p.tables e below (s₁.setTop (entryFrame m #[(.ref a)] 1)) t_ := fun t_ k_ => pre0 t_ (by
    show Steps p.tables e below (s₁.setTop (mkF m 0 #[.val (.ref a)] [])) _
    refine XS.aloadN X0.here hx rfl (hb hby d1_0) rfl rfl ?_
    show Steps p.tables e below (s₁.setTop (mkF m 1 #[.val (.ref a)] [(.ref a)])) _
    refine st1 _ ?_
    show Steps p.tables e below (T1.setTop (mkF m 4 #[.val (.ref a)] [(.ref wk)])) _
    refine st2 _ ?_
    show Steps p.tables e below (T2.setTop (mkF m 7 #[.val (.ref a)] [(.ref w_OFF_BALANCE), (.ref wk)])) _
    exact k_)
  by_cases hc7_4 : wk = w_OFF_BALANCE
  · have pre5 : ∀ t_, Steps p.tables e below (T2.setTop (mkF m 15 #[.val (.ref a)] [(.int (1 : Int32))])) t_ → Steps p.tables e below (s₁.setTop (entryFrame m #[(.ref a)] 1)) t_ := fun t_ k_ => pre3 t_ (by
      show Steps p.tables e below (T2.setTop (mkF m 7 #[.val (.ref a)] [(.ref w_OFF_BALANCE), (.ref wk)])) _
      refine Jvm.RoadKit.acmp (g := (mkF m 7 #[.val (.ref a)] [(.ref w_OFF_BALANCE), (.ref wk)])) X2 hx rfl rfl rfl (pc0 := 7) (pc' := 10) (same := true) rfl (hb hby d1_7) rfl (decide_eq_true (congrArg Value.ref hc7_4)) (by decide) (by decide) ?_
      show Steps p.tables e below (T2.setTop (mkF m 10 #[.val (.ref a)] [])) _
      refine XS.iconst X2.here hx rfl (hb hby d1_10) ?_
      show Steps p.tables e below (T2.setTop (mkF m 11 #[.val (.ref a)] [(.int (1 : Int32))])) _
      refine XS.goto X2.here hx rfl (pc0 := 11) (pc' := 15) rfl (hb hby d1_11) (by decide) (by decide) ?_
      show Steps p.tables e below (T2.setTop (mkF m 15 #[.val (.ref a)] [(.int (1 : Int32))])) _
      exact k_)
    obtain ⟨fs, hr, hrun, hended, hW, hsame⟩ := X2.leave (v := some (.int (1 : Int32))) (fun h => by rw [Bd.returns] at h; cases h)
    refine ⟨_, _, pre5 _ ?_, hrun, hended, _, _, rfl, ?_, ⟨_, rfl⟩, hW, hsame.mono (by decide) (by decide)⟩
    · show Steps p.tables e below (T2.setTop (mkF m 15 #[.val (.ref a)] [(.int (1 : Int32))])) _
      exact retN X2 hx (t := .boolean) Bd.returns (by simp) (hb hby d1_15) hr
    · show Q_1 Z a wk w_OFF_BALANCE h0 n0 _ T2.heap _
      rw [e2]
      exact ⟨by rw [if_pos hc7_4], N0, rfl⟩
  · have pre6 : ∀ t_, Steps p.tables e below (T2.setTop (mkF m 15 #[.val (.ref a)] [(.int (0 : Int32))])) t_ → Steps p.tables e below (s₁.setTop (entryFrame m #[(.ref a)] 1)) t_ := fun t_ k_ => pre3 t_ (by
      show Steps p.tables e below (T2.setTop (mkF m 7 #[.val (.ref a)] [(.ref w_OFF_BALANCE), (.ref wk)])) _
      refine Jvm.RoadKit.acmp (g := (mkF m 7 #[.val (.ref a)] [(.ref w_OFF_BALANCE), (.ref wk)])) X2 hx rfl rfl rfl (pc0 := 7) (pc' := 14) (same := false) rfl (hb hby d1_7) rfl (decide_eq_false fun q_ => hc7_4 (Value.ref.inj q_)) (by decide) (by decide) ?_
      show Steps p.tables e below (T2.setTop (mkF m 14 #[.val (.ref a)] [])) _
      refine XS.iconst X2.here hx rfl (hb hby d1_14) ?_
      show Steps p.tables e below (T2.setTop (mkF m 15 #[.val (.ref a)] [(.int (0 : Int32))])) _
      exact k_)
    obtain ⟨fs, hr, hrun, hended, hW, hsame⟩ := X2.leave (v := some (.int (0 : Int32))) (fun h => by rw [Bd.returns] at h; cases h)
    refine ⟨_, _, pre6 _ ?_, hrun, hended, _, _, rfl, ?_, ⟨_, rfl⟩, hW, hsame.mono (by decide) (by decide)⟩
    · show Steps p.tables e below (T2.setTop (mkF m 15 #[.val (.ref a)] [(.int (0 : Int32))])) _
      exact retN X2 hx (t := .boolean) Bd.returns (by simp) (hb hby d1_15) hr
    · show Q_1 Z a wk w_OFF_BALANCE h0 n0 _ T2.heap _
      rw [e2]
      exact ⟨by rw [if_neg hc7_4], N0, rfl⟩
theorem ef_0 (m : MethodId) (k0 : Int32) : entryFrame m #[(.int k0)] maxLocals = mkF m 0 #[.val (.int k0), .unset, .unset, .unset] [] := by first | (simp [entryFrame, mkF, argsToLocals, Value.category, maxLocals]; done) | rfl
def Q_0 (Z : State) (k0 : Int32) (w_LOAN : Addr) (w_DEBT_SECURITY : Addr) (w_DEPOSIT : Addr) (w_MANDATORY_RESERVE : Addr) (w_TRADE_FINANCE : Addr) (w_VENTURE_CAPITAL : Addr) (w_PRIVATE_EQUITY : Addr) (w_ALTERNATIVE_INVESTMENT_FUND : Addr) (w_SPECULATIVE_REAL_ESTATE : Addr) (w_EQUITY : Addr) (w_CIU_UNIT : Addr) (w_SECURITISATION_POSITION : Addr) (w_CASH : Addr) (w_CASH_IN_COLLECTION : Addr) (w_GOLD : Addr) (w_TANGIBLE_ASSET : Addr) (w_REPOSSESSED_ASSET : Addr) (w_UNIDENTIFIED_PREPAYMENT : Addr) (w_LEASE_RESIDUAL_VALUE : Addr) (w_GUARANTEE : Addr) (w_LETTER_OF_CREDIT : Addr) (w_UNDRAWN_COMMITMENT : Addr) (w_ACCEPTANCE : Addr) (w_NOTE_ISSUANCE_FACILITY : Addr) (w_FORWARD_PURCHASE : Addr) (w_OTHER_OFF_BALANCE : Addr) (w_ON_BALANCE : Addr) (w_OFF_BALANCE : Addr) (w_NO_COUNTERPARTY : Addr) (h0 : Heap) (n0 : Nat) (v : Option Value) (h : Heap) (L : List Loc) : Prop := v = some (.int (1 : Int32)) ∧ Fr n0 L
theorem pn_1 : plainName "com/example/ponderat/ponderat/ItemIsOffBalancePinLaw" = true := by first | (simp [plainName, overriddenIn]; done) | decide +kernel
theorem pd_0 : parseMethodDescriptor "()Z" = some ⟨[], some .boolean⟩ := by decide +kernel
set_option maxRecDepth 65536 in
set_option maxHeartbeats 40000000 in
theorem rm_0 (l : Launch) (Z : State) (a0 : Array Value) (hw : ∀ d ∈ tables_1, d.before a0 Z = true) (ws : List Jvm.Cond) (k0 : Int32) (w_LOAN : Addr) (w_DEBT_SECURITY : Addr) (w_DEPOSIT : Addr) (w_MANDATORY_RESERVE : Addr) (w_TRADE_FINANCE : Addr) (w_VENTURE_CAPITAL : Addr) (w_PRIVATE_EQUITY : Addr) (w_ALTERNATIVE_INVESTMENT_FUND : Addr) (w_SPECULATIVE_REAL_ESTATE : Addr) (w_EQUITY : Addr) (w_CIU_UNIT : Addr) (w_SECURITISATION_POSITION : Addr) (w_CASH : Addr) (w_CASH_IN_COLLECTION : Addr) (w_GOLD : Addr) (w_TANGIBLE_ASSET : Addr) (w_REPOSSESSED_ASSET : Addr) (w_UNIDENTIFIED_PREPAYMENT : Addr) (w_LEASE_RESIDUAL_VALUE : Addr) (w_GUARANTEE : Addr) (w_LETTER_OF_CREDIT : Addr) (w_UNDRAWN_COMMITMENT : Addr) (w_ACCEPTANCE : Addr) (w_NOTE_ISSUANCE_FACILITY : Addr) (w_FORWARD_PURCHASE : Addr) (w_OTHER_OFF_BALANCE : Addr) (w_ON_BALANCE : Addr) (w_OFF_BALANCE : Addr) (w_NO_COUNTERPARTY : Addr) (h0 : Heap) (n0 : Nat) (Z0 : n0 ≤ h0.size) (S_LOAN : Sta Z h0 "com/example/ponderat/ponderat/Item" "LOAN" "Lcom/example/ponderat/ponderat/Item;" (.ref w_LOAN)) (S_DEBT_SECURITY : Sta Z h0 "com/example/ponderat/ponderat/Item" "DEBT_SECURITY" "Lcom/example/ponderat/ponderat/Item;" (.ref w_DEBT_SECURITY)) (S_DEPOSIT : Sta Z h0 "com/example/ponderat/ponderat/Item" "DEPOSIT" "Lcom/example/ponderat/ponderat/Item;" (.ref w_DEPOSIT)) (S_MANDATORY_RESERVE : Sta Z h0 "com/example/ponderat/ponderat/Item" "MANDATORY_RESERVE" "Lcom/example/ponderat/ponderat/Item;" (.ref w_MANDATORY_RESERVE)) (S_TRADE_FINANCE : Sta Z h0 "com/example/ponderat/ponderat/Item" "TRADE_FINANCE" "Lcom/example/ponderat/ponderat/Item;" (.ref w_TRADE_FINANCE)) (S_VENTURE_CAPITAL : Sta Z h0 "com/example/ponderat/ponderat/Item" "VENTURE_CAPITAL" "Lcom/example/ponderat/ponderat/Item;" (.ref w_VENTURE_CAPITAL)) (S_PRIVATE_EQUITY : Sta Z h0 "com/example/ponderat/ponderat/Item" "PRIVATE_EQUITY" "Lcom/example/ponderat/ponderat/Item;" (.ref w_PRIVATE_EQUITY)) (S_ALTERNATIVE_INVESTMENT_FUND : Sta Z h0 "com/example/ponderat/ponderat/Item" "ALTERNATIVE_INVESTMENT_FUND" "Lcom/example/ponderat/ponderat/Item;" (.ref w_ALTERNATIVE_INVESTMENT_FUND)) (S_SPECULATIVE_REAL_ESTATE : Sta Z h0 "com/example/ponderat/ponderat/Item" "SPECULATIVE_REAL_ESTATE" "Lcom/example/ponderat/ponderat/Item;" (.ref w_SPECULATIVE_REAL_ESTATE)) (S_EQUITY : Sta Z h0 "com/example/ponderat/ponderat/Item" "EQUITY" "Lcom/example/ponderat/ponderat/Item;" (.ref w_EQUITY)) (S_CIU_UNIT : Sta Z h0 "com/example/ponderat/ponderat/Item" "CIU_UNIT" "Lcom/example/ponderat/ponderat/Item;" (.ref w_CIU_UNIT)) (S_SECURITISATION_POSITION : Sta Z h0 "com/example/ponderat/ponderat/Item" "SECURITISATION_POSITION" "Lcom/example/ponderat/ponderat/Item;" (.ref w_SECURITISATION_POSITION)) (S_CASH : Sta Z h0 "com/example/ponderat/ponderat/Item" "CASH" "Lcom/example/ponderat/ponderat/Item;" (.ref w_CASH)) (S_CASH_IN_COLLECTION : Sta Z h0 "com/example/ponderat/ponderat/Item" "CASH_IN_COLLECTION" "Lcom/example/ponderat/ponderat/Item;" (.ref w_CASH_IN_COLLECTION)) (S_GOLD : Sta Z h0 "com/example/ponderat/ponderat/Item" "GOLD" "Lcom/example/ponderat/ponderat/Item;" (.ref w_GOLD)) (S_TANGIBLE_ASSET : Sta Z h0 "com/example/ponderat/ponderat/Item" "TANGIBLE_ASSET" "Lcom/example/ponderat/ponderat/Item;" (.ref w_TANGIBLE_ASSET)) (S_REPOSSESSED_ASSET : Sta Z h0 "com/example/ponderat/ponderat/Item" "REPOSSESSED_ASSET" "Lcom/example/ponderat/ponderat/Item;" (.ref w_REPOSSESSED_ASSET)) (S_UNIDENTIFIED_PREPAYMENT : Sta Z h0 "com/example/ponderat/ponderat/Item" "UNIDENTIFIED_PREPAYMENT" "Lcom/example/ponderat/ponderat/Item;" (.ref w_UNIDENTIFIED_PREPAYMENT)) (S_LEASE_RESIDUAL_VALUE : Sta Z h0 "com/example/ponderat/ponderat/Item" "LEASE_RESIDUAL_VALUE" "Lcom/example/ponderat/ponderat/Item;" (.ref w_LEASE_RESIDUAL_VALUE)) (S_GUARANTEE : Sta Z h0 "com/example/ponderat/ponderat/Item" "GUARANTEE" "Lcom/example/ponderat/ponderat/Item;" (.ref w_GUARANTEE)) (S_LETTER_OF_CREDIT : Sta Z h0 "com/example/ponderat/ponderat/Item" "LETTER_OF_CREDIT" "Lcom/example/ponderat/ponderat/Item;" (.ref w_LETTER_OF_CREDIT)) (S_UNDRAWN_COMMITMENT : Sta Z h0 "com/example/ponderat/ponderat/Item" "UNDRAWN_COMMITMENT" "Lcom/example/ponderat/ponderat/Item;" (.ref w_UNDRAWN_COMMITMENT)) (S_ACCEPTANCE : Sta Z h0 "com/example/ponderat/ponderat/Item" "ACCEPTANCE" "Lcom/example/ponderat/ponderat/Item;" (.ref w_ACCEPTANCE)) (S_NOTE_ISSUANCE_FACILITY : Sta Z h0 "com/example/ponderat/ponderat/Item" "NOTE_ISSUANCE_FACILITY" "Lcom/example/ponderat/ponderat/Item;" (.ref w_NOTE_ISSUANCE_FACILITY)) (S_FORWARD_PURCHASE : Sta Z h0 "com/example/ponderat/ponderat/Item" "FORWARD_PURCHASE" "Lcom/example/ponderat/ponderat/Item;" (.ref w_FORWARD_PURCHASE)) (S_OTHER_OFF_BALANCE : Sta Z h0 "com/example/ponderat/ponderat/Item" "OTHER_OFF_BALANCE" "Lcom/example/ponderat/ponderat/Item;" (.ref w_OTHER_OFF_BALANCE)) (S_OFF_BALANCE : Sta Z h0 "com/example/ponderat/ponderat/Item$Kind" "OFF_BALANCE" "Lcom/example/ponderat/ponderat/Item$Kind;" (.ref w_OFF_BALANCE)) (E_LOAN : Exa Z h0 w_LOAN "com/example/ponderat/ponderat/Item") (E_DEBT_SECURITY : Exa Z h0 w_DEBT_SECURITY "com/example/ponderat/ponderat/Item") (E_DEPOSIT : Exa Z h0 w_DEPOSIT "com/example/ponderat/ponderat/Item") (E_MANDATORY_RESERVE : Exa Z h0 w_MANDATORY_RESERVE "com/example/ponderat/ponderat/Item") (E_TRADE_FINANCE : Exa Z h0 w_TRADE_FINANCE "com/example/ponderat/ponderat/Item") (E_VENTURE_CAPITAL : Exa Z h0 w_VENTURE_CAPITAL "com/example/ponderat/ponderat/Item") (E_PRIVATE_EQUITY : Exa Z h0 w_PRIVATE_EQUITY "com/example/ponderat/ponderat/Item") (E_ALTERNATIVE_INVESTMENT_FUND : Exa Z h0 w_ALTERNATIVE_INVESTMENT_FUND "com/example/ponderat/ponderat/Item") (E_SPECULATIVE_REAL_ESTATE : Exa Z h0 w_SPECULATIVE_REAL_ESTATE "com/example/ponderat/ponderat/Item") (E_EQUITY : Exa Z h0 w_EQUITY "com/example/ponderat/ponderat/Item") (E_CIU_UNIT : Exa Z h0 w_CIU_UNIT "com/example/ponderat/ponderat/Item") (E_SECURITISATION_POSITION : Exa Z h0 w_SECURITISATION_POSITION "com/example/ponderat/ponderat/Item") (E_CASH : Exa Z h0 w_CASH "com/example/ponderat/ponderat/Item") (E_CASH_IN_COLLECTION : Exa Z h0 w_CASH_IN_COLLECTION "com/example/ponderat/ponderat/Item") (E_GOLD : Exa Z h0 w_GOLD "com/example/ponderat/ponderat/Item") (E_TANGIBLE_ASSET : Exa Z h0 w_TANGIBLE_ASSET "com/example/ponderat/ponderat/Item") (E_REPOSSESSED_ASSET : Exa Z h0 w_REPOSSESSED_ASSET "com/example/ponderat/ponderat/Item") (E_UNIDENTIFIED_PREPAYMENT : Exa Z h0 w_UNIDENTIFIED_PREPAYMENT "com/example/ponderat/ponderat/Item") (E_LEASE_RESIDUAL_VALUE : Exa Z h0 w_LEASE_RESIDUAL_VALUE "com/example/ponderat/ponderat/Item") (E_GUARANTEE : Exa Z h0 w_GUARANTEE "com/example/ponderat/ponderat/Item") (E_LETTER_OF_CREDIT : Exa Z h0 w_LETTER_OF_CREDIT "com/example/ponderat/ponderat/Item") (E_UNDRAWN_COMMITMENT : Exa Z h0 w_UNDRAWN_COMMITMENT "com/example/ponderat/ponderat/Item") (E_ACCEPTANCE : Exa Z h0 w_ACCEPTANCE "com/example/ponderat/ponderat/Item") (E_NOTE_ISSUANCE_FACILITY : Exa Z h0 w_NOTE_ISSUANCE_FACILITY "com/example/ponderat/ponderat/Item") (E_FORWARD_PURCHASE : Exa Z h0 w_FORWARD_PURCHASE "com/example/ponderat/ponderat/Item") (E_OTHER_OFF_BALANCE : Exa Z h0 w_OTHER_OFF_BALANCE "com/example/ponderat/ponderat/Item") (F_LOAN_kind : Fld Z h0 w_LOAN "com/example/ponderat/ponderat/Item" "kind" "Lcom/example/ponderat/ponderat/Item$Kind;" (.ref w_ON_BALANCE)) (F_DEBT_SECURITY_kind : Fld Z h0 w_DEBT_SECURITY "com/example/ponderat/ponderat/Item" "kind" "Lcom/example/ponderat/ponderat/Item$Kind;" (.ref w_ON_BALANCE)) (F_DEPOSIT_kind : Fld Z h0 w_DEPOSIT "com/example/ponderat/ponderat/Item" "kind" "Lcom/example/ponderat/ponderat/Item$Kind;" (.ref w_ON_BALANCE)) (F_MANDATORY_RESERVE_kind : Fld Z h0 w_MANDATORY_RESERVE "com/example/ponderat/ponderat/Item" "kind" "Lcom/example/ponderat/ponderat/Item$Kind;" (.ref w_ON_BALANCE)) (F_TRADE_FINANCE_kind : Fld Z h0 w_TRADE_FINANCE "com/example/ponderat/ponderat/Item" "kind" "Lcom/example/ponderat/ponderat/Item$Kind;" (.ref w_ON_BALANCE)) (F_VENTURE_CAPITAL_kind : Fld Z h0 w_VENTURE_CAPITAL "com/example/ponderat/ponderat/Item" "kind" "Lcom/example/ponderat/ponderat/Item$Kind;" (.ref w_ON_BALANCE)) (F_PRIVATE_EQUITY_kind : Fld Z h0 w_PRIVATE_EQUITY "com/example/ponderat/ponderat/Item" "kind" "Lcom/example/ponderat/ponderat/Item$Kind;" (.ref w_ON_BALANCE)) (F_ALTERNATIVE_INVESTMENT_FUND_kind : Fld Z h0 w_ALTERNATIVE_INVESTMENT_FUND "com/example/ponderat/ponderat/Item" "kind" "Lcom/example/ponderat/ponderat/Item$Kind;" (.ref w_ON_BALANCE)) (F_SPECULATIVE_REAL_ESTATE_kind : Fld Z h0 w_SPECULATIVE_REAL_ESTATE "com/example/ponderat/ponderat/Item" "kind" "Lcom/example/ponderat/ponderat/Item$Kind;" (.ref w_ON_BALANCE)) (F_EQUITY_kind : Fld Z h0 w_EQUITY "com/example/ponderat/ponderat/Item" "kind" "Lcom/example/ponderat/ponderat/Item$Kind;" (.ref w_ON_BALANCE)) (F_CIU_UNIT_kind : Fld Z h0 w_CIU_UNIT "com/example/ponderat/ponderat/Item" "kind" "Lcom/example/ponderat/ponderat/Item$Kind;" (.ref w_ON_BALANCE)) (F_SECURITISATION_POSITION_kind : Fld Z h0 w_SECURITISATION_POSITION "com/example/ponderat/ponderat/Item" "kind" "Lcom/example/ponderat/ponderat/Item$Kind;" (.ref w_ON_BALANCE)) (F_CASH_kind : Fld Z h0 w_CASH "com/example/ponderat/ponderat/Item" "kind" "Lcom/example/ponderat/ponderat/Item$Kind;" (.ref w_NO_COUNTERPARTY)) (F_CASH_IN_COLLECTION_kind : Fld Z h0 w_CASH_IN_COLLECTION "com/example/ponderat/ponderat/Item" "kind" "Lcom/example/ponderat/ponderat/Item$Kind;" (.ref w_NO_COUNTERPARTY)) (F_GOLD_kind : Fld Z h0 w_GOLD "com/example/ponderat/ponderat/Item" "kind" "Lcom/example/ponderat/ponderat/Item$Kind;" (.ref w_NO_COUNTERPARTY)) (F_TANGIBLE_ASSET_kind : Fld Z h0 w_TANGIBLE_ASSET "com/example/ponderat/ponderat/Item" "kind" "Lcom/example/ponderat/ponderat/Item$Kind;" (.ref w_NO_COUNTERPARTY)) (F_REPOSSESSED_ASSET_kind : Fld Z h0 w_REPOSSESSED_ASSET "com/example/ponderat/ponderat/Item" "kind" "Lcom/example/ponderat/ponderat/Item$Kind;" (.ref w_NO_COUNTERPARTY)) (F_UNIDENTIFIED_PREPAYMENT_kind : Fld Z h0 w_UNIDENTIFIED_PREPAYMENT "com/example/ponderat/ponderat/Item" "kind" "Lcom/example/ponderat/ponderat/Item$Kind;" (.ref w_NO_COUNTERPARTY)) (F_LEASE_RESIDUAL_VALUE_kind : Fld Z h0 w_LEASE_RESIDUAL_VALUE "com/example/ponderat/ponderat/Item" "kind" "Lcom/example/ponderat/ponderat/Item$Kind;" (.ref w_NO_COUNTERPARTY)) (F_GUARANTEE_kind : Fld Z h0 w_GUARANTEE "com/example/ponderat/ponderat/Item" "kind" "Lcom/example/ponderat/ponderat/Item$Kind;" (.ref w_OFF_BALANCE)) (F_LETTER_OF_CREDIT_kind : Fld Z h0 w_LETTER_OF_CREDIT "com/example/ponderat/ponderat/Item" "kind" "Lcom/example/ponderat/ponderat/Item$Kind;" (.ref w_OFF_BALANCE)) (F_UNDRAWN_COMMITMENT_kind : Fld Z h0 w_UNDRAWN_COMMITMENT "com/example/ponderat/ponderat/Item" "kind" "Lcom/example/ponderat/ponderat/Item$Kind;" (.ref w_OFF_BALANCE)) (F_ACCEPTANCE_kind : Fld Z h0 w_ACCEPTANCE "com/example/ponderat/ponderat/Item" "kind" "Lcom/example/ponderat/ponderat/Item$Kind;" (.ref w_OFF_BALANCE)) (F_NOTE_ISSUANCE_FACILITY_kind : Fld Z h0 w_NOTE_ISSUANCE_FACILITY "com/example/ponderat/ponderat/Item" "kind" "Lcom/example/ponderat/ponderat/Item$Kind;" (.ref w_OFF_BALANCE)) (F_FORWARD_PURCHASE_kind : Fld Z h0 w_FORWARD_PURCHASE "com/example/ponderat/ponderat/Item" "kind" "Lcom/example/ponderat/ponderat/Item$Kind;" (.ref w_OFF_BALANCE)) (F_OTHER_OFF_BALANCE_kind : Fld Z h0 w_OTHER_OFF_BALANCE "com/example/ponderat/ponderat/Item" "kind" "Lcom/example/ponderat/ponderat/Item$Kind;" (.ref w_OFF_BALANCE)) (n_ON_BALANCE : w_ON_BALANCE ≠ w_OFF_BALANCE) (n_NO_COUNTERPARTY : w_NO_COUNTERPARTY ≠ w_OFF_BALANCE) :
    MetFree l x (head1 (Jvm.Cond.code x code maxLocals ret :: ws) room_1) (fun a_ U_ => a_ = #[(.int k0)] ∧ Z.Warmed39 U_.vm ∧ U_.heap = h0) (fun _ _ _ _ _ => True) (fun _ U_ o_ V_ => ∃ v_ L_, o_ = .returned v_ ∧ Q_0 Z k0 w_LOAN w_DEBT_SECURITY w_DEPOSIT w_MANDATORY_RESERVE w_TRADE_FINANCE w_VENTURE_CAPITAL w_PRIVATE_EQUITY w_ALTERNATIVE_INVESTMENT_FUND w_SPECULATIVE_REAL_ESTATE w_EQUITY w_CIU_UNIT w_SECURITISATION_POSITION w_CASH w_CASH_IN_COLLECTION w_GOLD w_TANGIBLE_ASSET w_REPOSSESSED_ASSET w_UNIDENTIFIED_PREPAYMENT w_LEASE_RESIDUAL_VALUE w_GUARANTEE w_LETTER_OF_CREDIT w_UNDRAWN_COMMITMENT w_ACCEPTANCE w_NOTE_ISSUANCE_FACILITY w_FORWARD_PURCHASE w_OTHER_OFF_BALANCE w_ON_BALANCE w_OFF_BALANCE w_NO_COUNTERPARTY h0 n0 v_ V_.heap L_ ∧ FrameEnd U_ o_ V_ L_ room_1.cells room_1.slots) := by
  refine MetFree.of_bodySF (plainFor_of_name pn_1) hisR ?_
  intro p e s m args below meth c s₁ Bd hml0 hP hK
  obtain ⟨rfl, hZ, hh⟩ := hP
  have hx := Bd.exec
  have hby := Bd.bytes
  have hml : c.maxLocals = 4 := hml0
  have hown : s.vm.findClass "com/example/ponderat/ponderat/ItemIsOffBalancePinLaw" = some m.cls := findClass_of_methodNamed Bd.named
  have hnm := (name_of_methodNamed Bd.named Bd.method).1
  have X0 : Stand p l e room_1 s m #[(.int k0)] below meth c s₁ [] 0 0 := Stand.of_body Bd
  have e0 : s₁.heap = h0 := by rw [← hh, Bd.state]; rfl
  have N0 := Fr.nil n0
  have pre0 : ∀ t_, Steps p.tables e below (s₁.setTop (mkF m 0 #[.val (.int k0), .unset, .unset, .unset] [])) t_ → Steps p.tables e below (s₁.setTop (entryFrame m #[(.int k0)] maxLocals)) t_ := fun t_ k_ => castTop (ef_0 m k0) k_
  obtain ⟨T7, h7, k7, X7, e7, E7, A7, O7, st7⟩ := newR X0 hx hZ hown (hw _ (List.mem_of_getElem? (i := 0) rfl)) (hw _ (List.mem_of_getElem? (i := 1) rfl)) e0 (g := (mkF m 2 #[.val (.int k0), .unset, .unset, .unset] [(.int (26 : Int32))])) rfl (hb hby at_2) rfl (by decide) (cap := 26) (by decide) (by decide) (by decide) (by decide)
  obtain ⟨b7, g7⟩ : ∃ z, z = h0.size := ⟨_, rfl⟩
  rw [← g7] at A7 st7
  have V7 : Arv Z h7 b7 k7 (.object "com/example/ponderat/ponderat/Item") (26 : Int32) [.null, .null, .null, .null, .null, .null, .null, .null, .null, .null, .null, .null, .null, .null, .null, .null, .null, .null, .null, .null, .null, .null, .null, .null, .null, .null] .null := (Arv.new A7 (by decide)).pad (pad_rep [] .null 26)
  have sz_b7 : h0.size ≤ b7 := Nat.le_of_eq g7.symm
  have gg_b7 : n0 ≤ b7 := Nat.le_trans Z0 sz_b7
  obtain ⟨T8, X8, e8, st8⟩ := getS2 X7 hx hZ hown (host := "") (Or.inl (hw _ (List.mem_of_getElem? (i := 2) rfl))) Via.refl e7 (S_LOAN.ext E7) (g := (mkF m 7 #[.val (.int k0), .unset, .unset, .unset] [(.int (0 : Int32)), (.ref b7), (.ref b7)])) rfl (hb hby at_7)
  obtain ⟨T9, h9, X9, e9, O9, W9, st9⟩ := own_stR X8 hx hZ e8 E7 V7 O7 (Ins.self E_LOAN) sz_b7 (j := (0 : Int32)) (i := 0) ⟨by decide, by decide⟩ (by decide) (Nat.le_of_ble_eq_true rfl) (g := (mkF m 10 #[.val (.int k0), .unset, .unset, .unset] [(.ref w_LOAN), (.int (0 : Int32)), (.ref b7), (.ref b7)])) rfl rfl (hb hby at_10)
  have V9 : Arv Z h9 b7 k7 (.object "com/example/ponderat/ponderat/Item") (26 : Int32) [(.ref w_LOAN), .null, .null, .null, .null, .null, .null, .null, .null, .null, .null, .null, .null, .null, .null, .null, .null, .null, .null, .null, .null, .null, .null, .null, .null, .null] .null := W9
  have N9 := Fr.snoc X9 N0 gg_b7
  obtain ⟨T10, X10, e10, st10⟩ := getS2 X9 hx hZ hown (host := "") (Or.inl (hw _ (List.mem_of_getElem? (i := 6) rfl))) Via.refl e9 (S_DEBT_SECURITY.ext O9) (g := (mkF m 13 #[.val (.int k0), .unset, .unset, .unset] [(.int (1 : Int32)), (.ref b7), (.ref b7)])) rfl (hb hby at_13)
  obtain ⟨T11, h11, X11, e11, O11, W11, st11⟩ := own_stR X10 hx hZ e10 O9 V9 O7 (Ins.self E_DEBT_SECURITY) sz_b7 (j := (1 : Int32)) (i := 1) ⟨by decide, by decide⟩ (by decide) (Nat.le_of_ble_eq_true rfl) (g := (mkF m 16 #[.val (.int k0), .unset, .unset, .unset] [(.ref w_DEBT_SECURITY), (.int (1 : Int32)), (.ref b7), (.ref b7)])) rfl rfl (hb hby at_16)
  have V11 : Arv Z h11 b7 k7 (.object "com/example/ponderat/ponderat/Item") (26 : Int32) [(.ref w_LOAN), (.ref w_DEBT_SECURITY), .null, .null, .null, .null, .null, .null, .null, .null, .null, .null, .null, .null, .null, .null, .null, .null, .null, .null, .null, .null, .null, .null, .null, .null] .null := W11
  have N11 := Fr.snoc X11 N9 gg_b7
  obtain ⟨T12, X12, e12, st12⟩ := getS2 X11 hx hZ hown (host := "") (Or.inl (hw _ (List.mem_of_getElem? (i := 8) rfl))) Via.refl e11 (S_DEPOSIT.ext O11) (g := (mkF m 19 #[.val (.int k0), .unset, .unset, .unset] [(.int (2 : Int32)), (.ref b7), (.ref b7)])) rfl (hb hby at_19)
  obtain ⟨T13, h13, X13, e13, O13, W13, st13⟩ := own_stR X12 hx hZ e12 O11 V11 O7 (Ins.self E_DEPOSIT) sz_b7 (j := (2 : Int32)) (i := 2) ⟨by decide, by decide⟩ (by decide) (Nat.le_of_ble_eq_true rfl) (g := (mkF m 22 #[.val (.int k0), .unset, .unset, .unset] [(.ref w_DEPOSIT), (.int (2 : Int32)), (.ref b7), (.ref b7)])) rfl rfl (hb hby at_22)
  have V13 : Arv Z h13 b7 k7 (.object "com/example/ponderat/ponderat/Item") (26 : Int32) [(.ref w_LOAN), (.ref w_DEBT_SECURITY), (.ref w_DEPOSIT), .null, .null, .null, .null, .null, .null, .null, .null, .null, .null, .null, .null, .null, .null, .null, .null, .null, .null, .null, .null, .null, .null, .null] .null := W13
  have N13 := Fr.snoc X13 N11 gg_b7
  obtain ⟨T14, X14, e14, st14⟩ := getS2 X13 hx hZ hown (host := "") (Or.inl (hw _ (List.mem_of_getElem? (i := 10) rfl))) Via.refl e13 (S_MANDATORY_RESERVE.ext O13) (g := (mkF m 25 #[.val (.int k0), .unset, .unset, .unset] [(.int (3 : Int32)), (.ref b7), (.ref b7)])) rfl (hb hby at_25)
  obtain ⟨T15, h15, X15, e15, O15, W15, st15⟩ := own_stR X14 hx hZ e14 O13 V13 O7 (Ins.self E_MANDATORY_RESERVE) sz_b7 (j := (3 : Int32)) (i := 3) ⟨by decide, by decide⟩ (by decide) (Nat.le_of_ble_eq_true rfl) (g := (mkF m 28 #[.val (.int k0), .unset, .unset, .unset] [(.ref w_MANDATORY_RESERVE), (.int (3 : Int32)), (.ref b7), (.ref b7)])) rfl rfl (hb hby at_28)
  have V15 : Arv Z h15 b7 k7 (.object "com/example/ponderat/ponderat/Item") (26 : Int32) [(.ref w_LOAN), (.ref w_DEBT_SECURITY), (.ref w_DEPOSIT), (.ref w_MANDATORY_RESERVE), .null, .null, .null, .null, .null, .null, .null, .null, .null, .null, .null, .null, .null, .null, .null, .null, .null, .null, .null, .null, .null, .null] .null := W15
  have N15 := Fr.snoc X15 N13 gg_b7
  obtain ⟨T16, X16, e16, st16⟩ := getS2 X15 hx hZ hown (host := "") (Or.inl (hw _ (List.mem_of_getElem? (i := 12) rfl))) Via.refl e15 (S_TRADE_FINANCE.ext O15) (g := (mkF m 31 #[.val (.int k0), .unset, .unset, .unset] [(.int (4 : Int32)), (.ref b7), (.ref b7)])) rfl (hb hby at_31)
  obtain ⟨T17, h17, X17, e17, O17, W17, st17⟩ := own_stR X16 hx hZ e16 O15 V15 O7 (Ins.self E_TRADE_FINANCE) sz_b7 (j := (4 : Int32)) (i := 4) ⟨by decide, by decide⟩ (by decide) (Nat.le_of_ble_eq_true rfl) (g := (mkF m 34 #[.val (.int k0), .unset, .unset, .unset] [(.ref w_TRADE_FINANCE), (.int (4 : Int32)), (.ref b7), (.ref b7)])) rfl rfl (hb hby at_34)
  have V17 : Arv Z h17 b7 k7 (.object "com/example/ponderat/ponderat/Item") (26 : Int32) [(.ref w_LOAN), (.ref w_DEBT_SECURITY), (.ref w_DEPOSIT), (.ref w_MANDATORY_RESERVE), (.ref w_TRADE_FINANCE), .null, .null, .null, .null, .null, .null, .null, .null, .null, .null, .null, .null, .null, .null, .null, .null, .null, .null, .null, .null, .null] .null := W17
  have N17 := Fr.snoc X17 N15 gg_b7
  obtain ⟨T18, X18, e18, st18⟩ := getS2 X17 hx hZ hown (host := "") (Or.inl (hw _ (List.mem_of_getElem? (i := 14) rfl))) Via.refl e17 (S_VENTURE_CAPITAL.ext O17) (g := (mkF m 37 #[.val (.int k0), .unset, .unset, .unset] [(.int (5 : Int32)), (.ref b7), (.ref b7)])) rfl (hb hby at_37)
  obtain ⟨T19, h19, X19, e19, O19, W19, st19⟩ := own_stR X18 hx hZ e18 O17 V17 O7 (Ins.self E_VENTURE_CAPITAL) sz_b7 (j := (5 : Int32)) (i := 5) ⟨by decide, by decide⟩ (by decide) (Nat.le_of_ble_eq_true rfl) (g := (mkF m 40 #[.val (.int k0), .unset, .unset, .unset] [(.ref w_VENTURE_CAPITAL), (.int (5 : Int32)), (.ref b7), (.ref b7)])) rfl rfl (hb hby at_40)
  have V19 : Arv Z h19 b7 k7 (.object "com/example/ponderat/ponderat/Item") (26 : Int32) [(.ref w_LOAN), (.ref w_DEBT_SECURITY), (.ref w_DEPOSIT), (.ref w_MANDATORY_RESERVE), (.ref w_TRADE_FINANCE), (.ref w_VENTURE_CAPITAL), .null, .null, .null, .null, .null, .null, .null, .null, .null, .null, .null, .null, .null, .null, .null, .null, .null, .null, .null, .null] .null := W19
  have N19 := Fr.snoc X19 N17 gg_b7
  obtain ⟨T20, X20, e20, st20⟩ := getS2 X19 hx hZ hown (host := "") (Or.inl (hw _ (List.mem_of_getElem? (i := 16) rfl))) Via.refl e19 (S_PRIVATE_EQUITY.ext O19) (g := (mkF m 44 #[.val (.int k0), .unset, .unset, .unset] [(.int (6 : Int32)), (.ref b7), (.ref b7)])) rfl (hb hby at_44)
  obtain ⟨T21, h21, X21, e21, O21, W21, st21⟩ := own_stR X20 hx hZ e20 O19 V19 O7 (Ins.self E_PRIVATE_EQUITY) sz_b7 (j := (6 : Int32)) (i := 6) ⟨by decide, by decide⟩ (by decide) (Nat.le_of_ble_eq_true rfl) (g := (mkF m 47 #[.val (.int k0), .unset, .unset, .unset] [(.ref w_PRIVATE_EQUITY), (.int (6 : Int32)), (.ref b7), (.ref b7)])) rfl rfl (hb hby at_47)
  have V21 : Arv Z h21 b7 k7 (.object "com/example/ponderat/ponderat/Item") (26 : Int32) [(.ref w_LOAN), (.ref w_DEBT_SECURITY), (.ref w_DEPOSIT), (.ref w_MANDATORY_RESERVE), (.ref w_TRADE_FINANCE), (.ref w_VENTURE_CAPITAL), (.ref w_PRIVATE_EQUITY), .null, .null, .null, .null, .null, .null, .null, .null, .null, .null, .null, .null, .null, .null, .null, .null, .null, .null, .null] .null := W21
  have N21 := Fr.snoc X21 N19 gg_b7
  obtain ⟨T22, X22, e22, st22⟩ := getS2 X21 hx hZ hown (host := "") (Or.inl (hw _ (List.mem_of_getElem? (i := 18) rfl))) Via.refl e21 (S_ALTERNATIVE_INVESTMENT_FUND.ext O21) (g := (mkF m 51 #[.val (.int k0), .unset, .unset, .unset] [(.int (7 : Int32)), (.ref b7), (.ref b7)])) rfl (hb hby at_51)
  obtain ⟨T23, h23, X23, e23, O23, W23, st23⟩ := own_stR X22 hx hZ e22 O21 V21 O7 (Ins.self E_ALTERNATIVE_INVESTMENT_FUND) sz_b7 (j := (7 : Int32)) (i := 7) ⟨by decide, by decide⟩ (by decide) (Nat.le_of_ble_eq_true rfl) (g := (mkF m 54 #[.val (.int k0), .unset, .unset, .unset] [(.ref w_ALTERNATIVE_INVESTMENT_FUND), (.int (7 : Int32)), (.ref b7), (.ref b7)])) rfl rfl (hb hby at_54)
  have V23 : Arv Z h23 b7 k7 (.object "com/example/ponderat/ponderat/Item") (26 : Int32) [(.ref w_LOAN), (.ref w_DEBT_SECURITY), (.ref w_DEPOSIT), (.ref w_MANDATORY_RESERVE), (.ref w_TRADE_FINANCE), (.ref w_VENTURE_CAPITAL), (.ref w_PRIVATE_EQUITY), (.ref w_ALTERNATIVE_INVESTMENT_FUND), .null, .null, .null, .null, .null, .null, .null, .null, .null, .null, .null, .null, .null, .null, .null, .null, .null, .null] .null := W23
  have N23 := Fr.snoc X23 N21 gg_b7
  obtain ⟨T24, X24, e24, st24⟩ := getS2 X23 hx hZ hown (host := "") (Or.inl (hw _ (List.mem_of_getElem? (i := 20) rfl))) Via.refl e23 (S_SPECULATIVE_REAL_ESTATE.ext O23) (g := (mkF m 58 #[.val (.int k0), .unset, .unset, .unset] [(.int (8 : Int32)), (.ref b7), (.ref b7)])) rfl (hb hby at_58)
  obtain ⟨T25, h25, X25, e25, O25, W25, st25⟩ := own_stR X24 hx hZ e24 O23 V23 O7 (Ins.self E_SPECULATIVE_REAL_ESTATE) sz_b7 (j := (8 : Int32)) (i := 8) ⟨by decide, by decide⟩ (by decide) (Nat.le_of_ble_eq_true rfl) (g := (mkF m 61 #[.val (.int k0), .unset, .unset, .unset] [(.ref w_SPECULATIVE_REAL_ESTATE), (.int (8 : Int32)), (.ref b7), (.ref b7)])) rfl rfl (hb hby at_61)
  have V25 : Arv Z h25 b7 k7 (.object "com/example/ponderat/ponderat/Item") (26 : Int32) [(.ref w_LOAN), (.ref w_DEBT_SECURITY), (.ref w_DEPOSIT), (.ref w_MANDATORY_RESERVE), (.ref w_TRADE_FINANCE), (.ref w_VENTURE_CAPITAL), (.ref w_PRIVATE_EQUITY), (.ref w_ALTERNATIVE_INVESTMENT_FUND), (.ref w_SPECULATIVE_REAL_ESTATE), .null, .null, .null, .null, .null, .null, .null, .null, .null, .null, .null, .null, .null, .null, .null, .null, .null] .null := W25
  have N25 := Fr.snoc X25 N23 gg_b7
  obtain ⟨T26, X26, e26, st26⟩ := getS2 X25 hx hZ hown (host := "") (Or.inl (hw _ (List.mem_of_getElem? (i := 22) rfl))) Via.refl e25 (S_EQUITY.ext O25) (g := (mkF m 65 #[.val (.int k0), .unset, .unset, .unset] [(.int (9 : Int32)), (.ref b7), (.ref b7)])) rfl (hb hby at_65)
  obtain ⟨T27, h27, X27, e27, O27, W27, st27⟩ := own_stR X26 hx hZ e26 O25 V25 O7 (Ins.self E_EQUITY) sz_b7 (j := (9 : Int32)) (i := 9) ⟨by decide, by decide⟩ (by decide) (Nat.le_of_ble_eq_true rfl) (g := (mkF m 68 #[.val (.int k0), .unset, .unset, .unset] [(.ref w_EQUITY), (.int (9 : Int32)), (.ref b7), (.ref b7)])) rfl rfl (hb hby at_68)
  have V27 : Arv Z h27 b7 k7 (.object "com/example/ponderat/ponderat/Item") (26 : Int32) [(.ref w_LOAN), (.ref w_DEBT_SECURITY), (.ref w_DEPOSIT), (.ref w_MANDATORY_RESERVE), (.ref w_TRADE_FINANCE), (.ref w_VENTURE_CAPITAL), (.ref w_PRIVATE_EQUITY), (.ref w_ALTERNATIVE_INVESTMENT_FUND), (.ref w_SPECULATIVE_REAL_ESTATE), (.ref w_EQUITY), .null, .null, .null, .null, .null, .null, .null, .null, .null, .null, .null, .null, .null, .null, .null, .null] .null := W27
  have N27 := Fr.snoc X27 N25 gg_b7
  obtain ⟨T28, X28, e28, st28⟩ := getS2 X27 hx hZ hown (host := "") (Or.inl (hw _ (List.mem_of_getElem? (i := 24) rfl))) Via.refl e27 (S_CIU_UNIT.ext O27) (g := (mkF m 72 #[.val (.int k0), .unset, .unset, .unset] [(.int (10 : Int32)), (.ref b7), (.ref b7)])) rfl (hb hby at_72)
  obtain ⟨T29, h29, X29, e29, O29, W29, st29⟩ := own_stR X28 hx hZ e28 O27 V27 O7 (Ins.self E_CIU_UNIT) sz_b7 (j := (10 : Int32)) (i := 10) ⟨by decide, by decide⟩ (by decide) (Nat.le_of_ble_eq_true rfl) (g := (mkF m 75 #[.val (.int k0), .unset, .unset, .unset] [(.ref w_CIU_UNIT), (.int (10 : Int32)), (.ref b7), (.ref b7)])) rfl rfl (hb hby at_75)
  have V29 : Arv Z h29 b7 k7 (.object "com/example/ponderat/ponderat/Item") (26 : Int32) [(.ref w_LOAN), (.ref w_DEBT_SECURITY), (.ref w_DEPOSIT), (.ref w_MANDATORY_RESERVE), (.ref w_TRADE_FINANCE), (.ref w_VENTURE_CAPITAL), (.ref w_PRIVATE_EQUITY), (.ref w_ALTERNATIVE_INVESTMENT_FUND), (.ref w_SPECULATIVE_REAL_ESTATE), (.ref w_EQUITY), (.ref w_CIU_UNIT), .null, .null, .null, .null, .null, .null, .null, .null, .null, .null, .null, .null, .null, .null, .null] .null := W29
  have N29 := Fr.snoc X29 N27 gg_b7
  obtain ⟨T30, X30, e30, st30⟩ := getS2 X29 hx hZ hown (host := "") (Or.inl (hw _ (List.mem_of_getElem? (i := 26) rfl))) Via.refl e29 (S_SECURITISATION_POSITION.ext O29) (g := (mkF m 79 #[.val (.int k0), .unset, .unset, .unset] [(.int (11 : Int32)), (.ref b7), (.ref b7)])) rfl (hb hby at_79)
  obtain ⟨T31, h31, X31, e31, O31, W31, st31⟩ := own_stR X30 hx hZ e30 O29 V29 O7 (Ins.self E_SECURITISATION_POSITION) sz_b7 (j := (11 : Int32)) (i := 11) ⟨by decide, by decide⟩ (by decide) (Nat.le_of_ble_eq_true rfl) (g := (mkF m 82 #[.val (.int k0), .unset, .unset, .unset] [(.ref w_SECURITISATION_POSITION), (.int (11 : Int32)), (.ref b7), (.ref b7)])) rfl rfl (hb hby at_82)
  have V31 : Arv Z h31 b7 k7 (.object "com/example/ponderat/ponderat/Item") (26 : Int32) [(.ref w_LOAN), (.ref w_DEBT_SECURITY), (.ref w_DEPOSIT), (.ref w_MANDATORY_RESERVE), (.ref w_TRADE_FINANCE), (.ref w_VENTURE_CAPITAL), (.ref w_PRIVATE_EQUITY), (.ref w_ALTERNATIVE_INVESTMENT_FUND), (.ref w_SPECULATIVE_REAL_ESTATE), (.ref w_EQUITY), (.ref w_CIU_UNIT), (.ref w_SECURITISATION_POSITION), .null, .null, .null, .null, .null, .null, .null, .null, .null, .null, .null, .null, .null, .null] .null := W31
  have N31 := Fr.snoc X31 N29 gg_b7
  obtain ⟨T32, X32, e32, st32⟩ := getS2 X31 hx hZ hown (host := "") (Or.inl (hw _ (List.mem_of_getElem? (i := 28) rfl))) Via.refl e31 (S_CASH.ext O31) (g := (mkF m 86 #[.val (.int k0), .unset, .unset, .unset] [(.int (12 : Int32)), (.ref b7), (.ref b7)])) rfl (hb hby at_86)
  obtain ⟨T33, h33, X33, e33, O33, W33, st33⟩ := own_stR X32 hx hZ e32 O31 V31 O7 (Ins.self E_CASH) sz_b7 (j := (12 : Int32)) (i := 12) ⟨by decide, by decide⟩ (by decide) (Nat.le_of_ble_eq_true rfl) (g := (mkF m 89 #[.val (.int k0), .unset, .unset, .unset] [(.ref w_CASH), (.int (12 : Int32)), (.ref b7), (.ref b7)])) rfl rfl (hb hby at_89)
  have V33 : Arv Z h33 b7 k7 (.object "com/example/ponderat/ponderat/Item") (26 : Int32) [(.ref w_LOAN), (.ref w_DEBT_SECURITY), (.ref w_DEPOSIT), (.ref w_MANDATORY_RESERVE), (.ref w_TRADE_FINANCE), (.ref w_VENTURE_CAPITAL), (.ref w_PRIVATE_EQUITY), (.ref w_ALTERNATIVE_INVESTMENT_FUND), (.ref w_SPECULATIVE_REAL_ESTATE), (.ref w_EQUITY), (.ref w_CIU_UNIT), (.ref w_SECURITISATION_POSITION), (.ref w_CASH), .null, .null, .null, .null, .null, .null, .null, .null, .null, .null, .null, .null, .null] .null := W33
  have N33 := Fr.snoc X33 N31 gg_b7
  obtain ⟨T34, X34, e34, st34⟩ := getS2 X33 hx hZ hown (host := "") (Or.inl (hw _ (List.mem_of_getElem? (i := 30) rfl))) Via.refl e33 (S_CASH_IN_COLLECTION.ext O33) (g := (mkF m 93 #[.val (.int k0), .unset, .unset, .unset] [(.int (13 : Int32)), (.ref b7), (.ref b7)])) rfl (hb hby at_93)
  obtain ⟨T35, h35, X35, e35, O35, W35, st35⟩ := own_stR X34 hx hZ e34 O33 V33 O7 (Ins.self E_CASH_IN_COLLECTION) sz_b7 (j := (13 : Int32)) (i := 13) ⟨by decide, by decide⟩ (by decide) (Nat.le_of_ble_eq_true rfl) (g := (mkF m 96 #[.val (.int k0), .unset, .unset, .unset] [(.ref w_CASH_IN_COLLECTION), (.int (13 : Int32)), (.ref b7), (.ref b7)])) rfl rfl (hb hby at_96)
  have V35 : Arv Z h35 b7 k7 (.object "com/example/ponderat/ponderat/Item") (26 : Int32) [(.ref w_LOAN), (.ref w_DEBT_SECURITY), (.ref w_DEPOSIT), (.ref w_MANDATORY_RESERVE), (.ref w_TRADE_FINANCE), (.ref w_VENTURE_CAPITAL), (.ref w_PRIVATE_EQUITY), (.ref w_ALTERNATIVE_INVESTMENT_FUND), (.ref w_SPECULATIVE_REAL_ESTATE), (.ref w_EQUITY), (.ref w_CIU_UNIT), (.ref w_SECURITISATION_POSITION), (.ref w_CASH), (.ref w_CASH_IN_COLLECTION), .null, .null, .null, .null, .null, .null, .null, .null, .null, .null, .null, .null] .null := W35
  have N35 := Fr.snoc X35 N33 gg_b7
  obtain ⟨T36, X36, e36, st36⟩ := getS2 X35 hx hZ hown (host := "") (Or.inl (hw _ (List.mem_of_getElem? (i := 32) rfl))) Via.refl e35 (S_GOLD.ext O35) (g := (mkF m 100 #[.val (.int k0), .unset, .unset, .unset] [(.int (14 : Int32)), (.ref b7), (.ref b7)])) rfl (hb hby at_100)
  obtain ⟨T37, h37, X37, e37, O37, W37, st37⟩ := own_stR X36 hx hZ e36 O35 V35 O7 (Ins.self E_GOLD) sz_b7 (j := (14 : Int32)) (i := 14) ⟨by decide, by decide⟩ (by decide) (Nat.le_of_ble_eq_true rfl) (g := (mkF m 103 #[.val (.int k0), .unset, .unset, .unset] [(.ref w_GOLD), (.int (14 : Int32)), (.ref b7), (.ref b7)])) rfl rfl (hb hby at_103)
  have V37 : Arv Z h37 b7 k7 (.object "com/example/ponderat/ponderat/Item") (26 : Int32) [(.ref w_LOAN), (.ref w_DEBT_SECURITY), (.ref w_DEPOSIT), (.ref w_MANDATORY_RESERVE), (.ref w_TRADE_FINANCE), (.ref w_VENTURE_CAPITAL), (.ref w_PRIVATE_EQUITY), (.ref w_ALTERNATIVE_INVESTMENT_FUND), (.ref w_SPECULATIVE_REAL_ESTATE), (.ref w_EQUITY), (.ref w_CIU_UNIT), (.ref w_SECURITISATION_POSITION), (.ref w_CASH), (.ref w_CASH_IN_COLLECTION), (.ref w_GOLD), .null, .null, .null, .null, .null, .null, .null, .null, .null, .null, .null] .null := W37
  have N37 := Fr.snoc X37 N35 gg_b7
  obtain ⟨T38, X38, e38, st38⟩ := getS2 X37 hx hZ hown (host := "") (Or.inl (hw _ (List.mem_of_getElem? (i := 34) rfl))) Via.refl e37 (S_TANGIBLE_ASSET.ext O37) (g := (mkF m 107 #[.val (.int k0), .unset, .unset, .unset] [(.int (15 : Int32)), (.ref b7), (.ref b7)])) rfl (hb hby at_107)
  obtain ⟨T39, h39, X39, e39, O39, W39, st39⟩ := own_stR X38 hx hZ e38 O37 V37 O7 (Ins.self E_TANGIBLE_ASSET) sz_b7 (j := (15 : Int32)) (i := 15) ⟨by decide, by decide⟩ (by decide) (Nat.le_of_ble_eq_true rfl) (g := (mkF m 110 #[.val (.int k0), .unset, .unset, .unset] [(.ref w_TANGIBLE_ASSET), (.int (15 : Int32)), (.ref b7), (.ref b7)])) rfl rfl (hb hby at_110)
  have V39 : Arv Z h39 b7 k7 (.object "com/example/ponderat/ponderat/Item") (26 : Int32) [(.ref w_LOAN), (.ref w_DEBT_SECURITY), (.ref w_DEPOSIT), (.ref w_MANDATORY_RESERVE), (.ref w_TRADE_FINANCE), (.ref w_VENTURE_CAPITAL), (.ref w_PRIVATE_EQUITY), (.ref w_ALTERNATIVE_INVESTMENT_FUND), (.ref w_SPECULATIVE_REAL_ESTATE), (.ref w_EQUITY), (.ref w_CIU_UNIT), (.ref w_SECURITISATION_POSITION), (.ref w_CASH), (.ref w_CASH_IN_COLLECTION), (.ref w_GOLD), (.ref w_TANGIBLE_ASSET), .null, .null, .null, .null, .null, .null, .null, .null, .null, .null] .null := W39
  have N39 := Fr.snoc X39 N37 gg_b7
  obtain ⟨T40, X40, e40, st40⟩ := getS2 X39 hx hZ hown (host := "") (Or.inl (hw _ (List.mem_of_getElem? (i := 36) rfl))) Via.refl e39 (S_REPOSSESSED_ASSET.ext O39) (g := (mkF m 114 #[.val (.int k0), .unset, .unset, .unset] [(.int (16 : Int32)), (.ref b7), (.ref b7)])) rfl (hb hby at_114)
  obtain ⟨T41, h41, X41, e41, O41, W41, st41⟩ := own_stR X40 hx hZ e40 O39 V39 O7 (Ins.self E_REPOSSESSED_ASSET) sz_b7 (j := (16 : Int32)) (i := 16) ⟨by decide, by decide⟩ (by decide) (Nat.le_of_ble_eq_true rfl) (g := (mkF m 117 #[.val (.int k0), .unset, .unset, .unset] [(.ref w_REPOSSESSED_ASSET), (.int (16 : Int32)), (.ref b7), (.ref b7)])) rfl rfl (hb hby at_117)
  have V41 : Arv Z h41 b7 k7 (.object "com/example/ponderat/ponderat/Item") (26 : Int32) [(.ref w_LOAN), (.ref w_DEBT_SECURITY), (.ref w_DEPOSIT), (.ref w_MANDATORY_RESERVE), (.ref w_TRADE_FINANCE), (.ref w_VENTURE_CAPITAL), (.ref w_PRIVATE_EQUITY), (.ref w_ALTERNATIVE_INVESTMENT_FUND), (.ref w_SPECULATIVE_REAL_ESTATE), (.ref w_EQUITY), (.ref w_CIU_UNIT), (.ref w_SECURITISATION_POSITION), (.ref w_CASH), (.ref w_CASH_IN_COLLECTION), (.ref w_GOLD), (.ref w_TANGIBLE_ASSET), (.ref w_REPOSSESSED_ASSET), .null, .null, .null, .null, .null, .null, .null, .null, .null] .null := W41
  have N41 := Fr.snoc X41 N39 gg_b7
  obtain ⟨T42, X42, e42, st42⟩ := getS2 X41 hx hZ hown (host := "") (Or.inl (hw _ (List.mem_of_getElem? (i := 38) rfl))) Via.refl e41 (S_UNIDENTIFIED_PREPAYMENT.ext O41) (g := (mkF m 121 #[.val (.int k0), .unset, .unset, .unset] [(.int (17 : Int32)), (.ref b7), (.ref b7)])) rfl (hb hby at_121)
  obtain ⟨T43, h43, X43, e43, O43, W43, st43⟩ := own_stR X42 hx hZ e42 O41 V41 O7 (Ins.self E_UNIDENTIFIED_PREPAYMENT) sz_b7 (j := (17 : Int32)) (i := 17) ⟨by decide, by decide⟩ (by decide) (Nat.le_of_ble_eq_true rfl) (g := (mkF m 124 #[.val (.int k0), .unset, .unset, .unset] [(.ref w_UNIDENTIFIED_PREPAYMENT), (.int (17 : Int32)), (.ref b7), (.ref b7)])) rfl rfl (hb hby at_124)
  have V43 : Arv Z h43 b7 k7 (.object "com/example/ponderat/ponderat/Item") (26 : Int32) [(.ref w_LOAN), (.ref w_DEBT_SECURITY), (.ref w_DEPOSIT), (.ref w_MANDATORY_RESERVE), (.ref w_TRADE_FINANCE), (.ref w_VENTURE_CAPITAL), (.ref w_PRIVATE_EQUITY), (.ref w_ALTERNATIVE_INVESTMENT_FUND), (.ref w_SPECULATIVE_REAL_ESTATE), (.ref w_EQUITY), (.ref w_CIU_UNIT), (.ref w_SECURITISATION_POSITION), (.ref w_CASH), (.ref w_CASH_IN_COLLECTION), (.ref w_GOLD), (.ref w_TANGIBLE_ASSET), (.ref w_REPOSSESSED_ASSET), (.ref w_UNIDENTIFIED_PREPAYMENT), .null, .null, .null, .null, .null, .null, .null, .null] .null := W43
  have N43 := Fr.snoc X43 N41 gg_b7
  obtain ⟨T44, X44, e44, st44⟩ := getS2 X43 hx hZ hown (host := "") (Or.inl (hw _ (List.mem_of_getElem? (i := 40) rfl))) Via.refl e43 (S_LEASE_RESIDUAL_VALUE.ext O43) (g := (mkF m 128 #[.val (.int k0), .unset, .unset, .unset] [(.int (18 : Int32)), (.ref b7), (.ref b7)])) rfl (hb hby at_128)
  obtain ⟨T45, h45, X45, e45, O45, W45, st45⟩ := own_stR X44 hx hZ e44 O43 V43 O7 (Ins.self E_LEASE_RESIDUAL_VALUE) sz_b7 (j := (18 : Int32)) (i := 18) ⟨by decide, by decide⟩ (by decide) (Nat.le_of_ble_eq_true rfl) (g := (mkF m 131 #[.val (.int k0), .unset, .unset, .unset] [(.ref w_LEASE_RESIDUAL_VALUE), (.int (18 : Int32)), (.ref b7), (.ref b7)])) rfl rfl (hb hby at_131)
  have V45 : Arv Z h45 b7 k7 (.object "com/example/ponderat/ponderat/Item") (26 : Int32) [(.ref w_LOAN), (.ref w_DEBT_SECURITY), (.ref w_DEPOSIT), (.ref w_MANDATORY_RESERVE), (.ref w_TRADE_FINANCE), (.ref w_VENTURE_CAPITAL), (.ref w_PRIVATE_EQUITY), (.ref w_ALTERNATIVE_INVESTMENT_FUND), (.ref w_SPECULATIVE_REAL_ESTATE), (.ref w_EQUITY), (.ref w_CIU_UNIT), (.ref w_SECURITISATION_POSITION), (.ref w_CASH), (.ref w_CASH_IN_COLLECTION), (.ref w_GOLD), (.ref w_TANGIBLE_ASSET), (.ref w_REPOSSESSED_ASSET), (.ref w_UNIDENTIFIED_PREPAYMENT), (.ref w_LEASE_RESIDUAL_VALUE), .null, .null, .null, .null, .null, .null, .null] .null := W45
  have N45 := Fr.snoc X45 N43 gg_b7
  obtain ⟨T46, X46, e46, st46⟩ := getS2 X45 hx hZ hown (host := "") (Or.inl (hw _ (List.mem_of_getElem? (i := 42) rfl))) Via.refl e45 (S_GUARANTEE.ext O45) (g := (mkF m 135 #[.val (.int k0), .unset, .unset, .unset] [(.int (19 : Int32)), (.ref b7), (.ref b7)])) rfl (hb hby at_135)
  obtain ⟨T47, h47, X47, e47, O47, W47, st47⟩ := own_stR X46 hx hZ e46 O45 V45 O7 (Ins.self E_GUARANTEE) sz_b7 (j := (19 : Int32)) (i := 19) ⟨by decide, by decide⟩ (by decide) (Nat.le_of_ble_eq_true rfl) (g := (mkF m 138 #[.val (.int k0), .unset, .unset, .unset] [(.ref w_GUARANTEE), (.int (19 : Int32)), (.ref b7), (.ref b7)])) rfl rfl (hb hby at_138)
  have V47 : Arv Z h47 b7 k7 (.object "com/example/ponderat/ponderat/Item") (26 : Int32) [(.ref w_LOAN), (.ref w_DEBT_SECURITY), (.ref w_DEPOSIT), (.ref w_MANDATORY_RESERVE), (.ref w_TRADE_FINANCE), (.ref w_VENTURE_CAPITAL), (.ref w_PRIVATE_EQUITY), (.ref w_ALTERNATIVE_INVESTMENT_FUND), (.ref w_SPECULATIVE_REAL_ESTATE), (.ref w_EQUITY), (.ref w_CIU_UNIT), (.ref w_SECURITISATION_POSITION), (.ref w_CASH), (.ref w_CASH_IN_COLLECTION), (.ref w_GOLD), (.ref w_TANGIBLE_ASSET), (.ref w_REPOSSESSED_ASSET), (.ref w_UNIDENTIFIED_PREPAYMENT), (.ref w_LEASE_RESIDUAL_VALUE), (.ref w_GUARANTEE), .null, .null, .null, .null, .null, .null] .null := W47
  have N47 := Fr.snoc X47 N45 gg_b7
  obtain ⟨T48, X48, e48, st48⟩ := getS2 X47 hx hZ hown (host := "") (Or.inl (hw _ (List.mem_of_getElem? (i := 44) rfl))) Via.refl e47 (S_LETTER_OF_CREDIT.ext O47) (g := (mkF m 142 #[.val (.int k0), .unset, .unset, .unset] [(.int (20 : Int32)), (.ref b7), (.ref b7)])) rfl (hb hby at_142)
  obtain ⟨T49, h49, X49, e49, O49, W49, st49⟩ := own_stR X48 hx hZ e48 O47 V47 O7 (Ins.self E_LETTER_OF_CREDIT) sz_b7 (j := (20 : Int32)) (i := 20) ⟨by decide, by decide⟩ (by decide) (Nat.le_of_ble_eq_true rfl) (g := (mkF m 145 #[.val (.int k0), .unset, .unset, .unset] [(.ref w_LETTER_OF_CREDIT), (.int (20 : Int32)), (.ref b7), (.ref b7)])) rfl rfl (hb hby at_145)
  have V49 : Arv Z h49 b7 k7 (.object "com/example/ponderat/ponderat/Item") (26 : Int32) [(.ref w_LOAN), (.ref w_DEBT_SECURITY), (.ref w_DEPOSIT), (.ref w_MANDATORY_RESERVE), (.ref w_TRADE_FINANCE), (.ref w_VENTURE_CAPITAL), (.ref w_PRIVATE_EQUITY), (.ref w_ALTERNATIVE_INVESTMENT_FUND), (.ref w_SPECULATIVE_REAL_ESTATE), (.ref w_EQUITY), (.ref w_CIU_UNIT), (.ref w_SECURITISATION_POSITION), (.ref w_CASH), (.ref w_CASH_IN_COLLECTION), (.ref w_GOLD), (.ref w_TANGIBLE_ASSET), (.ref w_REPOSSESSED_ASSET), (.ref w_UNIDENTIFIED_PREPAYMENT), (.ref w_LEASE_RESIDUAL_VALUE), (.ref w_GUARANTEE), (.ref w_LETTER_OF_CREDIT), .null, .null, .null, .null, .null] .null := W49
  have N49 := Fr.snoc X49 N47 gg_b7
  obtain ⟨T50, X50, e50, st50⟩ := getS2 X49 hx hZ hown (host := "") (Or.inl (hw _ (List.mem_of_getElem? (i := 46) rfl))) Via.refl e49 (S_UNDRAWN_COMMITMENT.ext O49) (g := (mkF m 149 #[.val (.int k0), .unset, .unset, .unset] [(.int (21 : Int32)), (.ref b7), (.ref b7)])) rfl (hb hby at_149)
  obtain ⟨T51, h51, X51, e51, O51, W51, st51⟩ := own_stR X50 hx hZ e50 O49 V49 O7 (Ins.self E_UNDRAWN_COMMITMENT) sz_b7 (j := (21 : Int32)) (i := 21) ⟨by decide, by decide⟩ (by decide) (Nat.le_of_ble_eq_true rfl) (g := (mkF m 152 #[.val (.int k0), .unset, .unset, .unset] [(.ref w_UNDRAWN_COMMITMENT), (.int (21 : Int32)), (.ref b7), (.ref b7)])) rfl rfl (hb hby at_152)
  have V51 : Arv Z h51 b7 k7 (.object "com/example/ponderat/ponderat/Item") (26 : Int32) [(.ref w_LOAN), (.ref w_DEBT_SECURITY), (.ref w_DEPOSIT), (.ref w_MANDATORY_RESERVE), (.ref w_TRADE_FINANCE), (.ref w_VENTURE_CAPITAL), (.ref w_PRIVATE_EQUITY), (.ref w_ALTERNATIVE_INVESTMENT_FUND), (.ref w_SPECULATIVE_REAL_ESTATE), (.ref w_EQUITY), (.ref w_CIU_UNIT), (.ref w_SECURITISATION_POSITION), (.ref w_CASH), (.ref w_CASH_IN_COLLECTION), (.ref w_GOLD), (.ref w_TANGIBLE_ASSET), (.ref w_REPOSSESSED_ASSET), (.ref w_UNIDENTIFIED_PREPAYMENT), (.ref w_LEASE_RESIDUAL_VALUE), (.ref w_GUARANTEE), (.ref w_LETTER_OF_CREDIT), (.ref w_UNDRAWN_COMMITMENT), .null, .null, .null, .null] .null := W51
  have N51 := Fr.snoc X51 N49 gg_b7
  obtain ⟨T52, X52, e52, st52⟩ := getS2 X51 hx hZ hown (host := "") (Or.inl (hw _ (List.mem_of_getElem? (i := 48) rfl))) Via.refl e51 (S_ACCEPTANCE.ext O51) (g := (mkF m 156 #[.val (.int k0), .unset, .unset, .unset] [(.int (22 : Int32)), (.ref b7), (.ref b7)])) rfl (hb hby at_156)
  obtain ⟨T53, h53, X53, e53, O53, W53, st53⟩ := own_stR X52 hx hZ e52 O51 V51 O7 (Ins.self E_ACCEPTANCE) sz_b7 (j := (22 : Int32)) (i := 22) ⟨by decide, by decide⟩ (by decide) (Nat.le_of_ble_eq_true rfl) (g := (mkF m 159 #[.val (.int k0), .unset, .unset, .unset] [(.ref w_ACCEPTANCE), (.int (22 : Int32)), (.ref b7), (.ref b7)])) rfl rfl (hb hby at_159)
  have V53 : Arv Z h53 b7 k7 (.object "com/example/ponderat/ponderat/Item") (26 : Int32) [(.ref w_LOAN), (.ref w_DEBT_SECURITY), (.ref w_DEPOSIT), (.ref w_MANDATORY_RESERVE), (.ref w_TRADE_FINANCE), (.ref w_VENTURE_CAPITAL), (.ref w_PRIVATE_EQUITY), (.ref w_ALTERNATIVE_INVESTMENT_FUND), (.ref w_SPECULATIVE_REAL_ESTATE), (.ref w_EQUITY), (.ref w_CIU_UNIT), (.ref w_SECURITISATION_POSITION), (.ref w_CASH), (.ref w_CASH_IN_COLLECTION), (.ref w_GOLD), (.ref w_TANGIBLE_ASSET), (.ref w_REPOSSESSED_ASSET), (.ref w_UNIDENTIFIED_PREPAYMENT), (.ref w_LEASE_RESIDUAL_VALUE), (.ref w_GUARANTEE), (.ref w_LETTER_OF_CREDIT), (.ref w_UNDRAWN_COMMITMENT), (.ref w_ACCEPTANCE), .null, .null, .null] .null := W53
  have N53 := Fr.snoc X53 N51 gg_b7
  obtain ⟨T54, X54, e54, st54⟩ := getS2 X53 hx hZ hown (host := "") (Or.inl (hw _ (List.mem_of_getElem? (i := 50) rfl))) Via.refl e53 (S_NOTE_ISSUANCE_FACILITY.ext O53) (g := (mkF m 163 #[.val (.int k0), .unset, .unset, .unset] [(.int (23 : Int32)), (.ref b7), (.ref b7)])) rfl (hb hby at_163)
  obtain ⟨T55, h55, X55, e55, O55, W55, st55⟩ := own_stR X54 hx hZ e54 O53 V53 O7 (Ins.self E_NOTE_ISSUANCE_FACILITY) sz_b7 (j := (23 : Int32)) (i := 23) ⟨by decide, by decide⟩ (by decide) (Nat.le_of_ble_eq_true rfl) (g := (mkF m 166 #[.val (.int k0), .unset, .unset, .unset] [(.ref w_NOTE_ISSUANCE_FACILITY), (.int (23 : Int32)), (.ref b7), (.ref b7)])) rfl rfl (hb hby at_166)
  have V55 : Arv Z h55 b7 k7 (.object "com/example/ponderat/ponderat/Item") (26 : Int32) [(.ref w_LOAN), (.ref w_DEBT_SECURITY), (.ref w_DEPOSIT), (.ref w_MANDATORY_RESERVE), (.ref w_TRADE_FINANCE), (.ref w_VENTURE_CAPITAL), (.ref w_PRIVATE_EQUITY), (.ref w_ALTERNATIVE_INVESTMENT_FUND), (.ref w_SPECULATIVE_REAL_ESTATE), (.ref w_EQUITY), (.ref w_CIU_UNIT), (.ref w_SECURITISATION_POSITION), (.ref w_CASH), (.ref w_CASH_IN_COLLECTION), (.ref w_GOLD), (.ref w_TANGIBLE_ASSET), (.ref w_REPOSSESSED_ASSET), (.ref w_UNIDENTIFIED_PREPAYMENT), (.ref w_LEASE_RESIDUAL_VALUE), (.ref w_GUARANTEE), (.ref w_LETTER_OF_CREDIT), (.ref w_UNDRAWN_COMMITMENT), (.ref w_ACCEPTANCE), (.ref w_NOTE_ISSUANCE_FACILITY), .null, .null] .null := W55
  have N55 := Fr.snoc X55 N53 gg_b7
  obtain ⟨T56, X56, e56, st56⟩ := getS2 X55 hx hZ hown (host := "") (Or.inl (hw _ (List.mem_of_getElem? (i := 52) rfl))) Via.refl e55 (S_FORWARD_PURCHASE.ext O55) (g := (mkF m 170 #[.val (.int k0), .unset, .unset, .unset] [(.int (24 : Int32)), (.ref b7), (.ref b7)])) rfl (hb hby at_170)
  obtain ⟨T57, h57, X57, e57, O57, W57, st57⟩ := own_stR X56 hx hZ e56 O55 V55 O7 (Ins.self E_FORWARD_PURCHASE) sz_b7 (j := (24 : Int32)) (i := 24) ⟨by decide, by decide⟩ (by decide) (Nat.le_of_ble_eq_true rfl) (g := (mkF m 173 #[.val (.int k0), .unset, .unset, .unset] [(.ref w_FORWARD_PURCHASE), (.int (24 : Int32)), (.ref b7), (.ref b7)])) rfl rfl (hb hby at_173)
  have V57 : Arv Z h57 b7 k7 (.object "com/example/ponderat/ponderat/Item") (26 : Int32) [(.ref w_LOAN), (.ref w_DEBT_SECURITY), (.ref w_DEPOSIT), (.ref w_MANDATORY_RESERVE), (.ref w_TRADE_FINANCE), (.ref w_VENTURE_CAPITAL), (.ref w_PRIVATE_EQUITY), (.ref w_ALTERNATIVE_INVESTMENT_FUND), (.ref w_SPECULATIVE_REAL_ESTATE), (.ref w_EQUITY), (.ref w_CIU_UNIT), (.ref w_SECURITISATION_POSITION), (.ref w_CASH), (.ref w_CASH_IN_COLLECTION), (.ref w_GOLD), (.ref w_TANGIBLE_ASSET), (.ref w_REPOSSESSED_ASSET), (.ref w_UNIDENTIFIED_PREPAYMENT), (.ref w_LEASE_RESIDUAL_VALUE), (.ref w_GUARANTEE), (.ref w_LETTER_OF_CREDIT), (.ref w_UNDRAWN_COMMITMENT), (.ref w_ACCEPTANCE), (.ref w_NOTE_ISSUANCE_FACILITY), (.ref w_FORWARD_PURCHASE), .null] .null := W57
  have N57 := Fr.snoc X57 N55 gg_b7
  obtain ⟨T58, X58, e58, st58⟩ := getS2 X57 hx hZ hown (host := "") (Or.inl (hw _ (List.mem_of_getElem? (i := 54) rfl))) Via.refl e57 (S_OTHER_OFF_BALANCE.ext O57) (g := (mkF m 177 #[.val (.int k0), .unset, .unset, .unset] [(.int (25 : Int32)), (.ref b7), (.ref b7)])) rfl (hb hby at_177)
  obtain ⟨T59, h59, X59, e59, O59, W59, st59⟩ := own_stR X58 hx hZ e58 O57 V57 O7 (Ins.self E_OTHER_OFF_BALANCE) sz_b7 (j := (25 : Int32)) (i := 25) ⟨by decide, by decide⟩ (by decide) (Nat.le_of_ble_eq_true rfl) (g := (mkF m 180 #[.val (.int k0), .unset, .unset, .unset] [(.ref w_OTHER_OFF_BALANCE), (.int (25 : Int32)), (.ref b7), (.ref b7)])) rfl rfl (hb hby at_180)
  have V59 : Arv Z h59 b7 k7 (.object "com/example/ponderat/ponderat/Item") (26 : Int32) [(.ref w_LOAN), (.ref w_DEBT_SECURITY), (.ref w_DEPOSIT), (.ref w_MANDATORY_RESERVE), (.ref w_TRADE_FINANCE), (.ref w_VENTURE_CAPITAL), (.ref w_PRIVATE_EQUITY), (.ref w_ALTERNATIVE_INVESTMENT_FUND), (.ref w_SPECULATIVE_REAL_ESTATE), (.ref w_EQUITY), (.ref w_CIU_UNIT), (.ref w_SECURITISATION_POSITION), (.ref w_CASH), (.ref w_CASH_IN_COLLECTION), (.ref w_GOLD), (.ref w_TANGIBLE_ASSET), (.ref w_REPOSSESSED_ASSET), (.ref w_UNIDENTIFIED_PREPAYMENT), (.ref w_LEASE_RESIDUAL_VALUE), (.ref w_GUARANTEE), (.ref w_LETTER_OF_CREDIT), (.ref w_UNDRAWN_COMMITMENT), (.ref w_ACCEPTANCE), (.ref w_NOTE_ISSUANCE_FACILITY), (.ref w_FORWARD_PURCHASE), (.ref w_OTHER_OFF_BALANCE)] .null := W59
  have N59 := Fr.snoc X59 N57 gg_b7
  have pre60 : ∀ t_, Steps p.tables e below (T59.setTop (mkF m 190 #[.val (.int k0), .val (.ref b7), .val (.int ((k0 &&& (2147483647 : Int32)) % (26 : Int32))), .unset] [])) t_ → Steps p.tables e below (s₁.setTop (entryFrame m #[(.int k0)] maxLocals)) t_ := fun t_ k_ => pre0 t_ (by
    show Steps p.tables e below (s₁.setTop (mkF m 0 #[.val (.int k0), .unset, .unset, .unset] [])) _
    refine XS.bipush X0.here hx rfl (hb hby at_0) ?_
    show Steps p.tables e below (s₁.setTop (mkF m 2 #[.val (.int k0), .unset, .unset, .unset] [(.int (26 : Int32))])) _
    refine st7 _ ?_
    show Steps p.tables e below (T7.setTop (mkF m 5 #[.val (.int k0), .unset, .unset, .unset] [(.ref b7)])) _
    refine XS.dup X7.here hx rfl (hb hby at_5) rfl rfl ?_
    show Steps p.tables e below (T7.setTop (mkF m 6 #[.val (.int k0), .unset, .unset, .unset] [(.ref b7), (.ref b7)])) _
    refine XS.iconst X7.here hx rfl (hb hby at_6) ?_
    show Steps p.tables e below (T7.setTop (mkF m 7 #[.val (.int k0), .unset, .unset, .unset] [(.int (0 : Int32)), (.ref b7), (.ref b7)])) _
    refine st8 _ ?_
    show Steps p.tables e below (T8.setTop (mkF m 10 #[.val (.int k0), .unset, .unset, .unset] [(.ref w_LOAN), (.int (0 : Int32)), (.ref b7), (.ref b7)])) _
    refine st9 _ ?_
    show Steps p.tables e below (T9.setTop (mkF m 11 #[.val (.int k0), .unset, .unset, .unset] [(.ref b7)])) _
    refine XS.dup X9.here hx rfl (hb hby at_11) rfl rfl ?_
    show Steps p.tables e below (T9.setTop (mkF m 12 #[.val (.int k0), .unset, .unset, .unset] [(.ref b7), (.ref b7)])) _
    refine XS.iconst X9.here hx rfl (hb hby at_12) ?_
    show Steps p.tables e below (T9.setTop (mkF m 13 #[.val (.int k0), .unset, .unset, .unset] [(.int (1 : Int32)), (.ref b7), (.ref b7)])) _
    refine st10 _ ?_
    show Steps p.tables e below (T10.setTop (mkF m 16 #[.val (.int k0), .unset, .unset, .unset] [(.ref w_DEBT_SECURITY), (.int (1 : Int32)), (.ref b7), (.ref b7)])) _
    refine st11 _ ?_
    show Steps p.tables e below (T11.setTop (mkF m 17 #[.val (.int k0), .unset, .unset, .unset] [(.ref b7)])) _
    refine XS.dup X11.here hx rfl (hb hby at_17) rfl rfl ?_
    show Steps p.tables e below (T11.setTop (mkF m 18 #[.val (.int k0), .unset, .unset, .unset] [(.ref b7), (.ref b7)])) _
    refine XS.iconst X11.here hx rfl (hb hby at_18) ?_
    show Steps p.tables e below (T11.setTop (mkF m 19 #[.val (.int k0), .unset, .unset, .unset] [(.int (2 : Int32)), (.ref b7), (.ref b7)])) _
    refine st12 _ ?_
    show Steps p.tables e below (T12.setTop (mkF m 22 #[.val (.int k0), .unset, .unset, .unset] [(.ref w_DEPOSIT), (.int (2 : Int32)), (.ref b7), (.ref b7)])) _
    refine st13 _ ?_
    show Steps p.tables e below (T13.setTop (mkF m 23 #[.val (.int k0), .unset, .unset, .unset] [(.ref b7)])) _
    refine XS.dup X13.here hx rfl (hb hby at_23) rfl rfl ?_
    show Steps p.tables e below (T13.setTop (mkF m 24 #[.val (.int k0), .unset, .unset, .unset] [(.ref b7), (.ref b7)])) _
    refine XS.iconst X13.here hx rfl (hb hby at_24) ?_
    show Steps p.tables e below (T13.setTop (mkF m 25 #[.val (.int k0), .unset, .unset, .unset] [(.int (3 : Int32)), (.ref b7), (.ref b7)])) _
    refine st14 _ ?_
    show Steps p.tables e below (T14.setTop (mkF m 28 #[.val (.int k0), .unset, .unset, .unset] [(.ref w_MANDATORY_RESERVE), (.int (3 : Int32)), (.ref b7), (.ref b7)])) _
    refine st15 _ ?_
    show Steps p.tables e below (T15.setTop (mkF m 29 #[.val (.int k0), .unset, .unset, .unset] [(.ref b7)])) _
    refine XS.dup X15.here hx rfl (hb hby at_29) rfl rfl ?_
    show Steps p.tables e below (T15.setTop (mkF m 30 #[.val (.int k0), .unset, .unset, .unset] [(.ref b7), (.ref b7)])) _
    refine XS.iconst X15.here hx rfl (hb hby at_30) ?_
    show Steps p.tables e below (T15.setTop (mkF m 31 #[.val (.int k0), .unset, .unset, .unset] [(.int (4 : Int32)), (.ref b7), (.ref b7)])) _
    refine st16 _ ?_
    show Steps p.tables e below (T16.setTop (mkF m 34 #[.val (.int k0), .unset, .unset, .unset] [(.ref w_TRADE_FINANCE), (.int (4 : Int32)), (.ref b7), (.ref b7)])) _
    refine st17 _ ?_
    show Steps p.tables e below (T17.setTop (mkF m 35 #[.val (.int k0), .unset, .unset, .unset] [(.ref b7)])) _
    refine XS.dup X17.here hx rfl (hb hby at_35) rfl rfl ?_
    show Steps p.tables e below (T17.setTop (mkF m 36 #[.val (.int k0), .unset, .unset, .unset] [(.ref b7), (.ref b7)])) _
    refine XS.iconst X17.here hx rfl (hb hby at_36) ?_
    show Steps p.tables e below (T17.setTop (mkF m 37 #[.val (.int k0), .unset, .unset, .unset] [(.int (5 : Int32)), (.ref b7), (.ref b7)])) _
    refine st18 _ ?_
    show Steps p.tables e below (T18.setTop (mkF m 40 #[.val (.int k0), .unset, .unset, .unset] [(.ref w_VENTURE_CAPITAL), (.int (5 : Int32)), (.ref b7), (.ref b7)])) _
    refine st19 _ ?_
    show Steps p.tables e below (T19.setTop (mkF m 41 #[.val (.int k0), .unset, .unset, .unset] [(.ref b7)])) _
    refine XS.dup X19.here hx rfl (hb hby at_41) rfl rfl ?_
    show Steps p.tables e below (T19.setTop (mkF m 42 #[.val (.int k0), .unset, .unset, .unset] [(.ref b7), (.ref b7)])) _
    refine XS.bipush X19.here hx rfl (hb hby at_42) ?_
    show Steps p.tables e below (T19.setTop (mkF m 44 #[.val (.int k0), .unset, .unset, .unset] [(.int (6 : Int32)), (.ref b7), (.ref b7)])) _
    refine st20 _ ?_
    show Steps p.tables e below (T20.setTop (mkF m 47 #[.val (.int k0), .unset, .unset, .unset] [(.ref w_PRIVATE_EQUITY), (.int (6 : Int32)), (.ref b7), (.ref b7)])) _
    refine st21 _ ?_
    show Steps p.tables e below (T21.setTop (mkF m 48 #[.val (.int k0), .unset, .unset, .unset] [(.ref b7)])) _
    refine XS.dup X21.here hx rfl (hb hby at_48) rfl rfl ?_
    show Steps p.tables e below (T21.setTop (mkF m 49 #[.val (.int k0), .unset, .unset, .unset] [(.ref b7), (.ref b7)])) _
    refine XS.bipush X21.here hx rfl (hb hby at_49) ?_
    show Steps p.tables e below (T21.setTop (mkF m 51 #[.val (.int k0), .unset, .unset, .unset] [(.int (7 : Int32)), (.ref b7), (.ref b7)])) _
    refine st22 _ ?_
    show Steps p.tables e below (T22.setTop (mkF m 54 #[.val (.int k0), .unset, .unset, .unset] [(.ref w_ALTERNATIVE_INVESTMENT_FUND), (.int (7 : Int32)), (.ref b7), (.ref b7)])) _
    refine st23 _ ?_
    show Steps p.tables e below (T23.setTop (mkF m 55 #[.val (.int k0), .unset, .unset, .unset] [(.ref b7)])) _
    refine XS.dup X23.here hx rfl (hb hby at_55) rfl rfl ?_
    show Steps p.tables e below (T23.setTop (mkF m 56 #[.val (.int k0), .unset, .unset, .unset] [(.ref b7), (.ref b7)])) _
    refine XS.bipush X23.here hx rfl (hb hby at_56) ?_
    show Steps p.tables e below (T23.setTop (mkF m 58 #[.val (.int k0), .unset, .unset, .unset] [(.int (8 : Int32)), (.ref b7), (.ref b7)])) _
    refine st24 _ ?_
    show Steps p.tables e below (T24.setTop (mkF m 61 #[.val (.int k0), .unset, .unset, .unset] [(.ref w_SPECULATIVE_REAL_ESTATE), (.int (8 : Int32)), (.ref b7), (.ref b7)])) _
    refine st25 _ ?_
    show Steps p.tables e below (T25.setTop (mkF m 62 #[.val (.int k0), .unset, .unset, .unset] [(.ref b7)])) _
    refine XS.dup X25.here hx rfl (hb hby at_62) rfl rfl ?_
    show Steps p.tables e below (T25.setTop (mkF m 63 #[.val (.int k0), .unset, .unset, .unset] [(.ref b7), (.ref b7)])) _
    refine XS.bipush X25.here hx rfl (hb hby at_63) ?_
    show Steps p.tables e below (T25.setTop (mkF m 65 #[.val (.int k0), .unset, .unset, .unset] [(.int (9 : Int32)), (.ref b7), (.ref b7)])) _
    refine st26 _ ?_
    show Steps p.tables e below (T26.setTop (mkF m 68 #[.val (.int k0), .unset, .unset, .unset] [(.ref w_EQUITY), (.int (9 : Int32)), (.ref b7), (.ref b7)])) _
    refine st27 _ ?_
    show Steps p.tables e below (T27.setTop (mkF m 69 #[.val (.int k0), .unset, .unset, .unset] [(.ref b7)])) _
    refine XS.dup X27.here hx rfl (hb hby at_69) rfl rfl ?_
    show Steps p.tables e below (T27.setTop (mkF m 70 #[.val (.int k0), .unset, .unset, .unset] [(.ref b7), (.ref b7)])) _
    refine XS.bipush X27.here hx rfl (hb hby at_70) ?_
    show Steps p.tables e below (T27.setTop (mkF m 72 #[.val (.int k0), .unset, .unset, .unset] [(.int (10 : Int32)), (.ref b7), (.ref b7)])) _
    refine st28 _ ?_
    show Steps p.tables e below (T28.setTop (mkF m 75 #[.val (.int k0), .unset, .unset, .unset] [(.ref w_CIU_UNIT), (.int (10 : Int32)), (.ref b7), (.ref b7)])) _
    refine st29 _ ?_
    show Steps p.tables e below (T29.setTop (mkF m 76 #[.val (.int k0), .unset, .unset, .unset] [(.ref b7)])) _
    refine XS.dup X29.here hx rfl (hb hby at_76) rfl rfl ?_
    show Steps p.tables e below (T29.setTop (mkF m 77 #[.val (.int k0), .unset, .unset, .unset] [(.ref b7), (.ref b7)])) _
    refine XS.bipush X29.here hx rfl (hb hby at_77) ?_
    show Steps p.tables e below (T29.setTop (mkF m 79 #[.val (.int k0), .unset, .unset, .unset] [(.int (11 : Int32)), (.ref b7), (.ref b7)])) _
    refine st30 _ ?_
    show Steps p.tables e below (T30.setTop (mkF m 82 #[.val (.int k0), .unset, .unset, .unset] [(.ref w_SECURITISATION_POSITION), (.int (11 : Int32)), (.ref b7), (.ref b7)])) _
    refine st31 _ ?_
    show Steps p.tables e below (T31.setTop (mkF m 83 #[.val (.int k0), .unset, .unset, .unset] [(.ref b7)])) _
    refine XS.dup X31.here hx rfl (hb hby at_83) rfl rfl ?_
    show Steps p.tables e below (T31.setTop (mkF m 84 #[.val (.int k0), .unset, .unset, .unset] [(.ref b7), (.ref b7)])) _
    refine XS.bipush X31.here hx rfl (hb hby at_84) ?_
    show Steps p.tables e below (T31.setTop (mkF m 86 #[.val (.int k0), .unset, .unset, .unset] [(.int (12 : Int32)), (.ref b7), (.ref b7)])) _
    refine st32 _ ?_
    show Steps p.tables e below (T32.setTop (mkF m 89 #[.val (.int k0), .unset, .unset, .unset] [(.ref w_CASH), (.int (12 : Int32)), (.ref b7), (.ref b7)])) _
    refine st33 _ ?_
    show Steps p.tables e below (T33.setTop (mkF m 90 #[.val (.int k0), .unset, .unset, .unset] [(.ref b7)])) _
    refine XS.dup X33.here hx rfl (hb hby at_90) rfl rfl ?_
    show Steps p.tables e below (T33.setTop (mkF m 91 #[.val (.int k0), .unset, .unset, .unset] [(.ref b7), (.ref b7)])) _
    refine XS.bipush X33.here hx rfl (hb hby at_91) ?_
    show Steps p.tables e below (T33.setTop (mkF m 93 #[.val (.int k0), .unset, .unset, .unset] [(.int (13 : Int32)), (.ref b7), (.ref b7)])) _
    refine st34 _ ?_
    show Steps p.tables e below (T34.setTop (mkF m 96 #[.val (.int k0), .unset, .unset, .unset] [(.ref w_CASH_IN_COLLECTION), (.int (13 : Int32)), (.ref b7), (.ref b7)])) _
    refine st35 _ ?_
    show Steps p.tables e below (T35.setTop (mkF m 97 #[.val (.int k0), .unset, .unset, .unset] [(.ref b7)])) _
    refine XS.dup X35.here hx rfl (hb hby at_97) rfl rfl ?_
    show Steps p.tables e below (T35.setTop (mkF m 98 #[.val (.int k0), .unset, .unset, .unset] [(.ref b7), (.ref b7)])) _
    refine XS.bipush X35.here hx rfl (hb hby at_98) ?_
    show Steps p.tables e below (T35.setTop (mkF m 100 #[.val (.int k0), .unset, .unset, .unset] [(.int (14 : Int32)), (.ref b7), (.ref b7)])) _
    refine st36 _ ?_
    show Steps p.tables e below (T36.setTop (mkF m 103 #[.val (.int k0), .unset, .unset, .unset] [(.ref w_GOLD), (.int (14 : Int32)), (.ref b7), (.ref b7)])) _
    refine st37 _ ?_
    show Steps p.tables e below (T37.setTop (mkF m 104 #[.val (.int k0), .unset, .unset, .unset] [(.ref b7)])) _
    refine XS.dup X37.here hx rfl (hb hby at_104) rfl rfl ?_
    show Steps p.tables e below (T37.setTop (mkF m 105 #[.val (.int k0), .unset, .unset, .unset] [(.ref b7), (.ref b7)])) _
    refine XS.bipush X37.here hx rfl (hb hby at_105) ?_
    show Steps p.tables e below (T37.setTop (mkF m 107 #[.val (.int k0), .unset, .unset, .unset] [(.int (15 : Int32)), (.ref b7), (.ref b7)])) _
    refine st38 _ ?_
    show Steps p.tables e below (T38.setTop (mkF m 110 #[.val (.int k0), .unset, .unset, .unset] [(.ref w_TANGIBLE_ASSET), (.int (15 : Int32)), (.ref b7), (.ref b7)])) _
    refine st39 _ ?_
    show Steps p.tables e below (T39.setTop (mkF m 111 #[.val (.int k0), .unset, .unset, .unset] [(.ref b7)])) _
    refine XS.dup X39.here hx rfl (hb hby at_111) rfl rfl ?_
    show Steps p.tables e below (T39.setTop (mkF m 112 #[.val (.int k0), .unset, .unset, .unset] [(.ref b7), (.ref b7)])) _
    refine XS.bipush X39.here hx rfl (hb hby at_112) ?_
    show Steps p.tables e below (T39.setTop (mkF m 114 #[.val (.int k0), .unset, .unset, .unset] [(.int (16 : Int32)), (.ref b7), (.ref b7)])) _
    refine st40 _ ?_
    show Steps p.tables e below (T40.setTop (mkF m 117 #[.val (.int k0), .unset, .unset, .unset] [(.ref w_REPOSSESSED_ASSET), (.int (16 : Int32)), (.ref b7), (.ref b7)])) _
    refine st41 _ ?_
    show Steps p.tables e below (T41.setTop (mkF m 118 #[.val (.int k0), .unset, .unset, .unset] [(.ref b7)])) _
    refine XS.dup X41.here hx rfl (hb hby at_118) rfl rfl ?_
    show Steps p.tables e below (T41.setTop (mkF m 119 #[.val (.int k0), .unset, .unset, .unset] [(.ref b7), (.ref b7)])) _
    refine XS.bipush X41.here hx rfl (hb hby at_119) ?_
    show Steps p.tables e below (T41.setTop (mkF m 121 #[.val (.int k0), .unset, .unset, .unset] [(.int (17 : Int32)), (.ref b7), (.ref b7)])) _
    refine st42 _ ?_
    show Steps p.tables e below (T42.setTop (mkF m 124 #[.val (.int k0), .unset, .unset, .unset] [(.ref w_UNIDENTIFIED_PREPAYMENT), (.int (17 : Int32)), (.ref b7), (.ref b7)])) _
    refine st43 _ ?_
    show Steps p.tables e below (T43.setTop (mkF m 125 #[.val (.int k0), .unset, .unset, .unset] [(.ref b7)])) _
    refine XS.dup X43.here hx rfl (hb hby at_125) rfl rfl ?_
    show Steps p.tables e below (T43.setTop (mkF m 126 #[.val (.int k0), .unset, .unset, .unset] [(.ref b7), (.ref b7)])) _
    refine XS.bipush X43.here hx rfl (hb hby at_126) ?_
    show Steps p.tables e below (T43.setTop (mkF m 128 #[.val (.int k0), .unset, .unset, .unset] [(.int (18 : Int32)), (.ref b7), (.ref b7)])) _
    refine st44 _ ?_
    show Steps p.tables e below (T44.setTop (mkF m 131 #[.val (.int k0), .unset, .unset, .unset] [(.ref w_LEASE_RESIDUAL_VALUE), (.int (18 : Int32)), (.ref b7), (.ref b7)])) _
    refine st45 _ ?_
    show Steps p.tables e below (T45.setTop (mkF m 132 #[.val (.int k0), .unset, .unset, .unset] [(.ref b7)])) _
    refine XS.dup X45.here hx rfl (hb hby at_132) rfl rfl ?_
    show Steps p.tables e below (T45.setTop (mkF m 133 #[.val (.int k0), .unset, .unset, .unset] [(.ref b7), (.ref b7)])) _
    refine XS.bipush X45.here hx rfl (hb hby at_133) ?_
    show Steps p.tables e below (T45.setTop (mkF m 135 #[.val (.int k0), .unset, .unset, .unset] [(.int (19 : Int32)), (.ref b7), (.ref b7)])) _
    refine st46 _ ?_
    show Steps p.tables e below (T46.setTop (mkF m 138 #[.val (.int k0), .unset, .unset, .unset] [(.ref w_GUARANTEE), (.int (19 : Int32)), (.ref b7), (.ref b7)])) _
    refine st47 _ ?_
    show Steps p.tables e below (T47.setTop (mkF m 139 #[.val (.int k0), .unset, .unset, .unset] [(.ref b7)])) _
    refine XS.dup X47.here hx rfl (hb hby at_139) rfl rfl ?_
    show Steps p.tables e below (T47.setTop (mkF m 140 #[.val (.int k0), .unset, .unset, .unset] [(.ref b7), (.ref b7)])) _
    refine XS.bipush X47.here hx rfl (hb hby at_140) ?_
    show Steps p.tables e below (T47.setTop (mkF m 142 #[.val (.int k0), .unset, .unset, .unset] [(.int (20 : Int32)), (.ref b7), (.ref b7)])) _
    refine st48 _ ?_
    show Steps p.tables e below (T48.setTop (mkF m 145 #[.val (.int k0), .unset, .unset, .unset] [(.ref w_LETTER_OF_CREDIT), (.int (20 : Int32)), (.ref b7), (.ref b7)])) _
    refine st49 _ ?_
    show Steps p.tables e below (T49.setTop (mkF m 146 #[.val (.int k0), .unset, .unset, .unset] [(.ref b7)])) _
    refine XS.dup X49.here hx rfl (hb hby at_146) rfl rfl ?_
    show Steps p.tables e below (T49.setTop (mkF m 147 #[.val (.int k0), .unset, .unset, .unset] [(.ref b7), (.ref b7)])) _
    refine XS.bipush X49.here hx rfl (hb hby at_147) ?_
    show Steps p.tables e below (T49.setTop (mkF m 149 #[.val (.int k0), .unset, .unset, .unset] [(.int (21 : Int32)), (.ref b7), (.ref b7)])) _
    refine st50 _ ?_
    show Steps p.tables e below (T50.setTop (mkF m 152 #[.val (.int k0), .unset, .unset, .unset] [(.ref w_UNDRAWN_COMMITMENT), (.int (21 : Int32)), (.ref b7), (.ref b7)])) _
    refine st51 _ ?_
    show Steps p.tables e below (T51.setTop (mkF m 153 #[.val (.int k0), .unset, .unset, .unset] [(.ref b7)])) _
    refine XS.dup X51.here hx rfl (hb hby at_153) rfl rfl ?_
    show Steps p.tables e below (T51.setTop (mkF m 154 #[.val (.int k0), .unset, .unset, .unset] [(.ref b7), (.ref b7)])) _
    refine XS.bipush X51.here hx rfl (hb hby at_154) ?_
    show Steps p.tables e below (T51.setTop (mkF m 156 #[.val (.int k0), .unset, .unset, .unset] [(.int (22 : Int32)), (.ref b7), (.ref b7)])) _
    refine st52 _ ?_
    show Steps p.tables e below (T52.setTop (mkF m 159 #[.val (.int k0), .unset, .unset, .unset] [(.ref w_ACCEPTANCE), (.int (22 : Int32)), (.ref b7), (.ref b7)])) _
    refine st53 _ ?_
    show Steps p.tables e below (T53.setTop (mkF m 160 #[.val (.int k0), .unset, .unset, .unset] [(.ref b7)])) _
    refine XS.dup X53.here hx rfl (hb hby at_160) rfl rfl ?_
    show Steps p.tables e below (T53.setTop (mkF m 161 #[.val (.int k0), .unset, .unset, .unset] [(.ref b7), (.ref b7)])) _
    refine XS.bipush X53.here hx rfl (hb hby at_161) ?_
    show Steps p.tables e below (T53.setTop (mkF m 163 #[.val (.int k0), .unset, .unset, .unset] [(.int (23 : Int32)), (.ref b7), (.ref b7)])) _
    refine st54 _ ?_
    show Steps p.tables e below (T54.setTop (mkF m 166 #[.val (.int k0), .unset, .unset, .unset] [(.ref w_NOTE_ISSUANCE_FACILITY), (.int (23 : Int32)), (.ref b7), (.ref b7)])) _
    refine st55 _ ?_
    show Steps p.tables e below (T55.setTop (mkF m 167 #[.val (.int k0), .unset, .unset, .unset] [(.ref b7)])) _
    refine XS.dup X55.here hx rfl (hb hby at_167) rfl rfl ?_
    show Steps p.tables e below (T55.setTop (mkF m 168 #[.val (.int k0), .unset, .unset, .unset] [(.ref b7), (.ref b7)])) _
    refine XS.bipush X55.here hx rfl (hb hby at_168) ?_
    show Steps p.tables e below (T55.setTop (mkF m 170 #[.val (.int k0), .unset, .unset, .unset] [(.int (24 : Int32)), (.ref b7), (.ref b7)])) _
    refine st56 _ ?_
    show Steps p.tables e below (T56.setTop (mkF m 173 #[.val (.int k0), .unset, .unset, .unset] [(.ref w_FORWARD_PURCHASE), (.int (24 : Int32)), (.ref b7), (.ref b7)])) _
    refine st57 _ ?_
    show Steps p.tables e below (T57.setTop (mkF m 174 #[.val (.int k0), .unset, .unset, .unset] [(.ref b7)])) _
    refine XS.dup X57.here hx rfl (hb hby at_174) rfl rfl ?_
    show Steps p.tables e below (T57.setTop (mkF m 175 #[.val (.int k0), .unset, .unset, .unset] [(.ref b7), (.ref b7)])) _
    refine XS.bipush X57.here hx rfl (hb hby at_175) ?_
    show Steps p.tables e below (T57.setTop (mkF m 177 #[.val (.int k0), .unset, .unset, .unset] [(.int (25 : Int32)), (.ref b7), (.ref b7)])) _
    refine st58 _ ?_
    show Steps p.tables e below (T58.setTop (mkF m 180 #[.val (.int k0), .unset, .unset, .unset] [(.ref w_OTHER_OFF_BALANCE), (.int (25 : Int32)), (.ref b7), (.ref b7)])) _
    refine st59 _ ?_
    show Steps p.tables e below (T59.setTop (mkF m 181 #[.val (.int k0), .unset, .unset, .unset] [(.ref b7)])) _
    refine XS.astoreN X59.here hx rfl (hb hby at_181) rfl rfl (l' := #[.val (.int k0), .val (.ref b7), .unset, .unset]) rfl ?_
    show Steps p.tables e below (T59.setTop (mkF m 182 #[.val (.int k0), .val (.ref b7), .unset, .unset] [])) _
    refine XS.iloadN X59.here hx rfl (hb hby at_182) rfl ?_
    show Steps p.tables e below (T59.setTop (mkF m 183 #[.val (.int k0), .val (.ref b7), .unset, .unset] [(.int k0)])) _
    refine X59.ldcInt hx hown (mvT hZ (hw _ (List.mem_of_getElem? (i := 56) rfl))) (g := (mkF m 183 #[.val (.int k0), .val (.ref b7), .unset, .unset] [(.int k0)])) rfl (hb hby at_183) _ ?_
    show Steps p.tables e below (T59.setTop (mkF m 185 #[.val (.int k0), .val (.ref b7), .unset, .unset] [(.int (2147483647 : Int32)), (.int k0)])) _
    refine XS.iand X59.here hx rfl (hb hby at_185) rfl ?_
    show Steps p.tables e below (T59.setTop (mkF m 186 #[.val (.int k0), .val (.ref b7), .unset, .unset] [(.int (k0 &&& (2147483647 : Int32)))])) _
    refine XS.bipush X59.here hx rfl (hb hby at_186) ?_
    show Steps p.tables e below (T59.setTop (mkF m 188 #[.val (.int k0), .val (.ref b7), .unset, .unset] [(.int (26 : Int32)), (.int (k0 &&& (2147483647 : Int32)))])) _
    refine iremM X59 hx rfl (hb hby at_188) rfl (by decide) ?_
    show Steps p.tables e below (T59.setTop (mkF m 189 #[.val (.int k0), .val (.ref b7), .unset, .unset] [(.int ((k0 &&& (2147483647 : Int32)) % (26 : Int32)))])) _
    refine XS.istoreN X59.here hx rfl (hb hby at_189) rfl (l' := #[.val (.int k0), .val (.ref b7), .val (.int ((k0 &&& (2147483647 : Int32)) % (26 : Int32))), .unset]) rfl ?_
    show Steps p.tables e below (T59.setTop (mkF m 190 #[.val (.int k0), .val (.ref b7), .val (.int ((k0 &&& (2147483647 : Int32)) % (26 : Int32))), .unset] [])) _
    exact k_)
  obtain ⟨LL61, X61, N61⟩ : ∃ LL, Stand p l e room_1 s m #[(.int k0)] below meth c T59 LL 1 26 ∧ Fr n0 LL := ⟨_, X59, N59⟩
  obtain ⟨cl, Ar, -, Sz, -, Hs, -⟩ := V59
  obtain ⟨nn, hnn, hix⟩ := own_rem k0 (26 : Int32) 26 (by decide) (by decide)
  rw [hix] at pre60
  rcases (by omega : nn = 0 ∨ nn = 1 ∨ nn = 2 ∨ nn = 3 ∨ nn = 4 ∨ nn = 5 ∨ nn = 6 ∨ nn = 7 ∨ nn = 8 ∨ nn = 9 ∨ nn = 10 ∨ nn = 11 ∨ nn = 12 ∨ nn = 13 ∨ nn = 14 ∨ nn = 15 ∨ nn = 16 ∨ nn = 17 ∨ nn = 18 ∨ nn = 19 ∨ nn = 20 ∨ nn = 21 ∨ nn = 22 ∨ nn = 23 ∨ nn = 24 ∨ nn = 25) with rfl | rfl | rfl | rfl | rfl | rfl | rfl | rfl | rfl | rfl | rfl | rfl | rfl | rfl | rfl | rfl | rfl | rfl | rfl | rfl | rfl | rfl | rfl | rfl | rfl | rfl
  · obtain ⟨cq62, kq62, q62a, q62b, q62c⟩ := isOf hZ e59 (E_LOAN.ext O59)
    obtain ⟨v62, _, ⟨T62, L62, k62, n62⟩, -, X62, ⟨Lc62, hQ62, l62, y62, z62⟩, st62⟩ := X61.virtualBack hx (y := (⟨"com/example/ponderat/ponderat/Item", "isOffBalance", "()Z"⟩ : MethodName)) (z := (⟨"com/example/ponderat/ponderat/Item", "isOffBalance", "()Z"⟩ : MethodName)) hown (mvT hZ (hw _ (List.mem_of_getElem? (i := 57) rfl))) (mvT hZ (hw _ (List.mem_of_getElem? (i := 58) rfl))) (notFace_of_selects (args := #[]) (mvT hZ (hw _ (List.mem_of_getElem? (i := 60) rfl)))) (mvT hZ (hw _ (List.mem_of_getElem? (i := 60) rfl))) (mvT hZ (hw _ (List.mem_of_getElem? (i := 59) rfl))) (by decide) (backOf (W := 0) (rm_1 l Z a0 hw [] w_LOAN w_ON_BALANCE w_OFF_BALANCE h59 n0 (Nat.le_trans Z0 O59.1) (F_LOAN_kind.ext O59) (S_OFF_BALANCE.ext O59)) hZ (hw _ (List.mem_of_getElem? (i := 61) rfl)) (hw _ (List.mem_of_getElem? (i := 3) rfl)) (by decide) (by decide)) q62a q62c (g := (mkF m 205 #[.val (.int k0), .val (.ref b7), .val (.int (0 : Int32)), .val (.int (0 : Int32))] [(.ref w_LOAN)])) rfl (by rw [hml]; rfl) (Steps.refl _) (argsL := []) (rest := []) (lenOf pd_0 rfl) rfl (by show 2 * 0 + _ ≤ _; exact Nat.le_of_eq rfl) (hb hby at_205) (fun _ _ => ⟨rfl, e59, (by decide : 1 + 0 ≤ _), (by decide : 26 + 0 ≤ _)⟩)
    dsimp only [Pt.U, Pt.locs, Pt.cells, Pt.slots] at X62 l62 y62 z62 st62 hQ62
    subst l62 y62 z62
    obtain ⟨hv62, N62q, e62⟩ := hQ62
    have N62 := Fr.app N61 N62q
    have hw62 : v62 = some (.int (0 : Int32)) := hv62.trans (by rw [if_neg n_ON_BALANCE])
    subst hw62
    have pre63 : ∀ t_, Steps p.tables e below (T62.setTop (mkF m 217 #[.val (.int k0), .val (.ref b7), .val (.int (0 : Int32)), .val (.int (0 : Int32))] [(.int (1 : Int32))])) t_ → Steps p.tables e below (s₁.setTop (entryFrame m #[(.int k0)] maxLocals)) t_ := fun t_ k_ => pre60 t_ (by
      show Steps p.tables e below (T59.setTop (mkF m 190 #[.val (.int k0), .val (.ref b7), .val (.int (0 : Int32)), .unset] [])) _
      refine XS.iloadN X61.here hx rfl (hb hby at_190) rfl ?_
      show Steps p.tables e below (T59.setTop (mkF m 191 #[.val (.int k0), .val (.ref b7), .val (.int (0 : Int32)), .unset] [(.int (0 : Int32))])) _
      refine XS.bipush X61.here hx rfl (hb hby at_191) ?_
      show Steps p.tables e below (T59.setTop (mkF m 193 #[.val (.int k0), .val (.ref b7), .val (.int (0 : Int32)), .unset] [(.int (19 : Int32)), (.int (0 : Int32))])) _
      refine XS.icmpYes X61.here hx rfl (pc0 := 193) (pc' := 200) rfl (hb hby at_193) rfl (tlt (by decide : (0 : Int32) < (19 : Int32))).1 (by decide) (by decide) ?_
      show Steps p.tables e below (T59.setTop (mkF m 200 #[.val (.int k0), .val (.ref b7), .val (.int (0 : Int32)), .unset] [])) _
      refine XS.iconst X61.here hx rfl (hb hby at_200) ?_
      show Steps p.tables e below (T59.setTop (mkF m 201 #[.val (.int k0), .val (.ref b7), .val (.int (0 : Int32)), .unset] [(.int (0 : Int32))])) _
      refine XS.istoreN X61.here hx rfl (hb hby at_201) rfl (l' := #[.val (.int k0), .val (.ref b7), .val (.int (0 : Int32)), .val (.int (0 : Int32))]) rfl ?_
      show Steps p.tables e below (T59.setTop (mkF m 202 #[.val (.int k0), .val (.ref b7), .val (.int (0 : Int32)), .val (.int (0 : Int32))] [])) _
      refine XS.aloadN X61.here hx rfl (hb hby at_202) rfl rfl ?_
      show Steps p.tables e below (T59.setTop (mkF m 203 #[.val (.int k0), .val (.ref b7), .val (.int (0 : Int32)), .val (.int (0 : Int32))] [(.ref b7)])) _
      refine XS.iloadN X61.here hx rfl (hb hby at_203) rfl ?_
      show Steps p.tables e below (T59.setTop (mkF m 204 #[.val (.int k0), .val (.ref b7), .val (.int (0 : Int32)), .val (.int (0 : Int32))] [(.int (0 : Int32)), (.ref b7)])) _
      refine X61.aaload hx (j := (0 : Int32)) (v := (.ref w_LOAN)) (by rw [e59]; exact Ar.1) (State.isArrayOf_alike hZ.alike Ar.2.1) rfl Ar.2.2 (inb_of Sz ⟨by decide, by decide⟩) (Has.at Hs (j := (0 : Int32)) (inb_of Sz ⟨by decide, by decide⟩) rfl) (g := (mkF m 204 #[.val (.int k0), .val (.ref b7), .val (.int (0 : Int32)), .val (.int (0 : Int32))] [(.int (0 : Int32)), (.ref b7)])) rfl rfl (hb hby at_204) _ ?_
      show Steps p.tables e below (T59.setTop (mkF m 205 #[.val (.int k0), .val (.ref b7), .val (.int (0 : Int32)), .val (.int (0 : Int32))] [(.ref w_LOAN)])) _
      refine st62.trans ?_
      show Steps p.tables e below (T62.setTop (mkF m 208 #[.val (.int k0), .val (.ref b7), .val (.int (0 : Int32)), .val (.int (0 : Int32))] [(.int (0 : Int32))])) _
      refine XS.iloadN X62.here hx rfl (hb hby at_208) rfl ?_
      show Steps p.tables e below (T62.setTop (mkF m 209 #[.val (.int k0), .val (.ref b7), .val (.int (0 : Int32)), .val (.int (0 : Int32))] [(.int (0 : Int32)), (.int (0 : Int32))])) _
      refine XS.icmpNo X62.here hx rfl (hb hby at_209) rfl (teq (rfl : (0 : Int32) = (0 : Int32))).2 ?_
      show Steps p.tables e below (T62.setTop (mkF m 212 #[.val (.int k0), .val (.ref b7), .val (.int (0 : Int32)), .val (.int (0 : Int32))] [])) _
      refine XS.iconst X62.here hx rfl (hb hby at_212) ?_
      show Steps p.tables e below (T62.setTop (mkF m 213 #[.val (.int k0), .val (.ref b7), .val (.int (0 : Int32)), .val (.int (0 : Int32))] [(.int (1 : Int32))])) _
      refine XS.goto X62.here hx rfl (pc0 := 213) (pc' := 217) rfl (hb hby at_213) (by decide) (by decide) ?_
      show Steps p.tables e below (T62.setTop (mkF m 217 #[.val (.int k0), .val (.ref b7), .val (.int (0 : Int32)), .val (.int (0 : Int32))] [(.int (1 : Int32))])) _
      exact k_)
    obtain ⟨fs, hr, hrun, hended, hW, hsame⟩ := X62.leave (v := some (.int (1 : Int32))) (fun h => by rw [Bd.returns] at h; cases h)
    refine ⟨_, _, pre63 _ ?_, hrun, hended, _, _, rfl, ?_, ⟨_, rfl⟩, hW, hsame.mono (by decide) (by decide)⟩
    · show Steps p.tables e below (T62.setTop (mkF m 217 #[.val (.int k0), .val (.ref b7), .val (.int (0 : Int32)), .val (.int (0 : Int32))] [(.int (1 : Int32))])) _
      exact retN X62 hx (t := .boolean) Bd.returns (by simp) (hb hby at_217) hr
    · show Q_0 Z k0 w_LOAN w_DEBT_SECURITY w_DEPOSIT w_MANDATORY_RESERVE w_TRADE_FINANCE w_VENTURE_CAPITAL w_PRIVATE_EQUITY w_ALTERNATIVE_INVESTMENT_FUND w_SPECULATIVE_REAL_ESTATE w_EQUITY w_CIU_UNIT w_SECURITISATION_POSITION w_CASH w_CASH_IN_COLLECTION w_GOLD w_TANGIBLE_ASSET w_REPOSSESSED_ASSET w_UNIDENTIFIED_PREPAYMENT w_LEASE_RESIDUAL_VALUE w_GUARANTEE w_LETTER_OF_CREDIT w_UNDRAWN_COMMITMENT w_ACCEPTANCE w_NOTE_ISSUANCE_FACILITY w_FORWARD_PURCHASE w_OTHER_OFF_BALANCE w_ON_BALANCE w_OFF_BALANCE w_NO_COUNTERPARTY h0 n0 _ T62.heap _
      rw [e62]
      exact ⟨rfl, N62⟩
  · obtain ⟨cq64, kq64, q64a, q64b, q64c⟩ := isOf hZ e59 (E_DEBT_SECURITY.ext O59)
    obtain ⟨v64, _, ⟨T64, L64, k64, n64⟩, -, X64, ⟨Lc64, hQ64, l64, y64, z64⟩, st64⟩ := X61.virtualBack hx (y := (⟨"com/example/ponderat/ponderat/Item", "isOffBalance", "()Z"⟩ : MethodName)) (z := (⟨"com/example/ponderat/ponderat/Item", "isOffBalance", "()Z"⟩ : MethodName)) hown (mvT hZ (hw _ (List.mem_of_getElem? (i := 57) rfl))) (mvT hZ (hw _ (List.mem_of_getElem? (i := 58) rfl))) (notFace_of_selects (args := #[]) (mvT hZ (hw _ (List.mem_of_getElem? (i := 60) rfl)))) (mvT hZ (hw _ (List.mem_of_getElem? (i := 60) rfl))) (mvT hZ (hw _ (List.mem_of_getElem? (i := 59) rfl))) (by decide) (backOf (W := 0) (rm_1 l Z a0 hw [] w_DEBT_SECURITY w_ON_BALANCE w_OFF_BALANCE h59 n0 (Nat.le_trans Z0 O59.1) (F_DEBT_SECURITY_kind.ext O59) (S_OFF_BALANCE.ext O59)) hZ (hw _ (List.mem_of_getElem? (i := 61) rfl)) (hw _ (List.mem_of_getElem? (i := 3) rfl)) (by decide) (by decide)) q64a q64c (g := (mkF m 205 #[.val (.int k0), .val (.ref b7), .val (.int (1 : Int32)), .val (.int (0 : Int32))] [(.ref w_DEBT_SECURITY)])) rfl (by rw [hml]; rfl) (Steps.refl _) (argsL := []) (rest := []) (lenOf pd_0 rfl) rfl (by show 2 * 0 + _ ≤ _; exact Nat.le_of_eq rfl) (hb hby at_205) (fun _ _ => ⟨rfl, e59, (by decide : 1 + 0 ≤ _), (by decide : 26 + 0 ≤ _)⟩)
    dsimp only [Pt.U, Pt.locs, Pt.cells, Pt.slots] at X64 l64 y64 z64 st64 hQ64
    subst l64 y64 z64
    obtain ⟨hv64, N64q, e64⟩ := hQ64
    have N64 := Fr.app N61 N64q
    have hw64 : v64 = some (.int (0 : Int32)) := hv64.trans (by rw [if_neg n_ON_BALANCE])
    subst hw64
    have pre65 : ∀ t_, Steps p.tables e below (T64.setTop (mkF m 217 #[.val (.int k0), .val (.ref b7), .val (.int (1 : Int32)), .val (.int (0 : Int32))] [(.int (1 : Int32))])) t_ → Steps p.tables e below (s₁.setTop (entryFrame m #[(.int k0)] maxLocals)) t_ := fun t_ k_ => pre60 t_ (by
      show Steps p.tables e below (T59.setTop (mkF m 190 #[.val (.int k0), .val (.ref b7), .val (.int (1 : Int32)), .unset] [])) _
      refine XS.iloadN X61.here hx rfl (hb hby at_190) rfl ?_
      show Steps p.tables e below (T59.setTop (mkF m 191 #[.val (.int k0), .val (.ref b7), .val (.int (1 : Int32)), .unset] [(.int (1 : Int32))])) _
      refine XS.bipush X61.here hx rfl (hb hby at_191) ?_
      show Steps p.tables e below (T59.setTop (mkF m 193 #[.val (.int k0), .val (.ref b7), .val (.int (1 : Int32)), .unset] [(.int (19 : Int32)), (.int (1 : Int32))])) _
      refine XS.icmpYes X61.here hx rfl (pc0 := 193) (pc' := 200) rfl (hb hby at_193) rfl (tlt (by decide : (1 : Int32) < (19 : Int32))).1 (by decide) (by decide) ?_
      show Steps p.tables e below (T59.setTop (mkF m 200 #[.val (.int k0), .val (.ref b7), .val (.int (1 : Int32)), .unset] [])) _
      refine XS.iconst X61.here hx rfl (hb hby at_200) ?_
      show Steps p.tables e below (T59.setTop (mkF m 201 #[.val (.int k0), .val (.ref b7), .val (.int (1 : Int32)), .unset] [(.int (0 : Int32))])) _
      refine XS.istoreN X61.here hx rfl (hb hby at_201) rfl (l' := #[.val (.int k0), .val (.ref b7), .val (.int (1 : Int32)), .val (.int (0 : Int32))]) rfl ?_
      show Steps p.tables e below (T59.setTop (mkF m 202 #[.val (.int k0), .val (.ref b7), .val (.int (1 : Int32)), .val (.int (0 : Int32))] [])) _
      refine XS.aloadN X61.here hx rfl (hb hby at_202) rfl rfl ?_
      show Steps p.tables e below (T59.setTop (mkF m 203 #[.val (.int k0), .val (.ref b7), .val (.int (1 : Int32)), .val (.int (0 : Int32))] [(.ref b7)])) _
      refine XS.iloadN X61.here hx rfl (hb hby at_203) rfl ?_
      show Steps p.tables e below (T59.setTop (mkF m 204 #[.val (.int k0), .val (.ref b7), .val (.int (1 : Int32)), .val (.int (0 : Int32))] [(.int (1 : Int32)), (.ref b7)])) _
      refine X61.aaload hx (j := (1 : Int32)) (v := (.ref w_DEBT_SECURITY)) (by rw [e59]; exact Ar.1) (State.isArrayOf_alike hZ.alike Ar.2.1) rfl Ar.2.2 (inb_of Sz ⟨by decide, by decide⟩) (Has.at Hs (j := (1 : Int32)) (inb_of Sz ⟨by decide, by decide⟩) rfl) (g := (mkF m 204 #[.val (.int k0), .val (.ref b7), .val (.int (1 : Int32)), .val (.int (0 : Int32))] [(.int (1 : Int32)), (.ref b7)])) rfl rfl (hb hby at_204) _ ?_
      show Steps p.tables e below (T59.setTop (mkF m 205 #[.val (.int k0), .val (.ref b7), .val (.int (1 : Int32)), .val (.int (0 : Int32))] [(.ref w_DEBT_SECURITY)])) _
      refine st64.trans ?_
      show Steps p.tables e below (T64.setTop (mkF m 208 #[.val (.int k0), .val (.ref b7), .val (.int (1 : Int32)), .val (.int (0 : Int32))] [(.int (0 : Int32))])) _
      refine XS.iloadN X64.here hx rfl (hb hby at_208) rfl ?_
      show Steps p.tables e below (T64.setTop (mkF m 209 #[.val (.int k0), .val (.ref b7), .val (.int (1 : Int32)), .val (.int (0 : Int32))] [(.int (0 : Int32)), (.int (0 : Int32))])) _
      refine XS.icmpNo X64.here hx rfl (hb hby at_209) rfl (teq (rfl : (0 : Int32) = (0 : Int32))).2 ?_
      show Steps p.tables e below (T64.setTop (mkF m 212 #[.val (.int k0), .val (.ref b7), .val (.int (1 : Int32)), .val (.int (0 : Int32))] [])) _
      refine XS.iconst X64.here hx rfl (hb hby at_212) ?_
      show Steps p.tables e below (T64.setTop (mkF m 213 #[.val (.int k0), .val (.ref b7), .val (.int (1 : Int32)), .val (.int (0 : Int32))] [(.int (1 : Int32))])) _
      refine XS.goto X64.here hx rfl (pc0 := 213) (pc' := 217) rfl (hb hby at_213) (by decide) (by decide) ?_
      show Steps p.tables e below (T64.setTop (mkF m 217 #[.val (.int k0), .val (.ref b7), .val (.int (1 : Int32)), .val (.int (0 : Int32))] [(.int (1 : Int32))])) _
      exact k_)
    obtain ⟨fs, hr, hrun, hended, hW, hsame⟩ := X64.leave (v := some (.int (1 : Int32))) (fun h => by rw [Bd.returns] at h; cases h)
    refine ⟨_, _, pre65 _ ?_, hrun, hended, _, _, rfl, ?_, ⟨_, rfl⟩, hW, hsame.mono (by decide) (by decide)⟩
    · show Steps p.tables e below (T64.setTop (mkF m 217 #[.val (.int k0), .val (.ref b7), .val (.int (1 : Int32)), .val (.int (0 : Int32))] [(.int (1 : Int32))])) _
      exact retN X64 hx (t := .boolean) Bd.returns (by simp) (hb hby at_217) hr
    · show Q_0 Z k0 w_LOAN w_DEBT_SECURITY w_DEPOSIT w_MANDATORY_RESERVE w_TRADE_FINANCE w_VENTURE_CAPITAL w_PRIVATE_EQUITY w_ALTERNATIVE_INVESTMENT_FUND w_SPECULATIVE_REAL_ESTATE w_EQUITY w_CIU_UNIT w_SECURITISATION_POSITION w_CASH w_CASH_IN_COLLECTION w_GOLD w_TANGIBLE_ASSET w_REPOSSESSED_ASSET w_UNIDENTIFIED_PREPAYMENT w_LEASE_RESIDUAL_VALUE w_GUARANTEE w_LETTER_OF_CREDIT w_UNDRAWN_COMMITMENT w_ACCEPTANCE w_NOTE_ISSUANCE_FACILITY w_FORWARD_PURCHASE w_OTHER_OFF_BALANCE w_ON_BALANCE w_OFF_BALANCE w_NO_COUNTERPARTY h0 n0 _ T64.heap _
      rw [e64]
      exact ⟨rfl, N64⟩
  · obtain ⟨cq66, kq66, q66a, q66b, q66c⟩ := isOf hZ e59 (E_DEPOSIT.ext O59)
    obtain ⟨v66, _, ⟨T66, L66, k66, n66⟩, -, X66, ⟨Lc66, hQ66, l66, y66, z66⟩, st66⟩ := X61.virtualBack hx (y := (⟨"com/example/ponderat/ponderat/Item", "isOffBalance", "()Z"⟩ : MethodName)) (z := (⟨"com/example/ponderat/ponderat/Item", "isOffBalance", "()Z"⟩ : MethodName)) hown (mvT hZ (hw _ (List.mem_of_getElem? (i := 57) rfl))) (mvT hZ (hw _ (List.mem_of_getElem? (i := 58) rfl))) (notFace_of_selects (args := #[]) (mvT hZ (hw _ (List.mem_of_getElem? (i := 60) rfl)))) (mvT hZ (hw _ (List.mem_of_getElem? (i := 60) rfl))) (mvT hZ (hw _ (List.mem_of_getElem? (i := 59) rfl))) (by decide) (backOf (W := 0) (rm_1 l Z a0 hw [] w_DEPOSIT w_ON_BALANCE w_OFF_BALANCE h59 n0 (Nat.le_trans Z0 O59.1) (F_DEPOSIT_kind.ext O59) (S_OFF_BALANCE.ext O59)) hZ (hw _ (List.mem_of_getElem? (i := 61) rfl)) (hw _ (List.mem_of_getElem? (i := 3) rfl)) (by decide) (by decide)) q66a q66c (g := (mkF m 205 #[.val (.int k0), .val (.ref b7), .val (.int (2 : Int32)), .val (.int (0 : Int32))] [(.ref w_DEPOSIT)])) rfl (by rw [hml]; rfl) (Steps.refl _) (argsL := []) (rest := []) (lenOf pd_0 rfl) rfl (by show 2 * 0 + _ ≤ _; exact Nat.le_of_eq rfl) (hb hby at_205) (fun _ _ => ⟨rfl, e59, (by decide : 1 + 0 ≤ _), (by decide : 26 + 0 ≤ _)⟩)
    dsimp only [Pt.U, Pt.locs, Pt.cells, Pt.slots] at X66 l66 y66 z66 st66 hQ66
    subst l66 y66 z66
    obtain ⟨hv66, N66q, e66⟩ := hQ66
    have N66 := Fr.app N61 N66q
    have hw66 : v66 = some (.int (0 : Int32)) := hv66.trans (by rw [if_neg n_ON_BALANCE])
    subst hw66
    have pre67 : ∀ t_, Steps p.tables e below (T66.setTop (mkF m 217 #[.val (.int k0), .val (.ref b7), .val (.int (2 : Int32)), .val (.int (0 : Int32))] [(.int (1 : Int32))])) t_ → Steps p.tables e below (s₁.setTop (entryFrame m #[(.int k0)] maxLocals)) t_ := fun t_ k_ => pre60 t_ (by
      show Steps p.tables e below (T59.setTop (mkF m 190 #[.val (.int k0), .val (.ref b7), .val (.int (2 : Int32)), .unset] [])) _
      refine XS.iloadN X61.here hx rfl (hb hby at_190) rfl ?_
      show Steps p.tables e below (T59.setTop (mkF m 191 #[.val (.int k0), .val (.ref b7), .val (.int (2 : Int32)), .unset] [(.int (2 : Int32))])) _
      refine XS.bipush X61.here hx rfl (hb hby at_191) ?_
      show Steps p.tables e below (T59.setTop (mkF m 193 #[.val (.int k0), .val (.ref b7), .val (.int (2 : Int32)), .unset] [(.int (19 : Int32)), (.int (2 : Int32))])) _
      refine XS.icmpYes X61.here hx rfl (pc0 := 193) (pc' := 200) rfl (hb hby at_193) rfl (tlt (by decide : (2 : Int32) < (19 : Int32))).1 (by decide) (by decide) ?_
      show Steps p.tables e below (T59.setTop (mkF m 200 #[.val (.int k0), .val (.ref b7), .val (.int (2 : Int32)), .unset] [])) _
      refine XS.iconst X61.here hx rfl (hb hby at_200) ?_
      show Steps p.tables e below (T59.setTop (mkF m 201 #[.val (.int k0), .val (.ref b7), .val (.int (2 : Int32)), .unset] [(.int (0 : Int32))])) _
      refine XS.istoreN X61.here hx rfl (hb hby at_201) rfl (l' := #[.val (.int k0), .val (.ref b7), .val (.int (2 : Int32)), .val (.int (0 : Int32))]) rfl ?_
      show Steps p.tables e below (T59.setTop (mkF m 202 #[.val (.int k0), .val (.ref b7), .val (.int (2 : Int32)), .val (.int (0 : Int32))] [])) _
      refine XS.aloadN X61.here hx rfl (hb hby at_202) rfl rfl ?_
      show Steps p.tables e below (T59.setTop (mkF m 203 #[.val (.int k0), .val (.ref b7), .val (.int (2 : Int32)), .val (.int (0 : Int32))] [(.ref b7)])) _
      refine XS.iloadN X61.here hx rfl (hb hby at_203) rfl ?_
      show Steps p.tables e below (T59.setTop (mkF m 204 #[.val (.int k0), .val (.ref b7), .val (.int (2 : Int32)), .val (.int (0 : Int32))] [(.int (2 : Int32)), (.ref b7)])) _
      refine X61.aaload hx (j := (2 : Int32)) (v := (.ref w_DEPOSIT)) (by rw [e59]; exact Ar.1) (State.isArrayOf_alike hZ.alike Ar.2.1) rfl Ar.2.2 (inb_of Sz ⟨by decide, by decide⟩) (Has.at Hs (j := (2 : Int32)) (inb_of Sz ⟨by decide, by decide⟩) rfl) (g := (mkF m 204 #[.val (.int k0), .val (.ref b7), .val (.int (2 : Int32)), .val (.int (0 : Int32))] [(.int (2 : Int32)), (.ref b7)])) rfl rfl (hb hby at_204) _ ?_
      show Steps p.tables e below (T59.setTop (mkF m 205 #[.val (.int k0), .val (.ref b7), .val (.int (2 : Int32)), .val (.int (0 : Int32))] [(.ref w_DEPOSIT)])) _
      refine st66.trans ?_
      show Steps p.tables e below (T66.setTop (mkF m 208 #[.val (.int k0), .val (.ref b7), .val (.int (2 : Int32)), .val (.int (0 : Int32))] [(.int (0 : Int32))])) _
      refine XS.iloadN X66.here hx rfl (hb hby at_208) rfl ?_
      show Steps p.tables e below (T66.setTop (mkF m 209 #[.val (.int k0), .val (.ref b7), .val (.int (2 : Int32)), .val (.int (0 : Int32))] [(.int (0 : Int32)), (.int (0 : Int32))])) _
      refine XS.icmpNo X66.here hx rfl (hb hby at_209) rfl (teq (rfl : (0 : Int32) = (0 : Int32))).2 ?_
      show Steps p.tables e below (T66.setTop (mkF m 212 #[.val (.int k0), .val (.ref b7), .val (.int (2 : Int32)), .val (.int (0 : Int32))] [])) _
      refine XS.iconst X66.here hx rfl (hb hby at_212) ?_
      show Steps p.tables e below (T66.setTop (mkF m 213 #[.val (.int k0), .val (.ref b7), .val (.int (2 : Int32)), .val (.int (0 : Int32))] [(.int (1 : Int32))])) _
      refine XS.goto X66.here hx rfl (pc0 := 213) (pc' := 217) rfl (hb hby at_213) (by decide) (by decide) ?_
      show Steps p.tables e below (T66.setTop (mkF m 217 #[.val (.int k0), .val (.ref b7), .val (.int (2 : Int32)), .val (.int (0 : Int32))] [(.int (1 : Int32))])) _
      exact k_)
    obtain ⟨fs, hr, hrun, hended, hW, hsame⟩ := X66.leave (v := some (.int (1 : Int32))) (fun h => by rw [Bd.returns] at h; cases h)
    refine ⟨_, _, pre67 _ ?_, hrun, hended, _, _, rfl, ?_, ⟨_, rfl⟩, hW, hsame.mono (by decide) (by decide)⟩
    · show Steps p.tables e below (T66.setTop (mkF m 217 #[.val (.int k0), .val (.ref b7), .val (.int (2 : Int32)), .val (.int (0 : Int32))] [(.int (1 : Int32))])) _
      exact retN X66 hx (t := .boolean) Bd.returns (by simp) (hb hby at_217) hr
    · show Q_0 Z k0 w_LOAN w_DEBT_SECURITY w_DEPOSIT w_MANDATORY_RESERVE w_TRADE_FINANCE w_VENTURE_CAPITAL w_PRIVATE_EQUITY w_ALTERNATIVE_INVESTMENT_FUND w_SPECULATIVE_REAL_ESTATE w_EQUITY w_CIU_UNIT w_SECURITISATION_POSITION w_CASH w_CASH_IN_COLLECTION w_GOLD w_TANGIBLE_ASSET w_REPOSSESSED_ASSET w_UNIDENTIFIED_PREPAYMENT w_LEASE_RESIDUAL_VALUE w_GUARANTEE w_LETTER_OF_CREDIT w_UNDRAWN_COMMITMENT w_ACCEPTANCE w_NOTE_ISSUANCE_FACILITY w_FORWARD_PURCHASE w_OTHER_OFF_BALANCE w_ON_BALANCE w_OFF_BALANCE w_NO_COUNTERPARTY h0 n0 _ T66.heap _
      rw [e66]
      exact ⟨rfl, N66⟩
  · obtain ⟨cq68, kq68, q68a, q68b, q68c⟩ := isOf hZ e59 (E_MANDATORY_RESERVE.ext O59)
    obtain ⟨v68, _, ⟨T68, L68, k68, n68⟩, -, X68, ⟨Lc68, hQ68, l68, y68, z68⟩, st68⟩ := X61.virtualBack hx (y := (⟨"com/example/ponderat/ponderat/Item", "isOffBalance", "()Z"⟩ : MethodName)) (z := (⟨"com/example/ponderat/ponderat/Item", "isOffBalance", "()Z"⟩ : MethodName)) hown (mvT hZ (hw _ (List.mem_of_getElem? (i := 57) rfl))) (mvT hZ (hw _ (List.mem_of_getElem? (i := 58) rfl))) (notFace_of_selects (args := #[]) (mvT hZ (hw _ (List.mem_of_getElem? (i := 60) rfl)))) (mvT hZ (hw _ (List.mem_of_getElem? (i := 60) rfl))) (mvT hZ (hw _ (List.mem_of_getElem? (i := 59) rfl))) (by decide) (backOf (W := 0) (rm_1 l Z a0 hw [] w_MANDATORY_RESERVE w_ON_BALANCE w_OFF_BALANCE h59 n0 (Nat.le_trans Z0 O59.1) (F_MANDATORY_RESERVE_kind.ext O59) (S_OFF_BALANCE.ext O59)) hZ (hw _ (List.mem_of_getElem? (i := 61) rfl)) (hw _ (List.mem_of_getElem? (i := 3) rfl)) (by decide) (by decide)) q68a q68c (g := (mkF m 205 #[.val (.int k0), .val (.ref b7), .val (.int (3 : Int32)), .val (.int (0 : Int32))] [(.ref w_MANDATORY_RESERVE)])) rfl (by rw [hml]; rfl) (Steps.refl _) (argsL := []) (rest := []) (lenOf pd_0 rfl) rfl (by show 2 * 0 + _ ≤ _; exact Nat.le_of_eq rfl) (hb hby at_205) (fun _ _ => ⟨rfl, e59, (by decide : 1 + 0 ≤ _), (by decide : 26 + 0 ≤ _)⟩)
    dsimp only [Pt.U, Pt.locs, Pt.cells, Pt.slots] at X68 l68 y68 z68 st68 hQ68
    subst l68 y68 z68
    obtain ⟨hv68, N68q, e68⟩ := hQ68
    have N68 := Fr.app N61 N68q
    have hw68 : v68 = some (.int (0 : Int32)) := hv68.trans (by rw [if_neg n_ON_BALANCE])
    subst hw68
    have pre69 : ∀ t_, Steps p.tables e below (T68.setTop (mkF m 217 #[.val (.int k0), .val (.ref b7), .val (.int (3 : Int32)), .val (.int (0 : Int32))] [(.int (1 : Int32))])) t_ → Steps p.tables e below (s₁.setTop (entryFrame m #[(.int k0)] maxLocals)) t_ := fun t_ k_ => pre60 t_ (by
      show Steps p.tables e below (T59.setTop (mkF m 190 #[.val (.int k0), .val (.ref b7), .val (.int (3 : Int32)), .unset] [])) _
      refine XS.iloadN X61.here hx rfl (hb hby at_190) rfl ?_
      show Steps p.tables e below (T59.setTop (mkF m 191 #[.val (.int k0), .val (.ref b7), .val (.int (3 : Int32)), .unset] [(.int (3 : Int32))])) _
      refine XS.bipush X61.here hx rfl (hb hby at_191) ?_
      show Steps p.tables e below (T59.setTop (mkF m 193 #[.val (.int k0), .val (.ref b7), .val (.int (3 : Int32)), .unset] [(.int (19 : Int32)), (.int (3 : Int32))])) _
      refine XS.icmpYes X61.here hx rfl (pc0 := 193) (pc' := 200) rfl (hb hby at_193) rfl (tlt (by decide : (3 : Int32) < (19 : Int32))).1 (by decide) (by decide) ?_
      show Steps p.tables e below (T59.setTop (mkF m 200 #[.val (.int k0), .val (.ref b7), .val (.int (3 : Int32)), .unset] [])) _
      refine XS.iconst X61.here hx rfl (hb hby at_200) ?_
      show Steps p.tables e below (T59.setTop (mkF m 201 #[.val (.int k0), .val (.ref b7), .val (.int (3 : Int32)), .unset] [(.int (0 : Int32))])) _
      refine XS.istoreN X61.here hx rfl (hb hby at_201) rfl (l' := #[.val (.int k0), .val (.ref b7), .val (.int (3 : Int32)), .val (.int (0 : Int32))]) rfl ?_
      show Steps p.tables e below (T59.setTop (mkF m 202 #[.val (.int k0), .val (.ref b7), .val (.int (3 : Int32)), .val (.int (0 : Int32))] [])) _
      refine XS.aloadN X61.here hx rfl (hb hby at_202) rfl rfl ?_
      show Steps p.tables e below (T59.setTop (mkF m 203 #[.val (.int k0), .val (.ref b7), .val (.int (3 : Int32)), .val (.int (0 : Int32))] [(.ref b7)])) _
      refine XS.iloadN X61.here hx rfl (hb hby at_203) rfl ?_
      show Steps p.tables e below (T59.setTop (mkF m 204 #[.val (.int k0), .val (.ref b7), .val (.int (3 : Int32)), .val (.int (0 : Int32))] [(.int (3 : Int32)), (.ref b7)])) _
      refine X61.aaload hx (j := (3 : Int32)) (v := (.ref w_MANDATORY_RESERVE)) (by rw [e59]; exact Ar.1) (State.isArrayOf_alike hZ.alike Ar.2.1) rfl Ar.2.2 (inb_of Sz ⟨by decide, by decide⟩) (Has.at Hs (j := (3 : Int32)) (inb_of Sz ⟨by decide, by decide⟩) rfl) (g := (mkF m 204 #[.val (.int k0), .val (.ref b7), .val (.int (3 : Int32)), .val (.int (0 : Int32))] [(.int (3 : Int32)), (.ref b7)])) rfl rfl (hb hby at_204) _ ?_
      show Steps p.tables e below (T59.setTop (mkF m 205 #[.val (.int k0), .val (.ref b7), .val (.int (3 : Int32)), .val (.int (0 : Int32))] [(.ref w_MANDATORY_RESERVE)])) _
      refine st68.trans ?_
      show Steps p.tables e below (T68.setTop (mkF m 208 #[.val (.int k0), .val (.ref b7), .val (.int (3 : Int32)), .val (.int (0 : Int32))] [(.int (0 : Int32))])) _
      refine XS.iloadN X68.here hx rfl (hb hby at_208) rfl ?_
      show Steps p.tables e below (T68.setTop (mkF m 209 #[.val (.int k0), .val (.ref b7), .val (.int (3 : Int32)), .val (.int (0 : Int32))] [(.int (0 : Int32)), (.int (0 : Int32))])) _
      refine XS.icmpNo X68.here hx rfl (hb hby at_209) rfl (teq (rfl : (0 : Int32) = (0 : Int32))).2 ?_
      show Steps p.tables e below (T68.setTop (mkF m 212 #[.val (.int k0), .val (.ref b7), .val (.int (3 : Int32)), .val (.int (0 : Int32))] [])) _
      refine XS.iconst X68.here hx rfl (hb hby at_212) ?_
      show Steps p.tables e below (T68.setTop (mkF m 213 #[.val (.int k0), .val (.ref b7), .val (.int (3 : Int32)), .val (.int (0 : Int32))] [(.int (1 : Int32))])) _
      refine XS.goto X68.here hx rfl (pc0 := 213) (pc' := 217) rfl (hb hby at_213) (by decide) (by decide) ?_
      show Steps p.tables e below (T68.setTop (mkF m 217 #[.val (.int k0), .val (.ref b7), .val (.int (3 : Int32)), .val (.int (0 : Int32))] [(.int (1 : Int32))])) _
      exact k_)
    obtain ⟨fs, hr, hrun, hended, hW, hsame⟩ := X68.leave (v := some (.int (1 : Int32))) (fun h => by rw [Bd.returns] at h; cases h)
    refine ⟨_, _, pre69 _ ?_, hrun, hended, _, _, rfl, ?_, ⟨_, rfl⟩, hW, hsame.mono (by decide) (by decide)⟩
    · show Steps p.tables e below (T68.setTop (mkF m 217 #[.val (.int k0), .val (.ref b7), .val (.int (3 : Int32)), .val (.int (0 : Int32))] [(.int (1 : Int32))])) _
      exact retN X68 hx (t := .boolean) Bd.returns (by simp) (hb hby at_217) hr
    · show Q_0 Z k0 w_LOAN w_DEBT_SECURITY w_DEPOSIT w_MANDATORY_RESERVE w_TRADE_FINANCE w_VENTURE_CAPITAL w_PRIVATE_EQUITY w_ALTERNATIVE_INVESTMENT_FUND w_SPECULATIVE_REAL_ESTATE w_EQUITY w_CIU_UNIT w_SECURITISATION_POSITION w_CASH w_CASH_IN_COLLECTION w_GOLD w_TANGIBLE_ASSET w_REPOSSESSED_ASSET w_UNIDENTIFIED_PREPAYMENT w_LEASE_RESIDUAL_VALUE w_GUARANTEE w_LETTER_OF_CREDIT w_UNDRAWN_COMMITMENT w_ACCEPTANCE w_NOTE_ISSUANCE_FACILITY w_FORWARD_PURCHASE w_OTHER_OFF_BALANCE w_ON_BALANCE w_OFF_BALANCE w_NO_COUNTERPARTY h0 n0 _ T68.heap _
      rw [e68]
      exact ⟨rfl, N68⟩
  · obtain ⟨cq70, kq70, q70a, q70b, q70c⟩ := isOf hZ e59 (E_TRADE_FINANCE.ext O59)
    obtain ⟨v70, _, ⟨T70, L70, k70, n70⟩, -, X70, ⟨Lc70, hQ70, l70, y70, z70⟩, st70⟩ := X61.virtualBack hx (y := (⟨"com/example/ponderat/ponderat/Item", "isOffBalance", "()Z"⟩ : MethodName)) (z := (⟨"com/example/ponderat/ponderat/Item", "isOffBalance", "()Z"⟩ : MethodName)) hown (mvT hZ (hw _ (List.mem_of_getElem? (i := 57) rfl))) (mvT hZ (hw _ (List.mem_of_getElem? (i := 58) rfl))) (notFace_of_selects (args := #[]) (mvT hZ (hw _ (List.mem_of_getElem? (i := 60) rfl)))) (mvT hZ (hw _ (List.mem_of_getElem? (i := 60) rfl))) (mvT hZ (hw _ (List.mem_of_getElem? (i := 59) rfl))) (by decide) (backOf (W := 0) (rm_1 l Z a0 hw [] w_TRADE_FINANCE w_ON_BALANCE w_OFF_BALANCE h59 n0 (Nat.le_trans Z0 O59.1) (F_TRADE_FINANCE_kind.ext O59) (S_OFF_BALANCE.ext O59)) hZ (hw _ (List.mem_of_getElem? (i := 61) rfl)) (hw _ (List.mem_of_getElem? (i := 3) rfl)) (by decide) (by decide)) q70a q70c (g := (mkF m 205 #[.val (.int k0), .val (.ref b7), .val (.int (4 : Int32)), .val (.int (0 : Int32))] [(.ref w_TRADE_FINANCE)])) rfl (by rw [hml]; rfl) (Steps.refl _) (argsL := []) (rest := []) (lenOf pd_0 rfl) rfl (by show 2 * 0 + _ ≤ _; exact Nat.le_of_eq rfl) (hb hby at_205) (fun _ _ => ⟨rfl, e59, (by decide : 1 + 0 ≤ _), (by decide : 26 + 0 ≤ _)⟩)
    dsimp only [Pt.U, Pt.locs, Pt.cells, Pt.slots] at X70 l70 y70 z70 st70 hQ70
    subst l70 y70 z70
    obtain ⟨hv70, N70q, e70⟩ := hQ70
    have N70 := Fr.app N61 N70q
    have hw70 : v70 = some (.int (0 : Int32)) := hv70.trans (by rw [if_neg n_ON_BALANCE])
    subst hw70
    have pre71 : ∀ t_, Steps p.tables e below (T70.setTop (mkF m 217 #[.val (.int k0), .val (.ref b7), .val (.int (4 : Int32)), .val (.int (0 : Int32))] [(.int (1 : Int32))])) t_ → Steps p.tables e below (s₁.setTop (entryFrame m #[(.int k0)] maxLocals)) t_ := fun t_ k_ => pre60 t_ (by
      show Steps p.tables e below (T59.setTop (mkF m 190 #[.val (.int k0), .val (.ref b7), .val (.int (4 : Int32)), .unset] [])) _
      refine XS.iloadN X61.here hx rfl (hb hby at_190) rfl ?_
      show Steps p.tables e below (T59.setTop (mkF m 191 #[.val (.int k0), .val (.ref b7), .val (.int (4 : Int32)), .unset] [(.int (4 : Int32))])) _
      refine XS.bipush X61.here hx rfl (hb hby at_191) ?_
      show Steps p.tables e below (T59.setTop (mkF m 193 #[.val (.int k0), .val (.ref b7), .val (.int (4 : Int32)), .unset] [(.int (19 : Int32)), (.int (4 : Int32))])) _
      refine XS.icmpYes X61.here hx rfl (pc0 := 193) (pc' := 200) rfl (hb hby at_193) rfl (tlt (by decide : (4 : Int32) < (19 : Int32))).1 (by decide) (by decide) ?_
      show Steps p.tables e below (T59.setTop (mkF m 200 #[.val (.int k0), .val (.ref b7), .val (.int (4 : Int32)), .unset] [])) _
      refine XS.iconst X61.here hx rfl (hb hby at_200) ?_
      show Steps p.tables e below (T59.setTop (mkF m 201 #[.val (.int k0), .val (.ref b7), .val (.int (4 : Int32)), .unset] [(.int (0 : Int32))])) _
      refine XS.istoreN X61.here hx rfl (hb hby at_201) rfl (l' := #[.val (.int k0), .val (.ref b7), .val (.int (4 : Int32)), .val (.int (0 : Int32))]) rfl ?_
      show Steps p.tables e below (T59.setTop (mkF m 202 #[.val (.int k0), .val (.ref b7), .val (.int (4 : Int32)), .val (.int (0 : Int32))] [])) _
      refine XS.aloadN X61.here hx rfl (hb hby at_202) rfl rfl ?_
      show Steps p.tables e below (T59.setTop (mkF m 203 #[.val (.int k0), .val (.ref b7), .val (.int (4 : Int32)), .val (.int (0 : Int32))] [(.ref b7)])) _
      refine XS.iloadN X61.here hx rfl (hb hby at_203) rfl ?_
      show Steps p.tables e below (T59.setTop (mkF m 204 #[.val (.int k0), .val (.ref b7), .val (.int (4 : Int32)), .val (.int (0 : Int32))] [(.int (4 : Int32)), (.ref b7)])) _
      refine X61.aaload hx (j := (4 : Int32)) (v := (.ref w_TRADE_FINANCE)) (by rw [e59]; exact Ar.1) (State.isArrayOf_alike hZ.alike Ar.2.1) rfl Ar.2.2 (inb_of Sz ⟨by decide, by decide⟩) (Has.at Hs (j := (4 : Int32)) (inb_of Sz ⟨by decide, by decide⟩) rfl) (g := (mkF m 204 #[.val (.int k0), .val (.ref b7), .val (.int (4 : Int32)), .val (.int (0 : Int32))] [(.int (4 : Int32)), (.ref b7)])) rfl rfl (hb hby at_204) _ ?_
      show Steps p.tables e below (T59.setTop (mkF m 205 #[.val (.int k0), .val (.ref b7), .val (.int (4 : Int32)), .val (.int (0 : Int32))] [(.ref w_TRADE_FINANCE)])) _
      refine st70.trans ?_
      show Steps p.tables e below (T70.setTop (mkF m 208 #[.val (.int k0), .val (.ref b7), .val (.int (4 : Int32)), .val (.int (0 : Int32))] [(.int (0 : Int32))])) _
      refine XS.iloadN X70.here hx rfl (hb hby at_208) rfl ?_
      show Steps p.tables e below (T70.setTop (mkF m 209 #[.val (.int k0), .val (.ref b7), .val (.int (4 : Int32)), .val (.int (0 : Int32))] [(.int (0 : Int32)), (.int (0 : Int32))])) _
      refine XS.icmpNo X70.here hx rfl (hb hby at_209) rfl (teq (rfl : (0 : Int32) = (0 : Int32))).2 ?_
      show Steps p.tables e below (T70.setTop (mkF m 212 #[.val (.int k0), .val (.ref b7), .val (.int (4 : Int32)), .val (.int (0 : Int32))] [])) _
      refine XS.iconst X70.here hx rfl (hb hby at_212) ?_
      show Steps p.tables e below (T70.setTop (mkF m 213 #[.val (.int k0), .val (.ref b7), .val (.int (4 : Int32)), .val (.int (0 : Int32))] [(.int (1 : Int32))])) _
      refine XS.goto X70.here hx rfl (pc0 := 213) (pc' := 217) rfl (hb hby at_213) (by decide) (by decide) ?_
      show Steps p.tables e below (T70.setTop (mkF m 217 #[.val (.int k0), .val (.ref b7), .val (.int (4 : Int32)), .val (.int (0 : Int32))] [(.int (1 : Int32))])) _
      exact k_)
    obtain ⟨fs, hr, hrun, hended, hW, hsame⟩ := X70.leave (v := some (.int (1 : Int32))) (fun h => by rw [Bd.returns] at h; cases h)
    refine ⟨_, _, pre71 _ ?_, hrun, hended, _, _, rfl, ?_, ⟨_, rfl⟩, hW, hsame.mono (by decide) (by decide)⟩
    · show Steps p.tables e below (T70.setTop (mkF m 217 #[.val (.int k0), .val (.ref b7), .val (.int (4 : Int32)), .val (.int (0 : Int32))] [(.int (1 : Int32))])) _
      exact retN X70 hx (t := .boolean) Bd.returns (by simp) (hb hby at_217) hr
    · show Q_0 Z k0 w_LOAN w_DEBT_SECURITY w_DEPOSIT w_MANDATORY_RESERVE w_TRADE_FINANCE w_VENTURE_CAPITAL w_PRIVATE_EQUITY w_ALTERNATIVE_INVESTMENT_FUND w_SPECULATIVE_REAL_ESTATE w_EQUITY w_CIU_UNIT w_SECURITISATION_POSITION w_CASH w_CASH_IN_COLLECTION w_GOLD w_TANGIBLE_ASSET w_REPOSSESSED_ASSET w_UNIDENTIFIED_PREPAYMENT w_LEASE_RESIDUAL_VALUE w_GUARANTEE w_LETTER_OF_CREDIT w_UNDRAWN_COMMITMENT w_ACCEPTANCE w_NOTE_ISSUANCE_FACILITY w_FORWARD_PURCHASE w_OTHER_OFF_BALANCE w_ON_BALANCE w_OFF_BALANCE w_NO_COUNTERPARTY h0 n0 _ T70.heap _
      rw [e70]
      exact ⟨rfl, N70⟩
  · obtain ⟨cq72, kq72, q72a, q72b, q72c⟩ := isOf hZ e59 (E_VENTURE_CAPITAL.ext O59)
    obtain ⟨v72, _, ⟨T72, L72, k72, n72⟩, -, X72, ⟨Lc72, hQ72, l72, y72, z72⟩, st72⟩ := X61.virtualBack hx (y := (⟨"com/example/ponderat/ponderat/Item", "isOffBalance", "()Z"⟩ : MethodName)) (z := (⟨"com/example/ponderat/ponderat/Item", "isOffBalance", "()Z"⟩ : MethodName)) hown (mvT hZ (hw _ (List.mem_of_getElem? (i := 57) rfl))) (mvT hZ (hw _ (List.mem_of_getElem? (i := 58) rfl))) (notFace_of_selects (args := #[]) (mvT hZ (hw _ (List.mem_of_getElem? (i := 60) rfl)))) (mvT hZ (hw _ (List.mem_of_getElem? (i := 60) rfl))) (mvT hZ (hw _ (List.mem_of_getElem? (i := 59) rfl))) (by decide) (backOf (W := 0) (rm_1 l Z a0 hw [] w_VENTURE_CAPITAL w_ON_BALANCE w_OFF_BALANCE h59 n0 (Nat.le_trans Z0 O59.1) (F_VENTURE_CAPITAL_kind.ext O59) (S_OFF_BALANCE.ext O59)) hZ (hw _ (List.mem_of_getElem? (i := 61) rfl)) (hw _ (List.mem_of_getElem? (i := 3) rfl)) (by decide) (by decide)) q72a q72c (g := (mkF m 205 #[.val (.int k0), .val (.ref b7), .val (.int (5 : Int32)), .val (.int (0 : Int32))] [(.ref w_VENTURE_CAPITAL)])) rfl (by rw [hml]; rfl) (Steps.refl _) (argsL := []) (rest := []) (lenOf pd_0 rfl) rfl (by show 2 * 0 + _ ≤ _; exact Nat.le_of_eq rfl) (hb hby at_205) (fun _ _ => ⟨rfl, e59, (by decide : 1 + 0 ≤ _), (by decide : 26 + 0 ≤ _)⟩)
    dsimp only [Pt.U, Pt.locs, Pt.cells, Pt.slots] at X72 l72 y72 z72 st72 hQ72
    subst l72 y72 z72
    obtain ⟨hv72, N72q, e72⟩ := hQ72
    have N72 := Fr.app N61 N72q
    have hw72 : v72 = some (.int (0 : Int32)) := hv72.trans (by rw [if_neg n_ON_BALANCE])
    subst hw72
    have pre73 : ∀ t_, Steps p.tables e below (T72.setTop (mkF m 217 #[.val (.int k0), .val (.ref b7), .val (.int (5 : Int32)), .val (.int (0 : Int32))] [(.int (1 : Int32))])) t_ → Steps p.tables e below (s₁.setTop (entryFrame m #[(.int k0)] maxLocals)) t_ := fun t_ k_ => pre60 t_ (by
      show Steps p.tables e below (T59.setTop (mkF m 190 #[.val (.int k0), .val (.ref b7), .val (.int (5 : Int32)), .unset] [])) _
      refine XS.iloadN X61.here hx rfl (hb hby at_190) rfl ?_
      show Steps p.tables e below (T59.setTop (mkF m 191 #[.val (.int k0), .val (.ref b7), .val (.int (5 : Int32)), .unset] [(.int (5 : Int32))])) _
      refine XS.bipush X61.here hx rfl (hb hby at_191) ?_
      show Steps p.tables e below (T59.setTop (mkF m 193 #[.val (.int k0), .val (.ref b7), .val (.int (5 : Int32)), .unset] [(.int (19 : Int32)), (.int (5 : Int32))])) _
      refine XS.icmpYes X61.here hx rfl (pc0 := 193) (pc' := 200) rfl (hb hby at_193) rfl (tlt (by decide : (5 : Int32) < (19 : Int32))).1 (by decide) (by decide) ?_
      show Steps p.tables e below (T59.setTop (mkF m 200 #[.val (.int k0), .val (.ref b7), .val (.int (5 : Int32)), .unset] [])) _
      refine XS.iconst X61.here hx rfl (hb hby at_200) ?_
      show Steps p.tables e below (T59.setTop (mkF m 201 #[.val (.int k0), .val (.ref b7), .val (.int (5 : Int32)), .unset] [(.int (0 : Int32))])) _
      refine XS.istoreN X61.here hx rfl (hb hby at_201) rfl (l' := #[.val (.int k0), .val (.ref b7), .val (.int (5 : Int32)), .val (.int (0 : Int32))]) rfl ?_
      show Steps p.tables e below (T59.setTop (mkF m 202 #[.val (.int k0), .val (.ref b7), .val (.int (5 : Int32)), .val (.int (0 : Int32))] [])) _
      refine XS.aloadN X61.here hx rfl (hb hby at_202) rfl rfl ?_
      show Steps p.tables e below (T59.setTop (mkF m 203 #[.val (.int k0), .val (.ref b7), .val (.int (5 : Int32)), .val (.int (0 : Int32))] [(.ref b7)])) _
      refine XS.iloadN X61.here hx rfl (hb hby at_203) rfl ?_
      show Steps p.tables e below (T59.setTop (mkF m 204 #[.val (.int k0), .val (.ref b7), .val (.int (5 : Int32)), .val (.int (0 : Int32))] [(.int (5 : Int32)), (.ref b7)])) _
      refine X61.aaload hx (j := (5 : Int32)) (v := (.ref w_VENTURE_CAPITAL)) (by rw [e59]; exact Ar.1) (State.isArrayOf_alike hZ.alike Ar.2.1) rfl Ar.2.2 (inb_of Sz ⟨by decide, by decide⟩) (Has.at Hs (j := (5 : Int32)) (inb_of Sz ⟨by decide, by decide⟩) rfl) (g := (mkF m 204 #[.val (.int k0), .val (.ref b7), .val (.int (5 : Int32)), .val (.int (0 : Int32))] [(.int (5 : Int32)), (.ref b7)])) rfl rfl (hb hby at_204) _ ?_
      show Steps p.tables e below (T59.setTop (mkF m 205 #[.val (.int k0), .val (.ref b7), .val (.int (5 : Int32)), .val (.int (0 : Int32))] [(.ref w_VENTURE_CAPITAL)])) _
      refine st72.trans ?_
      show Steps p.tables e below (T72.setTop (mkF m 208 #[.val (.int k0), .val (.ref b7), .val (.int (5 : Int32)), .val (.int (0 : Int32))] [(.int (0 : Int32))])) _
      refine XS.iloadN X72.here hx rfl (hb hby at_208) rfl ?_
      show Steps p.tables e below (T72.setTop (mkF m 209 #[.val (.int k0), .val (.ref b7), .val (.int (5 : Int32)), .val (.int (0 : Int32))] [(.int (0 : Int32)), (.int (0 : Int32))])) _
      refine XS.icmpNo X72.here hx rfl (hb hby at_209) rfl (teq (rfl : (0 : Int32) = (0 : Int32))).2 ?_
      show Steps p.tables e below (T72.setTop (mkF m 212 #[.val (.int k0), .val (.ref b7), .val (.int (5 : Int32)), .val (.int (0 : Int32))] [])) _
      refine XS.iconst X72.here hx rfl (hb hby at_212) ?_
      show Steps p.tables e below (T72.setTop (mkF m 213 #[.val (.int k0), .val (.ref b7), .val (.int (5 : Int32)), .val (.int (0 : Int32))] [(.int (1 : Int32))])) _
      refine XS.goto X72.here hx rfl (pc0 := 213) (pc' := 217) rfl (hb hby at_213) (by decide) (by decide) ?_
      show Steps p.tables e below (T72.setTop (mkF m 217 #[.val (.int k0), .val (.ref b7), .val (.int (5 : Int32)), .val (.int (0 : Int32))] [(.int (1 : Int32))])) _
      exact k_)
    obtain ⟨fs, hr, hrun, hended, hW, hsame⟩ := X72.leave (v := some (.int (1 : Int32))) (fun h => by rw [Bd.returns] at h; cases h)
    refine ⟨_, _, pre73 _ ?_, hrun, hended, _, _, rfl, ?_, ⟨_, rfl⟩, hW, hsame.mono (by decide) (by decide)⟩
    · show Steps p.tables e below (T72.setTop (mkF m 217 #[.val (.int k0), .val (.ref b7), .val (.int (5 : Int32)), .val (.int (0 : Int32))] [(.int (1 : Int32))])) _
      exact retN X72 hx (t := .boolean) Bd.returns (by simp) (hb hby at_217) hr
    · show Q_0 Z k0 w_LOAN w_DEBT_SECURITY w_DEPOSIT w_MANDATORY_RESERVE w_TRADE_FINANCE w_VENTURE_CAPITAL w_PRIVATE_EQUITY w_ALTERNATIVE_INVESTMENT_FUND w_SPECULATIVE_REAL_ESTATE w_EQUITY w_CIU_UNIT w_SECURITISATION_POSITION w_CASH w_CASH_IN_COLLECTION w_GOLD w_TANGIBLE_ASSET w_REPOSSESSED_ASSET w_UNIDENTIFIED_PREPAYMENT w_LEASE_RESIDUAL_VALUE w_GUARANTEE w_LETTER_OF_CREDIT w_UNDRAWN_COMMITMENT w_ACCEPTANCE w_NOTE_ISSUANCE_FACILITY w_FORWARD_PURCHASE w_OTHER_OFF_BALANCE w_ON_BALANCE w_OFF_BALANCE w_NO_COUNTERPARTY h0 n0 _ T72.heap _
      rw [e72]
      exact ⟨rfl, N72⟩
  · obtain ⟨cq74, kq74, q74a, q74b, q74c⟩ := isOf hZ e59 (E_PRIVATE_EQUITY.ext O59)
    obtain ⟨v74, _, ⟨T74, L74, k74, n74⟩, -, X74, ⟨Lc74, hQ74, l74, y74, z74⟩, st74⟩ := X61.virtualBack hx (y := (⟨"com/example/ponderat/ponderat/Item", "isOffBalance", "()Z"⟩ : MethodName)) (z := (⟨"com/example/ponderat/ponderat/Item", "isOffBalance", "()Z"⟩ : MethodName)) hown (mvT hZ (hw _ (List.mem_of_getElem? (i := 57) rfl))) (mvT hZ (hw _ (List.mem_of_getElem? (i := 58) rfl))) (notFace_of_selects (args := #[]) (mvT hZ (hw _ (List.mem_of_getElem? (i := 60) rfl)))) (mvT hZ (hw _ (List.mem_of_getElem? (i := 60) rfl))) (mvT hZ (hw _ (List.mem_of_getElem? (i := 59) rfl))) (by decide) (backOf (W := 0) (rm_1 l Z a0 hw [] w_PRIVATE_EQUITY w_ON_BALANCE w_OFF_BALANCE h59 n0 (Nat.le_trans Z0 O59.1) (F_PRIVATE_EQUITY_kind.ext O59) (S_OFF_BALANCE.ext O59)) hZ (hw _ (List.mem_of_getElem? (i := 61) rfl)) (hw _ (List.mem_of_getElem? (i := 3) rfl)) (by decide) (by decide)) q74a q74c (g := (mkF m 205 #[.val (.int k0), .val (.ref b7), .val (.int (6 : Int32)), .val (.int (0 : Int32))] [(.ref w_PRIVATE_EQUITY)])) rfl (by rw [hml]; rfl) (Steps.refl _) (argsL := []) (rest := []) (lenOf pd_0 rfl) rfl (by show 2 * 0 + _ ≤ _; exact Nat.le_of_eq rfl) (hb hby at_205) (fun _ _ => ⟨rfl, e59, (by decide : 1 + 0 ≤ _), (by decide : 26 + 0 ≤ _)⟩)
    dsimp only [Pt.U, Pt.locs, Pt.cells, Pt.slots] at X74 l74 y74 z74 st74 hQ74
    subst l74 y74 z74
    obtain ⟨hv74, N74q, e74⟩ := hQ74
    have N74 := Fr.app N61 N74q
    have hw74 : v74 = some (.int (0 : Int32)) := hv74.trans (by rw [if_neg n_ON_BALANCE])
    subst hw74
    have pre75 : ∀ t_, Steps p.tables e below (T74.setTop (mkF m 217 #[.val (.int k0), .val (.ref b7), .val (.int (6 : Int32)), .val (.int (0 : Int32))] [(.int (1 : Int32))])) t_ → Steps p.tables e below (s₁.setTop (entryFrame m #[(.int k0)] maxLocals)) t_ := fun t_ k_ => pre60 t_ (by
      show Steps p.tables e below (T59.setTop (mkF m 190 #[.val (.int k0), .val (.ref b7), .val (.int (6 : Int32)), .unset] [])) _
      refine XS.iloadN X61.here hx rfl (hb hby at_190) rfl ?_
      show Steps p.tables e below (T59.setTop (mkF m 191 #[.val (.int k0), .val (.ref b7), .val (.int (6 : Int32)), .unset] [(.int (6 : Int32))])) _
      refine XS.bipush X61.here hx rfl (hb hby at_191) ?_
      show Steps p.tables e below (T59.setTop (mkF m 193 #[.val (.int k0), .val (.ref b7), .val (.int (6 : Int32)), .unset] [(.int (19 : Int32)), (.int (6 : Int32))])) _
      refine XS.icmpYes X61.here hx rfl (pc0 := 193) (pc' := 200) rfl (hb hby at_193) rfl (tlt (by decide : (6 : Int32) < (19 : Int32))).1 (by decide) (by decide) ?_
      show Steps p.tables e below (T59.setTop (mkF m 200 #[.val (.int k0), .val (.ref b7), .val (.int (6 : Int32)), .unset] [])) _
      refine XS.iconst X61.here hx rfl (hb hby at_200) ?_
      show Steps p.tables e below (T59.setTop (mkF m 201 #[.val (.int k0), .val (.ref b7), .val (.int (6 : Int32)), .unset] [(.int (0 : Int32))])) _
      refine XS.istoreN X61.here hx rfl (hb hby at_201) rfl (l' := #[.val (.int k0), .val (.ref b7), .val (.int (6 : Int32)), .val (.int (0 : Int32))]) rfl ?_
      show Steps p.tables e below (T59.setTop (mkF m 202 #[.val (.int k0), .val (.ref b7), .val (.int (6 : Int32)), .val (.int (0 : Int32))] [])) _
      refine XS.aloadN X61.here hx rfl (hb hby at_202) rfl rfl ?_
      show Steps p.tables e below (T59.setTop (mkF m 203 #[.val (.int k0), .val (.ref b7), .val (.int (6 : Int32)), .val (.int (0 : Int32))] [(.ref b7)])) _
      refine XS.iloadN X61.here hx rfl (hb hby at_203) rfl ?_
      show Steps p.tables e below (T59.setTop (mkF m 204 #[.val (.int k0), .val (.ref b7), .val (.int (6 : Int32)), .val (.int (0 : Int32))] [(.int (6 : Int32)), (.ref b7)])) _
      refine X61.aaload hx (j := (6 : Int32)) (v := (.ref w_PRIVATE_EQUITY)) (by rw [e59]; exact Ar.1) (State.isArrayOf_alike hZ.alike Ar.2.1) rfl Ar.2.2 (inb_of Sz ⟨by decide, by decide⟩) (Has.at Hs (j := (6 : Int32)) (inb_of Sz ⟨by decide, by decide⟩) rfl) (g := (mkF m 204 #[.val (.int k0), .val (.ref b7), .val (.int (6 : Int32)), .val (.int (0 : Int32))] [(.int (6 : Int32)), (.ref b7)])) rfl rfl (hb hby at_204) _ ?_
      show Steps p.tables e below (T59.setTop (mkF m 205 #[.val (.int k0), .val (.ref b7), .val (.int (6 : Int32)), .val (.int (0 : Int32))] [(.ref w_PRIVATE_EQUITY)])) _
      refine st74.trans ?_
      show Steps p.tables e below (T74.setTop (mkF m 208 #[.val (.int k0), .val (.ref b7), .val (.int (6 : Int32)), .val (.int (0 : Int32))] [(.int (0 : Int32))])) _
      refine XS.iloadN X74.here hx rfl (hb hby at_208) rfl ?_
      show Steps p.tables e below (T74.setTop (mkF m 209 #[.val (.int k0), .val (.ref b7), .val (.int (6 : Int32)), .val (.int (0 : Int32))] [(.int (0 : Int32)), (.int (0 : Int32))])) _
      refine XS.icmpNo X74.here hx rfl (hb hby at_209) rfl (teq (rfl : (0 : Int32) = (0 : Int32))).2 ?_
      show Steps p.tables e below (T74.setTop (mkF m 212 #[.val (.int k0), .val (.ref b7), .val (.int (6 : Int32)), .val (.int (0 : Int32))] [])) _
      refine XS.iconst X74.here hx rfl (hb hby at_212) ?_
      show Steps p.tables e below (T74.setTop (mkF m 213 #[.val (.int k0), .val (.ref b7), .val (.int (6 : Int32)), .val (.int (0 : Int32))] [(.int (1 : Int32))])) _
      refine XS.goto X74.here hx rfl (pc0 := 213) (pc' := 217) rfl (hb hby at_213) (by decide) (by decide) ?_
      show Steps p.tables e below (T74.setTop (mkF m 217 #[.val (.int k0), .val (.ref b7), .val (.int (6 : Int32)), .val (.int (0 : Int32))] [(.int (1 : Int32))])) _
      exact k_)
    obtain ⟨fs, hr, hrun, hended, hW, hsame⟩ := X74.leave (v := some (.int (1 : Int32))) (fun h => by rw [Bd.returns] at h; cases h)
    refine ⟨_, _, pre75 _ ?_, hrun, hended, _, _, rfl, ?_, ⟨_, rfl⟩, hW, hsame.mono (by decide) (by decide)⟩
    · show Steps p.tables e below (T74.setTop (mkF m 217 #[.val (.int k0), .val (.ref b7), .val (.int (6 : Int32)), .val (.int (0 : Int32))] [(.int (1 : Int32))])) _
      exact retN X74 hx (t := .boolean) Bd.returns (by simp) (hb hby at_217) hr
    · show Q_0 Z k0 w_LOAN w_DEBT_SECURITY w_DEPOSIT w_MANDATORY_RESERVE w_TRADE_FINANCE w_VENTURE_CAPITAL w_PRIVATE_EQUITY w_ALTERNATIVE_INVESTMENT_FUND w_SPECULATIVE_REAL_ESTATE w_EQUITY w_CIU_UNIT w_SECURITISATION_POSITION w_CASH w_CASH_IN_COLLECTION w_GOLD w_TANGIBLE_ASSET w_REPOSSESSED_ASSET w_UNIDENTIFIED_PREPAYMENT w_LEASE_RESIDUAL_VALUE w_GUARANTEE w_LETTER_OF_CREDIT w_UNDRAWN_COMMITMENT w_ACCEPTANCE w_NOTE_ISSUANCE_FACILITY w_FORWARD_PURCHASE w_OTHER_OFF_BALANCE w_ON_BALANCE w_OFF_BALANCE w_NO_COUNTERPARTY h0 n0 _ T74.heap _
      rw [e74]
      exact ⟨rfl, N74⟩
  · obtain ⟨cq76, kq76, q76a, q76b, q76c⟩ := isOf hZ e59 (E_ALTERNATIVE_INVESTMENT_FUND.ext O59)
    obtain ⟨v76, _, ⟨T76, L76, k76, n76⟩, -, X76, ⟨Lc76, hQ76, l76, y76, z76⟩, st76⟩ := X61.virtualBack hx (y := (⟨"com/example/ponderat/ponderat/Item", "isOffBalance", "()Z"⟩ : MethodName)) (z := (⟨"com/example/ponderat/ponderat/Item", "isOffBalance", "()Z"⟩ : MethodName)) hown (mvT hZ (hw _ (List.mem_of_getElem? (i := 57) rfl))) (mvT hZ (hw _ (List.mem_of_getElem? (i := 58) rfl))) (notFace_of_selects (args := #[]) (mvT hZ (hw _ (List.mem_of_getElem? (i := 60) rfl)))) (mvT hZ (hw _ (List.mem_of_getElem? (i := 60) rfl))) (mvT hZ (hw _ (List.mem_of_getElem? (i := 59) rfl))) (by decide) (backOf (W := 0) (rm_1 l Z a0 hw [] w_ALTERNATIVE_INVESTMENT_FUND w_ON_BALANCE w_OFF_BALANCE h59 n0 (Nat.le_trans Z0 O59.1) (F_ALTERNATIVE_INVESTMENT_FUND_kind.ext O59) (S_OFF_BALANCE.ext O59)) hZ (hw _ (List.mem_of_getElem? (i := 61) rfl)) (hw _ (List.mem_of_getElem? (i := 3) rfl)) (by decide) (by decide)) q76a q76c (g := (mkF m 205 #[.val (.int k0), .val (.ref b7), .val (.int (7 : Int32)), .val (.int (0 : Int32))] [(.ref w_ALTERNATIVE_INVESTMENT_FUND)])) rfl (by rw [hml]; rfl) (Steps.refl _) (argsL := []) (rest := []) (lenOf pd_0 rfl) rfl (by show 2 * 0 + _ ≤ _; exact Nat.le_of_eq rfl) (hb hby at_205) (fun _ _ => ⟨rfl, e59, (by decide : 1 + 0 ≤ _), (by decide : 26 + 0 ≤ _)⟩)
    dsimp only [Pt.U, Pt.locs, Pt.cells, Pt.slots] at X76 l76 y76 z76 st76 hQ76
    subst l76 y76 z76
    obtain ⟨hv76, N76q, e76⟩ := hQ76
    have N76 := Fr.app N61 N76q
    have hw76 : v76 = some (.int (0 : Int32)) := hv76.trans (by rw [if_neg n_ON_BALANCE])
    subst hw76
    have pre77 : ∀ t_, Steps p.tables e below (T76.setTop (mkF m 217 #[.val (.int k0), .val (.ref b7), .val (.int (7 : Int32)), .val (.int (0 : Int32))] [(.int (1 : Int32))])) t_ → Steps p.tables e below (s₁.setTop (entryFrame m #[(.int k0)] maxLocals)) t_ := fun t_ k_ => pre60 t_ (by
      show Steps p.tables e below (T59.setTop (mkF m 190 #[.val (.int k0), .val (.ref b7), .val (.int (7 : Int32)), .unset] [])) _
      refine XS.iloadN X61.here hx rfl (hb hby at_190) rfl ?_
      show Steps p.tables e below (T59.setTop (mkF m 191 #[.val (.int k0), .val (.ref b7), .val (.int (7 : Int32)), .unset] [(.int (7 : Int32))])) _
      refine XS.bipush X61.here hx rfl (hb hby at_191) ?_
      show Steps p.tables e below (T59.setTop (mkF m 193 #[.val (.int k0), .val (.ref b7), .val (.int (7 : Int32)), .unset] [(.int (19 : Int32)), (.int (7 : Int32))])) _
      refine XS.icmpYes X61.here hx rfl (pc0 := 193) (pc' := 200) rfl (hb hby at_193) rfl (tlt (by decide : (7 : Int32) < (19 : Int32))).1 (by decide) (by decide) ?_
      show Steps p.tables e below (T59.setTop (mkF m 200 #[.val (.int k0), .val (.ref b7), .val (.int (7 : Int32)), .unset] [])) _
      refine XS.iconst X61.here hx rfl (hb hby at_200) ?_
      show Steps p.tables e below (T59.setTop (mkF m 201 #[.val (.int k0), .val (.ref b7), .val (.int (7 : Int32)), .unset] [(.int (0 : Int32))])) _
      refine XS.istoreN X61.here hx rfl (hb hby at_201) rfl (l' := #[.val (.int k0), .val (.ref b7), .val (.int (7 : Int32)), .val (.int (0 : Int32))]) rfl ?_
      show Steps p.tables e below (T59.setTop (mkF m 202 #[.val (.int k0), .val (.ref b7), .val (.int (7 : Int32)), .val (.int (0 : Int32))] [])) _
      refine XS.aloadN X61.here hx rfl (hb hby at_202) rfl rfl ?_
      show Steps p.tables e below (T59.setTop (mkF m 203 #[.val (.int k0), .val (.ref b7), .val (.int (7 : Int32)), .val (.int (0 : Int32))] [(.ref b7)])) _
      refine XS.iloadN X61.here hx rfl (hb hby at_203) rfl ?_
      show Steps p.tables e below (T59.setTop (mkF m 204 #[.val (.int k0), .val (.ref b7), .val (.int (7 : Int32)), .val (.int (0 : Int32))] [(.int (7 : Int32)), (.ref b7)])) _
      refine X61.aaload hx (j := (7 : Int32)) (v := (.ref w_ALTERNATIVE_INVESTMENT_FUND)) (by rw [e59]; exact Ar.1) (State.isArrayOf_alike hZ.alike Ar.2.1) rfl Ar.2.2 (inb_of Sz ⟨by decide, by decide⟩) (Has.at Hs (j := (7 : Int32)) (inb_of Sz ⟨by decide, by decide⟩) rfl) (g := (mkF m 204 #[.val (.int k0), .val (.ref b7), .val (.int (7 : Int32)), .val (.int (0 : Int32))] [(.int (7 : Int32)), (.ref b7)])) rfl rfl (hb hby at_204) _ ?_
      show Steps p.tables e below (T59.setTop (mkF m 205 #[.val (.int k0), .val (.ref b7), .val (.int (7 : Int32)), .val (.int (0 : Int32))] [(.ref w_ALTERNATIVE_INVESTMENT_FUND)])) _
      refine st76.trans ?_
      show Steps p.tables e below (T76.setTop (mkF m 208 #[.val (.int k0), .val (.ref b7), .val (.int (7 : Int32)), .val (.int (0 : Int32))] [(.int (0 : Int32))])) _
      refine XS.iloadN X76.here hx rfl (hb hby at_208) rfl ?_
      show Steps p.tables e below (T76.setTop (mkF m 209 #[.val (.int k0), .val (.ref b7), .val (.int (7 : Int32)), .val (.int (0 : Int32))] [(.int (0 : Int32)), (.int (0 : Int32))])) _
      refine XS.icmpNo X76.here hx rfl (hb hby at_209) rfl (teq (rfl : (0 : Int32) = (0 : Int32))).2 ?_
      show Steps p.tables e below (T76.setTop (mkF m 212 #[.val (.int k0), .val (.ref b7), .val (.int (7 : Int32)), .val (.int (0 : Int32))] [])) _
      refine XS.iconst X76.here hx rfl (hb hby at_212) ?_
      show Steps p.tables e below (T76.setTop (mkF m 213 #[.val (.int k0), .val (.ref b7), .val (.int (7 : Int32)), .val (.int (0 : Int32))] [(.int (1 : Int32))])) _
      refine XS.goto X76.here hx rfl (pc0 := 213) (pc' := 217) rfl (hb hby at_213) (by decide) (by decide) ?_
      show Steps p.tables e below (T76.setTop (mkF m 217 #[.val (.int k0), .val (.ref b7), .val (.int (7 : Int32)), .val (.int (0 : Int32))] [(.int (1 : Int32))])) _
      exact k_)
    obtain ⟨fs, hr, hrun, hended, hW, hsame⟩ := X76.leave (v := some (.int (1 : Int32))) (fun h => by rw [Bd.returns] at h; cases h)
    refine ⟨_, _, pre77 _ ?_, hrun, hended, _, _, rfl, ?_, ⟨_, rfl⟩, hW, hsame.mono (by decide) (by decide)⟩
    · show Steps p.tables e below (T76.setTop (mkF m 217 #[.val (.int k0), .val (.ref b7), .val (.int (7 : Int32)), .val (.int (0 : Int32))] [(.int (1 : Int32))])) _
      exact retN X76 hx (t := .boolean) Bd.returns (by simp) (hb hby at_217) hr
    · show Q_0 Z k0 w_LOAN w_DEBT_SECURITY w_DEPOSIT w_MANDATORY_RESERVE w_TRADE_FINANCE w_VENTURE_CAPITAL w_PRIVATE_EQUITY w_ALTERNATIVE_INVESTMENT_FUND w_SPECULATIVE_REAL_ESTATE w_EQUITY w_CIU_UNIT w_SECURITISATION_POSITION w_CASH w_CASH_IN_COLLECTION w_GOLD w_TANGIBLE_ASSET w_REPOSSESSED_ASSET w_UNIDENTIFIED_PREPAYMENT w_LEASE_RESIDUAL_VALUE w_GUARANTEE w_LETTER_OF_CREDIT w_UNDRAWN_COMMITMENT w_ACCEPTANCE w_NOTE_ISSUANCE_FACILITY w_FORWARD_PURCHASE w_OTHER_OFF_BALANCE w_ON_BALANCE w_OFF_BALANCE w_NO_COUNTERPARTY h0 n0 _ T76.heap _
      rw [e76]
      exact ⟨rfl, N76⟩
  · obtain ⟨cq78, kq78, q78a, q78b, q78c⟩ := isOf hZ e59 (E_SPECULATIVE_REAL_ESTATE.ext O59)
    obtain ⟨v78, _, ⟨T78, L78, k78, n78⟩, -, X78, ⟨Lc78, hQ78, l78, y78, z78⟩, st78⟩ := X61.virtualBack hx (y := (⟨"com/example/ponderat/ponderat/Item", "isOffBalance", "()Z"⟩ : MethodName)) (z := (⟨"com/example/ponderat/ponderat/Item", "isOffBalance", "()Z"⟩ : MethodName)) hown (mvT hZ (hw _ (List.mem_of_getElem? (i := 57) rfl))) (mvT hZ (hw _ (List.mem_of_getElem? (i := 58) rfl))) (notFace_of_selects (args := #[]) (mvT hZ (hw _ (List.mem_of_getElem? (i := 60) rfl)))) (mvT hZ (hw _ (List.mem_of_getElem? (i := 60) rfl))) (mvT hZ (hw _ (List.mem_of_getElem? (i := 59) rfl))) (by decide) (backOf (W := 0) (rm_1 l Z a0 hw [] w_SPECULATIVE_REAL_ESTATE w_ON_BALANCE w_OFF_BALANCE h59 n0 (Nat.le_trans Z0 O59.1) (F_SPECULATIVE_REAL_ESTATE_kind.ext O59) (S_OFF_BALANCE.ext O59)) hZ (hw _ (List.mem_of_getElem? (i := 61) rfl)) (hw _ (List.mem_of_getElem? (i := 3) rfl)) (by decide) (by decide)) q78a q78c (g := (mkF m 205 #[.val (.int k0), .val (.ref b7), .val (.int (8 : Int32)), .val (.int (0 : Int32))] [(.ref w_SPECULATIVE_REAL_ESTATE)])) rfl (by rw [hml]; rfl) (Steps.refl _) (argsL := []) (rest := []) (lenOf pd_0 rfl) rfl (by show 2 * 0 + _ ≤ _; exact Nat.le_of_eq rfl) (hb hby at_205) (fun _ _ => ⟨rfl, e59, (by decide : 1 + 0 ≤ _), (by decide : 26 + 0 ≤ _)⟩)
    dsimp only [Pt.U, Pt.locs, Pt.cells, Pt.slots] at X78 l78 y78 z78 st78 hQ78
    subst l78 y78 z78
    obtain ⟨hv78, N78q, e78⟩ := hQ78
    have N78 := Fr.app N61 N78q
    have hw78 : v78 = some (.int (0 : Int32)) := hv78.trans (by rw [if_neg n_ON_BALANCE])
    subst hw78
    have pre79 : ∀ t_, Steps p.tables e below (T78.setTop (mkF m 217 #[.val (.int k0), .val (.ref b7), .val (.int (8 : Int32)), .val (.int (0 : Int32))] [(.int (1 : Int32))])) t_ → Steps p.tables e below (s₁.setTop (entryFrame m #[(.int k0)] maxLocals)) t_ := fun t_ k_ => pre60 t_ (by
      show Steps p.tables e below (T59.setTop (mkF m 190 #[.val (.int k0), .val (.ref b7), .val (.int (8 : Int32)), .unset] [])) _
      refine XS.iloadN X61.here hx rfl (hb hby at_190) rfl ?_
      show Steps p.tables e below (T59.setTop (mkF m 191 #[.val (.int k0), .val (.ref b7), .val (.int (8 : Int32)), .unset] [(.int (8 : Int32))])) _
      refine XS.bipush X61.here hx rfl (hb hby at_191) ?_
      show Steps p.tables e below (T59.setTop (mkF m 193 #[.val (.int k0), .val (.ref b7), .val (.int (8 : Int32)), .unset] [(.int (19 : Int32)), (.int (8 : Int32))])) _
      refine XS.icmpYes X61.here hx rfl (pc0 := 193) (pc' := 200) rfl (hb hby at_193) rfl (tlt (by decide : (8 : Int32) < (19 : Int32))).1 (by decide) (by decide) ?_
      show Steps p.tables e below (T59.setTop (mkF m 200 #[.val (.int k0), .val (.ref b7), .val (.int (8 : Int32)), .unset] [])) _
      refine XS.iconst X61.here hx rfl (hb hby at_200) ?_
      show Steps p.tables e below (T59.setTop (mkF m 201 #[.val (.int k0), .val (.ref b7), .val (.int (8 : Int32)), .unset] [(.int (0 : Int32))])) _
      refine XS.istoreN X61.here hx rfl (hb hby at_201) rfl (l' := #[.val (.int k0), .val (.ref b7), .val (.int (8 : Int32)), .val (.int (0 : Int32))]) rfl ?_
      show Steps p.tables e below (T59.setTop (mkF m 202 #[.val (.int k0), .val (.ref b7), .val (.int (8 : Int32)), .val (.int (0 : Int32))] [])) _
      refine XS.aloadN X61.here hx rfl (hb hby at_202) rfl rfl ?_
      show Steps p.tables e below (T59.setTop (mkF m 203 #[.val (.int k0), .val (.ref b7), .val (.int (8 : Int32)), .val (.int (0 : Int32))] [(.ref b7)])) _
      refine XS.iloadN X61.here hx rfl (hb hby at_203) rfl ?_
      show Steps p.tables e below (T59.setTop (mkF m 204 #[.val (.int k0), .val (.ref b7), .val (.int (8 : Int32)), .val (.int (0 : Int32))] [(.int (8 : Int32)), (.ref b7)])) _
      refine X61.aaload hx (j := (8 : Int32)) (v := (.ref w_SPECULATIVE_REAL_ESTATE)) (by rw [e59]; exact Ar.1) (State.isArrayOf_alike hZ.alike Ar.2.1) rfl Ar.2.2 (inb_of Sz ⟨by decide, by decide⟩) (Has.at Hs (j := (8 : Int32)) (inb_of Sz ⟨by decide, by decide⟩) rfl) (g := (mkF m 204 #[.val (.int k0), .val (.ref b7), .val (.int (8 : Int32)), .val (.int (0 : Int32))] [(.int (8 : Int32)), (.ref b7)])) rfl rfl (hb hby at_204) _ ?_
      show Steps p.tables e below (T59.setTop (mkF m 205 #[.val (.int k0), .val (.ref b7), .val (.int (8 : Int32)), .val (.int (0 : Int32))] [(.ref w_SPECULATIVE_REAL_ESTATE)])) _
      refine st78.trans ?_
      show Steps p.tables e below (T78.setTop (mkF m 208 #[.val (.int k0), .val (.ref b7), .val (.int (8 : Int32)), .val (.int (0 : Int32))] [(.int (0 : Int32))])) _
      refine XS.iloadN X78.here hx rfl (hb hby at_208) rfl ?_
      show Steps p.tables e below (T78.setTop (mkF m 209 #[.val (.int k0), .val (.ref b7), .val (.int (8 : Int32)), .val (.int (0 : Int32))] [(.int (0 : Int32)), (.int (0 : Int32))])) _
      refine XS.icmpNo X78.here hx rfl (hb hby at_209) rfl (teq (rfl : (0 : Int32) = (0 : Int32))).2 ?_
      show Steps p.tables e below (T78.setTop (mkF m 212 #[.val (.int k0), .val (.ref b7), .val (.int (8 : Int32)), .val (.int (0 : Int32))] [])) _
      refine XS.iconst X78.here hx rfl (hb hby at_212) ?_
      show Steps p.tables e below (T78.setTop (mkF m 213 #[.val (.int k0), .val (.ref b7), .val (.int (8 : Int32)), .val (.int (0 : Int32))] [(.int (1 : Int32))])) _
      refine XS.goto X78.here hx rfl (pc0 := 213) (pc' := 217) rfl (hb hby at_213) (by decide) (by decide) ?_
      show Steps p.tables e below (T78.setTop (mkF m 217 #[.val (.int k0), .val (.ref b7), .val (.int (8 : Int32)), .val (.int (0 : Int32))] [(.int (1 : Int32))])) _
      exact k_)
    obtain ⟨fs, hr, hrun, hended, hW, hsame⟩ := X78.leave (v := some (.int (1 : Int32))) (fun h => by rw [Bd.returns] at h; cases h)
    refine ⟨_, _, pre79 _ ?_, hrun, hended, _, _, rfl, ?_, ⟨_, rfl⟩, hW, hsame.mono (by decide) (by decide)⟩
    · show Steps p.tables e below (T78.setTop (mkF m 217 #[.val (.int k0), .val (.ref b7), .val (.int (8 : Int32)), .val (.int (0 : Int32))] [(.int (1 : Int32))])) _
      exact retN X78 hx (t := .boolean) Bd.returns (by simp) (hb hby at_217) hr
    · show Q_0 Z k0 w_LOAN w_DEBT_SECURITY w_DEPOSIT w_MANDATORY_RESERVE w_TRADE_FINANCE w_VENTURE_CAPITAL w_PRIVATE_EQUITY w_ALTERNATIVE_INVESTMENT_FUND w_SPECULATIVE_REAL_ESTATE w_EQUITY w_CIU_UNIT w_SECURITISATION_POSITION w_CASH w_CASH_IN_COLLECTION w_GOLD w_TANGIBLE_ASSET w_REPOSSESSED_ASSET w_UNIDENTIFIED_PREPAYMENT w_LEASE_RESIDUAL_VALUE w_GUARANTEE w_LETTER_OF_CREDIT w_UNDRAWN_COMMITMENT w_ACCEPTANCE w_NOTE_ISSUANCE_FACILITY w_FORWARD_PURCHASE w_OTHER_OFF_BALANCE w_ON_BALANCE w_OFF_BALANCE w_NO_COUNTERPARTY h0 n0 _ T78.heap _
      rw [e78]
      exact ⟨rfl, N78⟩
  · obtain ⟨cq80, kq80, q80a, q80b, q80c⟩ := isOf hZ e59 (E_EQUITY.ext O59)
    obtain ⟨v80, _, ⟨T80, L80, k80, n80⟩, -, X80, ⟨Lc80, hQ80, l80, y80, z80⟩, st80⟩ := X61.virtualBack hx (y := (⟨"com/example/ponderat/ponderat/Item", "isOffBalance", "()Z"⟩ : MethodName)) (z := (⟨"com/example/ponderat/ponderat/Item", "isOffBalance", "()Z"⟩ : MethodName)) hown (mvT hZ (hw _ (List.mem_of_getElem? (i := 57) rfl))) (mvT hZ (hw _ (List.mem_of_getElem? (i := 58) rfl))) (notFace_of_selects (args := #[]) (mvT hZ (hw _ (List.mem_of_getElem? (i := 60) rfl)))) (mvT hZ (hw _ (List.mem_of_getElem? (i := 60) rfl))) (mvT hZ (hw _ (List.mem_of_getElem? (i := 59) rfl))) (by decide) (backOf (W := 0) (rm_1 l Z a0 hw [] w_EQUITY w_ON_BALANCE w_OFF_BALANCE h59 n0 (Nat.le_trans Z0 O59.1) (F_EQUITY_kind.ext O59) (S_OFF_BALANCE.ext O59)) hZ (hw _ (List.mem_of_getElem? (i := 61) rfl)) (hw _ (List.mem_of_getElem? (i := 3) rfl)) (by decide) (by decide)) q80a q80c (g := (mkF m 205 #[.val (.int k0), .val (.ref b7), .val (.int (9 : Int32)), .val (.int (0 : Int32))] [(.ref w_EQUITY)])) rfl (by rw [hml]; rfl) (Steps.refl _) (argsL := []) (rest := []) (lenOf pd_0 rfl) rfl (by show 2 * 0 + _ ≤ _; exact Nat.le_of_eq rfl) (hb hby at_205) (fun _ _ => ⟨rfl, e59, (by decide : 1 + 0 ≤ _), (by decide : 26 + 0 ≤ _)⟩)
    dsimp only [Pt.U, Pt.locs, Pt.cells, Pt.slots] at X80 l80 y80 z80 st80 hQ80
    subst l80 y80 z80
    obtain ⟨hv80, N80q, e80⟩ := hQ80
    have N80 := Fr.app N61 N80q
    have hw80 : v80 = some (.int (0 : Int32)) := hv80.trans (by rw [if_neg n_ON_BALANCE])
    subst hw80
    have pre81 : ∀ t_, Steps p.tables e below (T80.setTop (mkF m 217 #[.val (.int k0), .val (.ref b7), .val (.int (9 : Int32)), .val (.int (0 : Int32))] [(.int (1 : Int32))])) t_ → Steps p.tables e below (s₁.setTop (entryFrame m #[(.int k0)] maxLocals)) t_ := fun t_ k_ => pre60 t_ (by
      show Steps p.tables e below (T59.setTop (mkF m 190 #[.val (.int k0), .val (.ref b7), .val (.int (9 : Int32)), .unset] [])) _
      refine XS.iloadN X61.here hx rfl (hb hby at_190) rfl ?_
      show Steps p.tables e below (T59.setTop (mkF m 191 #[.val (.int k0), .val (.ref b7), .val (.int (9 : Int32)), .unset] [(.int (9 : Int32))])) _
      refine XS.bipush X61.here hx rfl (hb hby at_191) ?_
      show Steps p.tables e below (T59.setTop (mkF m 193 #[.val (.int k0), .val (.ref b7), .val (.int (9 : Int32)), .unset] [(.int (19 : Int32)), (.int (9 : Int32))])) _
      refine XS.icmpYes X61.here hx rfl (pc0 := 193) (pc' := 200) rfl (hb hby at_193) rfl (tlt (by decide : (9 : Int32) < (19 : Int32))).1 (by decide) (by decide) ?_
      show Steps p.tables e below (T59.setTop (mkF m 200 #[.val (.int k0), .val (.ref b7), .val (.int (9 : Int32)), .unset] [])) _
      refine XS.iconst X61.here hx rfl (hb hby at_200) ?_
      show Steps p.tables e below (T59.setTop (mkF m 201 #[.val (.int k0), .val (.ref b7), .val (.int (9 : Int32)), .unset] [(.int (0 : Int32))])) _
      refine XS.istoreN X61.here hx rfl (hb hby at_201) rfl (l' := #[.val (.int k0), .val (.ref b7), .val (.int (9 : Int32)), .val (.int (0 : Int32))]) rfl ?_
      show Steps p.tables e below (T59.setTop (mkF m 202 #[.val (.int k0), .val (.ref b7), .val (.int (9 : Int32)), .val (.int (0 : Int32))] [])) _
      refine XS.aloadN X61.here hx rfl (hb hby at_202) rfl rfl ?_
      show Steps p.tables e below (T59.setTop (mkF m 203 #[.val (.int k0), .val (.ref b7), .val (.int (9 : Int32)), .val (.int (0 : Int32))] [(.ref b7)])) _
      refine XS.iloadN X61.here hx rfl (hb hby at_203) rfl ?_
      show Steps p.tables e below (T59.setTop (mkF m 204 #[.val (.int k0), .val (.ref b7), .val (.int (9 : Int32)), .val (.int (0 : Int32))] [(.int (9 : Int32)), (.ref b7)])) _
      refine X61.aaload hx (j := (9 : Int32)) (v := (.ref w_EQUITY)) (by rw [e59]; exact Ar.1) (State.isArrayOf_alike hZ.alike Ar.2.1) rfl Ar.2.2 (inb_of Sz ⟨by decide, by decide⟩) (Has.at Hs (j := (9 : Int32)) (inb_of Sz ⟨by decide, by decide⟩) rfl) (g := (mkF m 204 #[.val (.int k0), .val (.ref b7), .val (.int (9 : Int32)), .val (.int (0 : Int32))] [(.int (9 : Int32)), (.ref b7)])) rfl rfl (hb hby at_204) _ ?_
      show Steps p.tables e below (T59.setTop (mkF m 205 #[.val (.int k0), .val (.ref b7), .val (.int (9 : Int32)), .val (.int (0 : Int32))] [(.ref w_EQUITY)])) _
      refine st80.trans ?_
      show Steps p.tables e below (T80.setTop (mkF m 208 #[.val (.int k0), .val (.ref b7), .val (.int (9 : Int32)), .val (.int (0 : Int32))] [(.int (0 : Int32))])) _
      refine XS.iloadN X80.here hx rfl (hb hby at_208) rfl ?_
      show Steps p.tables e below (T80.setTop (mkF m 209 #[.val (.int k0), .val (.ref b7), .val (.int (9 : Int32)), .val (.int (0 : Int32))] [(.int (0 : Int32)), (.int (0 : Int32))])) _
      refine XS.icmpNo X80.here hx rfl (hb hby at_209) rfl (teq (rfl : (0 : Int32) = (0 : Int32))).2 ?_
      show Steps p.tables e below (T80.setTop (mkF m 212 #[.val (.int k0), .val (.ref b7), .val (.int (9 : Int32)), .val (.int (0 : Int32))] [])) _
      refine XS.iconst X80.here hx rfl (hb hby at_212) ?_
      show Steps p.tables e below (T80.setTop (mkF m 213 #[.val (.int k0), .val (.ref b7), .val (.int (9 : Int32)), .val (.int (0 : Int32))] [(.int (1 : Int32))])) _
      refine XS.goto X80.here hx rfl (pc0 := 213) (pc' := 217) rfl (hb hby at_213) (by decide) (by decide) ?_
      show Steps p.tables e below (T80.setTop (mkF m 217 #[.val (.int k0), .val (.ref b7), .val (.int (9 : Int32)), .val (.int (0 : Int32))] [(.int (1 : Int32))])) _
      exact k_)
    obtain ⟨fs, hr, hrun, hended, hW, hsame⟩ := X80.leave (v := some (.int (1 : Int32))) (fun h => by rw [Bd.returns] at h; cases h)
    refine ⟨_, _, pre81 _ ?_, hrun, hended, _, _, rfl, ?_, ⟨_, rfl⟩, hW, hsame.mono (by decide) (by decide)⟩
    · show Steps p.tables e below (T80.setTop (mkF m 217 #[.val (.int k0), .val (.ref b7), .val (.int (9 : Int32)), .val (.int (0 : Int32))] [(.int (1 : Int32))])) _
      exact retN X80 hx (t := .boolean) Bd.returns (by simp) (hb hby at_217) hr
    · show Q_0 Z k0 w_LOAN w_DEBT_SECURITY w_DEPOSIT w_MANDATORY_RESERVE w_TRADE_FINANCE w_VENTURE_CAPITAL w_PRIVATE_EQUITY w_ALTERNATIVE_INVESTMENT_FUND w_SPECULATIVE_REAL_ESTATE w_EQUITY w_CIU_UNIT w_SECURITISATION_POSITION w_CASH w_CASH_IN_COLLECTION w_GOLD w_TANGIBLE_ASSET w_REPOSSESSED_ASSET w_UNIDENTIFIED_PREPAYMENT w_LEASE_RESIDUAL_VALUE w_GUARANTEE w_LETTER_OF_CREDIT w_UNDRAWN_COMMITMENT w_ACCEPTANCE w_NOTE_ISSUANCE_FACILITY w_FORWARD_PURCHASE w_OTHER_OFF_BALANCE w_ON_BALANCE w_OFF_BALANCE w_NO_COUNTERPARTY h0 n0 _ T80.heap _
      rw [e80]
      exact ⟨rfl, N80⟩
  · obtain ⟨cq82, kq82, q82a, q82b, q82c⟩ := isOf hZ e59 (E_CIU_UNIT.ext O59)
    obtain ⟨v82, _, ⟨T82, L82, k82, n82⟩, -, X82, ⟨Lc82, hQ82, l82, y82, z82⟩, st82⟩ := X61.virtualBack hx (y := (⟨"com/example/ponderat/ponderat/Item", "isOffBalance", "()Z"⟩ : MethodName)) (z := (⟨"com/example/ponderat/ponderat/Item", "isOffBalance", "()Z"⟩ : MethodName)) hown (mvT hZ (hw _ (List.mem_of_getElem? (i := 57) rfl))) (mvT hZ (hw _ (List.mem_of_getElem? (i := 58) rfl))) (notFace_of_selects (args := #[]) (mvT hZ (hw _ (List.mem_of_getElem? (i := 60) rfl)))) (mvT hZ (hw _ (List.mem_of_getElem? (i := 60) rfl))) (mvT hZ (hw _ (List.mem_of_getElem? (i := 59) rfl))) (by decide) (backOf (W := 0) (rm_1 l Z a0 hw [] w_CIU_UNIT w_ON_BALANCE w_OFF_BALANCE h59 n0 (Nat.le_trans Z0 O59.1) (F_CIU_UNIT_kind.ext O59) (S_OFF_BALANCE.ext O59)) hZ (hw _ (List.mem_of_getElem? (i := 61) rfl)) (hw _ (List.mem_of_getElem? (i := 3) rfl)) (by decide) (by decide)) q82a q82c (g := (mkF m 205 #[.val (.int k0), .val (.ref b7), .val (.int (10 : Int32)), .val (.int (0 : Int32))] [(.ref w_CIU_UNIT)])) rfl (by rw [hml]; rfl) (Steps.refl _) (argsL := []) (rest := []) (lenOf pd_0 rfl) rfl (by show 2 * 0 + _ ≤ _; exact Nat.le_of_eq rfl) (hb hby at_205) (fun _ _ => ⟨rfl, e59, (by decide : 1 + 0 ≤ _), (by decide : 26 + 0 ≤ _)⟩)
    dsimp only [Pt.U, Pt.locs, Pt.cells, Pt.slots] at X82 l82 y82 z82 st82 hQ82
    subst l82 y82 z82
    obtain ⟨hv82, N82q, e82⟩ := hQ82
    have N82 := Fr.app N61 N82q
    have hw82 : v82 = some (.int (0 : Int32)) := hv82.trans (by rw [if_neg n_ON_BALANCE])
    subst hw82
    have pre83 : ∀ t_, Steps p.tables e below (T82.setTop (mkF m 217 #[.val (.int k0), .val (.ref b7), .val (.int (10 : Int32)), .val (.int (0 : Int32))] [(.int (1 : Int32))])) t_ → Steps p.tables e below (s₁.setTop (entryFrame m #[(.int k0)] maxLocals)) t_ := fun t_ k_ => pre60 t_ (by
      show Steps p.tables e below (T59.setTop (mkF m 190 #[.val (.int k0), .val (.ref b7), .val (.int (10 : Int32)), .unset] [])) _
      refine XS.iloadN X61.here hx rfl (hb hby at_190) rfl ?_
      show Steps p.tables e below (T59.setTop (mkF m 191 #[.val (.int k0), .val (.ref b7), .val (.int (10 : Int32)), .unset] [(.int (10 : Int32))])) _
      refine XS.bipush X61.here hx rfl (hb hby at_191) ?_
      show Steps p.tables e below (T59.setTop (mkF m 193 #[.val (.int k0), .val (.ref b7), .val (.int (10 : Int32)), .unset] [(.int (19 : Int32)), (.int (10 : Int32))])) _
      refine XS.icmpYes X61.here hx rfl (pc0 := 193) (pc' := 200) rfl (hb hby at_193) rfl (tlt (by decide : (10 : Int32) < (19 : Int32))).1 (by decide) (by decide) ?_
      show Steps p.tables e below (T59.setTop (mkF m 200 #[.val (.int k0), .val (.ref b7), .val (.int (10 : Int32)), .unset] [])) _
      refine XS.iconst X61.here hx rfl (hb hby at_200) ?_
      show Steps p.tables e below (T59.setTop (mkF m 201 #[.val (.int k0), .val (.ref b7), .val (.int (10 : Int32)), .unset] [(.int (0 : Int32))])) _
      refine XS.istoreN X61.here hx rfl (hb hby at_201) rfl (l' := #[.val (.int k0), .val (.ref b7), .val (.int (10 : Int32)), .val (.int (0 : Int32))]) rfl ?_
      show Steps p.tables e below (T59.setTop (mkF m 202 #[.val (.int k0), .val (.ref b7), .val (.int (10 : Int32)), .val (.int (0 : Int32))] [])) _
      refine XS.aloadN X61.here hx rfl (hb hby at_202) rfl rfl ?_
      show Steps p.tables e below (T59.setTop (mkF m 203 #[.val (.int k0), .val (.ref b7), .val (.int (10 : Int32)), .val (.int (0 : Int32))] [(.ref b7)])) _
      refine XS.iloadN X61.here hx rfl (hb hby at_203) rfl ?_
      show Steps p.tables e below (T59.setTop (mkF m 204 #[.val (.int k0), .val (.ref b7), .val (.int (10 : Int32)), .val (.int (0 : Int32))] [(.int (10 : Int32)), (.ref b7)])) _
      refine X61.aaload hx (j := (10 : Int32)) (v := (.ref w_CIU_UNIT)) (by rw [e59]; exact Ar.1) (State.isArrayOf_alike hZ.alike Ar.2.1) rfl Ar.2.2 (inb_of Sz ⟨by decide, by decide⟩) (Has.at Hs (j := (10 : Int32)) (inb_of Sz ⟨by decide, by decide⟩) rfl) (g := (mkF m 204 #[.val (.int k0), .val (.ref b7), .val (.int (10 : Int32)), .val (.int (0 : Int32))] [(.int (10 : Int32)), (.ref b7)])) rfl rfl (hb hby at_204) _ ?_
      show Steps p.tables e below (T59.setTop (mkF m 205 #[.val (.int k0), .val (.ref b7), .val (.int (10 : Int32)), .val (.int (0 : Int32))] [(.ref w_CIU_UNIT)])) _
      refine st82.trans ?_
      show Steps p.tables e below (T82.setTop (mkF m 208 #[.val (.int k0), .val (.ref b7), .val (.int (10 : Int32)), .val (.int (0 : Int32))] [(.int (0 : Int32))])) _
      refine XS.iloadN X82.here hx rfl (hb hby at_208) rfl ?_
      show Steps p.tables e below (T82.setTop (mkF m 209 #[.val (.int k0), .val (.ref b7), .val (.int (10 : Int32)), .val (.int (0 : Int32))] [(.int (0 : Int32)), (.int (0 : Int32))])) _
      refine XS.icmpNo X82.here hx rfl (hb hby at_209) rfl (teq (rfl : (0 : Int32) = (0 : Int32))).2 ?_
      show Steps p.tables e below (T82.setTop (mkF m 212 #[.val (.int k0), .val (.ref b7), .val (.int (10 : Int32)), .val (.int (0 : Int32))] [])) _
      refine XS.iconst X82.here hx rfl (hb hby at_212) ?_
      show Steps p.tables e below (T82.setTop (mkF m 213 #[.val (.int k0), .val (.ref b7), .val (.int (10 : Int32)), .val (.int (0 : Int32))] [(.int (1 : Int32))])) _
      refine XS.goto X82.here hx rfl (pc0 := 213) (pc' := 217) rfl (hb hby at_213) (by decide) (by decide) ?_
      show Steps p.tables e below (T82.setTop (mkF m 217 #[.val (.int k0), .val (.ref b7), .val (.int (10 : Int32)), .val (.int (0 : Int32))] [(.int (1 : Int32))])) _
      exact k_)
    obtain ⟨fs, hr, hrun, hended, hW, hsame⟩ := X82.leave (v := some (.int (1 : Int32))) (fun h => by rw [Bd.returns] at h; cases h)
    refine ⟨_, _, pre83 _ ?_, hrun, hended, _, _, rfl, ?_, ⟨_, rfl⟩, hW, hsame.mono (by decide) (by decide)⟩
    · show Steps p.tables e below (T82.setTop (mkF m 217 #[.val (.int k0), .val (.ref b7), .val (.int (10 : Int32)), .val (.int (0 : Int32))] [(.int (1 : Int32))])) _
      exact retN X82 hx (t := .boolean) Bd.returns (by simp) (hb hby at_217) hr
    · show Q_0 Z k0 w_LOAN w_DEBT_SECURITY w_DEPOSIT w_MANDATORY_RESERVE w_TRADE_FINANCE w_VENTURE_CAPITAL w_PRIVATE_EQUITY w_ALTERNATIVE_INVESTMENT_FUND w_SPECULATIVE_REAL_ESTATE w_EQUITY w_CIU_UNIT w_SECURITISATION_POSITION w_CASH w_CASH_IN_COLLECTION w_GOLD w_TANGIBLE_ASSET w_REPOSSESSED_ASSET w_UNIDENTIFIED_PREPAYMENT w_LEASE_RESIDUAL_VALUE w_GUARANTEE w_LETTER_OF_CREDIT w_UNDRAWN_COMMITMENT w_ACCEPTANCE w_NOTE_ISSUANCE_FACILITY w_FORWARD_PURCHASE w_OTHER_OFF_BALANCE w_ON_BALANCE w_OFF_BALANCE w_NO_COUNTERPARTY h0 n0 _ T82.heap _
      rw [e82]
      exact ⟨rfl, N82⟩
  · obtain ⟨cq84, kq84, q84a, q84b, q84c⟩ := isOf hZ e59 (E_SECURITISATION_POSITION.ext O59)
    obtain ⟨v84, _, ⟨T84, L84, k84, n84⟩, -, X84, ⟨Lc84, hQ84, l84, y84, z84⟩, st84⟩ := X61.virtualBack hx (y := (⟨"com/example/ponderat/ponderat/Item", "isOffBalance", "()Z"⟩ : MethodName)) (z := (⟨"com/example/ponderat/ponderat/Item", "isOffBalance", "()Z"⟩ : MethodName)) hown (mvT hZ (hw _ (List.mem_of_getElem? (i := 57) rfl))) (mvT hZ (hw _ (List.mem_of_getElem? (i := 58) rfl))) (notFace_of_selects (args := #[]) (mvT hZ (hw _ (List.mem_of_getElem? (i := 60) rfl)))) (mvT hZ (hw _ (List.mem_of_getElem? (i := 60) rfl))) (mvT hZ (hw _ (List.mem_of_getElem? (i := 59) rfl))) (by decide) (backOf (W := 0) (rm_1 l Z a0 hw [] w_SECURITISATION_POSITION w_ON_BALANCE w_OFF_BALANCE h59 n0 (Nat.le_trans Z0 O59.1) (F_SECURITISATION_POSITION_kind.ext O59) (S_OFF_BALANCE.ext O59)) hZ (hw _ (List.mem_of_getElem? (i := 61) rfl)) (hw _ (List.mem_of_getElem? (i := 3) rfl)) (by decide) (by decide)) q84a q84c (g := (mkF m 205 #[.val (.int k0), .val (.ref b7), .val (.int (11 : Int32)), .val (.int (0 : Int32))] [(.ref w_SECURITISATION_POSITION)])) rfl (by rw [hml]; rfl) (Steps.refl _) (argsL := []) (rest := []) (lenOf pd_0 rfl) rfl (by show 2 * 0 + _ ≤ _; exact Nat.le_of_eq rfl) (hb hby at_205) (fun _ _ => ⟨rfl, e59, (by decide : 1 + 0 ≤ _), (by decide : 26 + 0 ≤ _)⟩)
    dsimp only [Pt.U, Pt.locs, Pt.cells, Pt.slots] at X84 l84 y84 z84 st84 hQ84
    subst l84 y84 z84
    obtain ⟨hv84, N84q, e84⟩ := hQ84
    have N84 := Fr.app N61 N84q
    have hw84 : v84 = some (.int (0 : Int32)) := hv84.trans (by rw [if_neg n_ON_BALANCE])
    subst hw84
    have pre85 : ∀ t_, Steps p.tables e below (T84.setTop (mkF m 217 #[.val (.int k0), .val (.ref b7), .val (.int (11 : Int32)), .val (.int (0 : Int32))] [(.int (1 : Int32))])) t_ → Steps p.tables e below (s₁.setTop (entryFrame m #[(.int k0)] maxLocals)) t_ := fun t_ k_ => pre60 t_ (by
      show Steps p.tables e below (T59.setTop (mkF m 190 #[.val (.int k0), .val (.ref b7), .val (.int (11 : Int32)), .unset] [])) _
      refine XS.iloadN X61.here hx rfl (hb hby at_190) rfl ?_
      show Steps p.tables e below (T59.setTop (mkF m 191 #[.val (.int k0), .val (.ref b7), .val (.int (11 : Int32)), .unset] [(.int (11 : Int32))])) _
      refine XS.bipush X61.here hx rfl (hb hby at_191) ?_
      show Steps p.tables e below (T59.setTop (mkF m 193 #[.val (.int k0), .val (.ref b7), .val (.int (11 : Int32)), .unset] [(.int (19 : Int32)), (.int (11 : Int32))])) _
      refine XS.icmpYes X61.here hx rfl (pc0 := 193) (pc' := 200) rfl (hb hby at_193) rfl (tlt (by decide : (11 : Int32) < (19 : Int32))).1 (by decide) (by decide) ?_
      show Steps p.tables e below (T59.setTop (mkF m 200 #[.val (.int k0), .val (.ref b7), .val (.int (11 : Int32)), .unset] [])) _
      refine XS.iconst X61.here hx rfl (hb hby at_200) ?_
      show Steps p.tables e below (T59.setTop (mkF m 201 #[.val (.int k0), .val (.ref b7), .val (.int (11 : Int32)), .unset] [(.int (0 : Int32))])) _
      refine XS.istoreN X61.here hx rfl (hb hby at_201) rfl (l' := #[.val (.int k0), .val (.ref b7), .val (.int (11 : Int32)), .val (.int (0 : Int32))]) rfl ?_
      show Steps p.tables e below (T59.setTop (mkF m 202 #[.val (.int k0), .val (.ref b7), .val (.int (11 : Int32)), .val (.int (0 : Int32))] [])) _
      refine XS.aloadN X61.here hx rfl (hb hby at_202) rfl rfl ?_
      show Steps p.tables e below (T59.setTop (mkF m 203 #[.val (.int k0), .val (.ref b7), .val (.int (11 : Int32)), .val (.int (0 : Int32))] [(.ref b7)])) _
      refine XS.iloadN X61.here hx rfl (hb hby at_203) rfl ?_
      show Steps p.tables e below (T59.setTop (mkF m 204 #[.val (.int k0), .val (.ref b7), .val (.int (11 : Int32)), .val (.int (0 : Int32))] [(.int (11 : Int32)), (.ref b7)])) _
      refine X61.aaload hx (j := (11 : Int32)) (v := (.ref w_SECURITISATION_POSITION)) (by rw [e59]; exact Ar.1) (State.isArrayOf_alike hZ.alike Ar.2.1) rfl Ar.2.2 (inb_of Sz ⟨by decide, by decide⟩) (Has.at Hs (j := (11 : Int32)) (inb_of Sz ⟨by decide, by decide⟩) rfl) (g := (mkF m 204 #[.val (.int k0), .val (.ref b7), .val (.int (11 : Int32)), .val (.int (0 : Int32))] [(.int (11 : Int32)), (.ref b7)])) rfl rfl (hb hby at_204) _ ?_
      show Steps p.tables e below (T59.setTop (mkF m 205 #[.val (.int k0), .val (.ref b7), .val (.int (11 : Int32)), .val (.int (0 : Int32))] [(.ref w_SECURITISATION_POSITION)])) _
      refine st84.trans ?_
      show Steps p.tables e below (T84.setTop (mkF m 208 #[.val (.int k0), .val (.ref b7), .val (.int (11 : Int32)), .val (.int (0 : Int32))] [(.int (0 : Int32))])) _
      refine XS.iloadN X84.here hx rfl (hb hby at_208) rfl ?_
      show Steps p.tables e below (T84.setTop (mkF m 209 #[.val (.int k0), .val (.ref b7), .val (.int (11 : Int32)), .val (.int (0 : Int32))] [(.int (0 : Int32)), (.int (0 : Int32))])) _
      refine XS.icmpNo X84.here hx rfl (hb hby at_209) rfl (teq (rfl : (0 : Int32) = (0 : Int32))).2 ?_
      show Steps p.tables e below (T84.setTop (mkF m 212 #[.val (.int k0), .val (.ref b7), .val (.int (11 : Int32)), .val (.int (0 : Int32))] [])) _
      refine XS.iconst X84.here hx rfl (hb hby at_212) ?_
      show Steps p.tables e below (T84.setTop (mkF m 213 #[.val (.int k0), .val (.ref b7), .val (.int (11 : Int32)), .val (.int (0 : Int32))] [(.int (1 : Int32))])) _
      refine XS.goto X84.here hx rfl (pc0 := 213) (pc' := 217) rfl (hb hby at_213) (by decide) (by decide) ?_
      show Steps p.tables e below (T84.setTop (mkF m 217 #[.val (.int k0), .val (.ref b7), .val (.int (11 : Int32)), .val (.int (0 : Int32))] [(.int (1 : Int32))])) _
      exact k_)
    obtain ⟨fs, hr, hrun, hended, hW, hsame⟩ := X84.leave (v := some (.int (1 : Int32))) (fun h => by rw [Bd.returns] at h; cases h)
    refine ⟨_, _, pre85 _ ?_, hrun, hended, _, _, rfl, ?_, ⟨_, rfl⟩, hW, hsame.mono (by decide) (by decide)⟩
    · show Steps p.tables e below (T84.setTop (mkF m 217 #[.val (.int k0), .val (.ref b7), .val (.int (11 : Int32)), .val (.int (0 : Int32))] [(.int (1 : Int32))])) _
      exact retN X84 hx (t := .boolean) Bd.returns (by simp) (hb hby at_217) hr
    · show Q_0 Z k0 w_LOAN w_DEBT_SECURITY w_DEPOSIT w_MANDATORY_RESERVE w_TRADE_FINANCE w_VENTURE_CAPITAL w_PRIVATE_EQUITY w_ALTERNATIVE_INVESTMENT_FUND w_SPECULATIVE_REAL_ESTATE w_EQUITY w_CIU_UNIT w_SECURITISATION_POSITION w_CASH w_CASH_IN_COLLECTION w_GOLD w_TANGIBLE_ASSET w_REPOSSESSED_ASSET w_UNIDENTIFIED_PREPAYMENT w_LEASE_RESIDUAL_VALUE w_GUARANTEE w_LETTER_OF_CREDIT w_UNDRAWN_COMMITMENT w_ACCEPTANCE w_NOTE_ISSUANCE_FACILITY w_FORWARD_PURCHASE w_OTHER_OFF_BALANCE w_ON_BALANCE w_OFF_BALANCE w_NO_COUNTERPARTY h0 n0 _ T84.heap _
      rw [e84]
      exact ⟨rfl, N84⟩
  · obtain ⟨cq86, kq86, q86a, q86b, q86c⟩ := isOf hZ e59 (E_CASH.ext O59)
    obtain ⟨v86, _, ⟨T86, L86, k86, n86⟩, -, X86, ⟨Lc86, hQ86, l86, y86, z86⟩, st86⟩ := X61.virtualBack hx (y := (⟨"com/example/ponderat/ponderat/Item", "isOffBalance", "()Z"⟩ : MethodName)) (z := (⟨"com/example/ponderat/ponderat/Item", "isOffBalance", "()Z"⟩ : MethodName)) hown (mvT hZ (hw _ (List.mem_of_getElem? (i := 57) rfl))) (mvT hZ (hw _ (List.mem_of_getElem? (i := 58) rfl))) (notFace_of_selects (args := #[]) (mvT hZ (hw _ (List.mem_of_getElem? (i := 60) rfl)))) (mvT hZ (hw _ (List.mem_of_getElem? (i := 60) rfl))) (mvT hZ (hw _ (List.mem_of_getElem? (i := 59) rfl))) (by decide) (backOf (W := 0) (rm_1 l Z a0 hw [] w_CASH w_NO_COUNTERPARTY w_OFF_BALANCE h59 n0 (Nat.le_trans Z0 O59.1) (F_CASH_kind.ext O59) (S_OFF_BALANCE.ext O59)) hZ (hw _ (List.mem_of_getElem? (i := 61) rfl)) (hw _ (List.mem_of_getElem? (i := 3) rfl)) (by decide) (by decide)) q86a q86c (g := (mkF m 205 #[.val (.int k0), .val (.ref b7), .val (.int (12 : Int32)), .val (.int (0 : Int32))] [(.ref w_CASH)])) rfl (by rw [hml]; rfl) (Steps.refl _) (argsL := []) (rest := []) (lenOf pd_0 rfl) rfl (by show 2 * 0 + _ ≤ _; exact Nat.le_of_eq rfl) (hb hby at_205) (fun _ _ => ⟨rfl, e59, (by decide : 1 + 0 ≤ _), (by decide : 26 + 0 ≤ _)⟩)
    dsimp only [Pt.U, Pt.locs, Pt.cells, Pt.slots] at X86 l86 y86 z86 st86 hQ86
    subst l86 y86 z86
    obtain ⟨hv86, N86q, e86⟩ := hQ86
    have N86 := Fr.app N61 N86q
    have hw86 : v86 = some (.int (0 : Int32)) := hv86.trans (by rw [if_neg n_NO_COUNTERPARTY])
    subst hw86
    have pre87 : ∀ t_, Steps p.tables e below (T86.setTop (mkF m 217 #[.val (.int k0), .val (.ref b7), .val (.int (12 : Int32)), .val (.int (0 : Int32))] [(.int (1 : Int32))])) t_ → Steps p.tables e below (s₁.setTop (entryFrame m #[(.int k0)] maxLocals)) t_ := fun t_ k_ => pre60 t_ (by
      show Steps p.tables e below (T59.setTop (mkF m 190 #[.val (.int k0), .val (.ref b7), .val (.int (12 : Int32)), .unset] [])) _
      refine XS.iloadN X61.here hx rfl (hb hby at_190) rfl ?_
      show Steps p.tables e below (T59.setTop (mkF m 191 #[.val (.int k0), .val (.ref b7), .val (.int (12 : Int32)), .unset] [(.int (12 : Int32))])) _
      refine XS.bipush X61.here hx rfl (hb hby at_191) ?_
      show Steps p.tables e below (T59.setTop (mkF m 193 #[.val (.int k0), .val (.ref b7), .val (.int (12 : Int32)), .unset] [(.int (19 : Int32)), (.int (12 : Int32))])) _
      refine XS.icmpYes X61.here hx rfl (pc0 := 193) (pc' := 200) rfl (hb hby at_193) rfl (tlt (by decide : (12 : Int32) < (19 : Int32))).1 (by decide) (by decide) ?_
      show Steps p.tables e below (T59.setTop (mkF m 200 #[.val (.int k0), .val (.ref b7), .val (.int (12 : Int32)), .unset] [])) _
      refine XS.iconst X61.here hx rfl (hb hby at_200) ?_
      show Steps p.tables e below (T59.setTop (mkF m 201 #[.val (.int k0), .val (.ref b7), .val (.int (12 : Int32)), .unset] [(.int (0 : Int32))])) _
      refine XS.istoreN X61.here hx rfl (hb hby at_201) rfl (l' := #[.val (.int k0), .val (.ref b7), .val (.int (12 : Int32)), .val (.int (0 : Int32))]) rfl ?_
      show Steps p.tables e below (T59.setTop (mkF m 202 #[.val (.int k0), .val (.ref b7), .val (.int (12 : Int32)), .val (.int (0 : Int32))] [])) _
      refine XS.aloadN X61.here hx rfl (hb hby at_202) rfl rfl ?_
      show Steps p.tables e below (T59.setTop (mkF m 203 #[.val (.int k0), .val (.ref b7), .val (.int (12 : Int32)), .val (.int (0 : Int32))] [(.ref b7)])) _
      refine XS.iloadN X61.here hx rfl (hb hby at_203) rfl ?_
      show Steps p.tables e below (T59.setTop (mkF m 204 #[.val (.int k0), .val (.ref b7), .val (.int (12 : Int32)), .val (.int (0 : Int32))] [(.int (12 : Int32)), (.ref b7)])) _
      refine X61.aaload hx (j := (12 : Int32)) (v := (.ref w_CASH)) (by rw [e59]; exact Ar.1) (State.isArrayOf_alike hZ.alike Ar.2.1) rfl Ar.2.2 (inb_of Sz ⟨by decide, by decide⟩) (Has.at Hs (j := (12 : Int32)) (inb_of Sz ⟨by decide, by decide⟩) rfl) (g := (mkF m 204 #[.val (.int k0), .val (.ref b7), .val (.int (12 : Int32)), .val (.int (0 : Int32))] [(.int (12 : Int32)), (.ref b7)])) rfl rfl (hb hby at_204) _ ?_
      show Steps p.tables e below (T59.setTop (mkF m 205 #[.val (.int k0), .val (.ref b7), .val (.int (12 : Int32)), .val (.int (0 : Int32))] [(.ref w_CASH)])) _
      refine st86.trans ?_
      show Steps p.tables e below (T86.setTop (mkF m 208 #[.val (.int k0), .val (.ref b7), .val (.int (12 : Int32)), .val (.int (0 : Int32))] [(.int (0 : Int32))])) _
      refine XS.iloadN X86.here hx rfl (hb hby at_208) rfl ?_
      show Steps p.tables e below (T86.setTop (mkF m 209 #[.val (.int k0), .val (.ref b7), .val (.int (12 : Int32)), .val (.int (0 : Int32))] [(.int (0 : Int32)), (.int (0 : Int32))])) _
      refine XS.icmpNo X86.here hx rfl (hb hby at_209) rfl (teq (rfl : (0 : Int32) = (0 : Int32))).2 ?_
      show Steps p.tables e below (T86.setTop (mkF m 212 #[.val (.int k0), .val (.ref b7), .val (.int (12 : Int32)), .val (.int (0 : Int32))] [])) _
      refine XS.iconst X86.here hx rfl (hb hby at_212) ?_
      show Steps p.tables e below (T86.setTop (mkF m 213 #[.val (.int k0), .val (.ref b7), .val (.int (12 : Int32)), .val (.int (0 : Int32))] [(.int (1 : Int32))])) _
      refine XS.goto X86.here hx rfl (pc0 := 213) (pc' := 217) rfl (hb hby at_213) (by decide) (by decide) ?_
      show Steps p.tables e below (T86.setTop (mkF m 217 #[.val (.int k0), .val (.ref b7), .val (.int (12 : Int32)), .val (.int (0 : Int32))] [(.int (1 : Int32))])) _
      exact k_)
    obtain ⟨fs, hr, hrun, hended, hW, hsame⟩ := X86.leave (v := some (.int (1 : Int32))) (fun h => by rw [Bd.returns] at h; cases h)
    refine ⟨_, _, pre87 _ ?_, hrun, hended, _, _, rfl, ?_, ⟨_, rfl⟩, hW, hsame.mono (by decide) (by decide)⟩
    · show Steps p.tables e below (T86.setTop (mkF m 217 #[.val (.int k0), .val (.ref b7), .val (.int (12 : Int32)), .val (.int (0 : Int32))] [(.int (1 : Int32))])) _
      exact retN X86 hx (t := .boolean) Bd.returns (by simp) (hb hby at_217) hr
    · show Q_0 Z k0 w_LOAN w_DEBT_SECURITY w_DEPOSIT w_MANDATORY_RESERVE w_TRADE_FINANCE w_VENTURE_CAPITAL w_PRIVATE_EQUITY w_ALTERNATIVE_INVESTMENT_FUND w_SPECULATIVE_REAL_ESTATE w_EQUITY w_CIU_UNIT w_SECURITISATION_POSITION w_CASH w_CASH_IN_COLLECTION w_GOLD w_TANGIBLE_ASSET w_REPOSSESSED_ASSET w_UNIDENTIFIED_PREPAYMENT w_LEASE_RESIDUAL_VALUE w_GUARANTEE w_LETTER_OF_CREDIT w_UNDRAWN_COMMITMENT w_ACCEPTANCE w_NOTE_ISSUANCE_FACILITY w_FORWARD_PURCHASE w_OTHER_OFF_BALANCE w_ON_BALANCE w_OFF_BALANCE w_NO_COUNTERPARTY h0 n0 _ T86.heap _
      rw [e86]
      exact ⟨rfl, N86⟩
  · obtain ⟨cq88, kq88, q88a, q88b, q88c⟩ := isOf hZ e59 (E_CASH_IN_COLLECTION.ext O59)
    obtain ⟨v88, _, ⟨T88, L88, k88, n88⟩, -, X88, ⟨Lc88, hQ88, l88, y88, z88⟩, st88⟩ := X61.virtualBack hx (y := (⟨"com/example/ponderat/ponderat/Item", "isOffBalance", "()Z"⟩ : MethodName)) (z := (⟨"com/example/ponderat/ponderat/Item", "isOffBalance", "()Z"⟩ : MethodName)) hown (mvT hZ (hw _ (List.mem_of_getElem? (i := 57) rfl))) (mvT hZ (hw _ (List.mem_of_getElem? (i := 58) rfl))) (notFace_of_selects (args := #[]) (mvT hZ (hw _ (List.mem_of_getElem? (i := 60) rfl)))) (mvT hZ (hw _ (List.mem_of_getElem? (i := 60) rfl))) (mvT hZ (hw _ (List.mem_of_getElem? (i := 59) rfl))) (by decide) (backOf (W := 0) (rm_1 l Z a0 hw [] w_CASH_IN_COLLECTION w_NO_COUNTERPARTY w_OFF_BALANCE h59 n0 (Nat.le_trans Z0 O59.1) (F_CASH_IN_COLLECTION_kind.ext O59) (S_OFF_BALANCE.ext O59)) hZ (hw _ (List.mem_of_getElem? (i := 61) rfl)) (hw _ (List.mem_of_getElem? (i := 3) rfl)) (by decide) (by decide)) q88a q88c (g := (mkF m 205 #[.val (.int k0), .val (.ref b7), .val (.int (13 : Int32)), .val (.int (0 : Int32))] [(.ref w_CASH_IN_COLLECTION)])) rfl (by rw [hml]; rfl) (Steps.refl _) (argsL := []) (rest := []) (lenOf pd_0 rfl) rfl (by show 2 * 0 + _ ≤ _; exact Nat.le_of_eq rfl) (hb hby at_205) (fun _ _ => ⟨rfl, e59, (by decide : 1 + 0 ≤ _), (by decide : 26 + 0 ≤ _)⟩)
    dsimp only [Pt.U, Pt.locs, Pt.cells, Pt.slots] at X88 l88 y88 z88 st88 hQ88
    subst l88 y88 z88
    obtain ⟨hv88, N88q, e88⟩ := hQ88
    have N88 := Fr.app N61 N88q
    have hw88 : v88 = some (.int (0 : Int32)) := hv88.trans (by rw [if_neg n_NO_COUNTERPARTY])
    subst hw88
    have pre89 : ∀ t_, Steps p.tables e below (T88.setTop (mkF m 217 #[.val (.int k0), .val (.ref b7), .val (.int (13 : Int32)), .val (.int (0 : Int32))] [(.int (1 : Int32))])) t_ → Steps p.tables e below (s₁.setTop (entryFrame m #[(.int k0)] maxLocals)) t_ := fun t_ k_ => pre60 t_ (by
      show Steps p.tables e below (T59.setTop (mkF m 190 #[.val (.int k0), .val (.ref b7), .val (.int (13 : Int32)), .unset] [])) _
      refine XS.iloadN X61.here hx rfl (hb hby at_190) rfl ?_
      show Steps p.tables e below (T59.setTop (mkF m 191 #[.val (.int k0), .val (.ref b7), .val (.int (13 : Int32)), .unset] [(.int (13 : Int32))])) _
      refine XS.bipush X61.here hx rfl (hb hby at_191) ?_
      show Steps p.tables e below (T59.setTop (mkF m 193 #[.val (.int k0), .val (.ref b7), .val (.int (13 : Int32)), .unset] [(.int (19 : Int32)), (.int (13 : Int32))])) _
      refine XS.icmpYes X61.here hx rfl (pc0 := 193) (pc' := 200) rfl (hb hby at_193) rfl (tlt (by decide : (13 : Int32) < (19 : Int32))).1 (by decide) (by decide) ?_
      show Steps p.tables e below (T59.setTop (mkF m 200 #[.val (.int k0), .val (.ref b7), .val (.int (13 : Int32)), .unset] [])) _
      refine XS.iconst X61.here hx rfl (hb hby at_200) ?_
      show Steps p.tables e below (T59.setTop (mkF m 201 #[.val (.int k0), .val (.ref b7), .val (.int (13 : Int32)), .unset] [(.int (0 : Int32))])) _
      refine XS.istoreN X61.here hx rfl (hb hby at_201) rfl (l' := #[.val (.int k0), .val (.ref b7), .val (.int (13 : Int32)), .val (.int (0 : Int32))]) rfl ?_
      show Steps p.tables e below (T59.setTop (mkF m 202 #[.val (.int k0), .val (.ref b7), .val (.int (13 : Int32)), .val (.int (0 : Int32))] [])) _
      refine XS.aloadN X61.here hx rfl (hb hby at_202) rfl rfl ?_
      show Steps p.tables e below (T59.setTop (mkF m 203 #[.val (.int k0), .val (.ref b7), .val (.int (13 : Int32)), .val (.int (0 : Int32))] [(.ref b7)])) _
      refine XS.iloadN X61.here hx rfl (hb hby at_203) rfl ?_
      show Steps p.tables e below (T59.setTop (mkF m 204 #[.val (.int k0), .val (.ref b7), .val (.int (13 : Int32)), .val (.int (0 : Int32))] [(.int (13 : Int32)), (.ref b7)])) _
      refine X61.aaload hx (j := (13 : Int32)) (v := (.ref w_CASH_IN_COLLECTION)) (by rw [e59]; exact Ar.1) (State.isArrayOf_alike hZ.alike Ar.2.1) rfl Ar.2.2 (inb_of Sz ⟨by decide, by decide⟩) (Has.at Hs (j := (13 : Int32)) (inb_of Sz ⟨by decide, by decide⟩) rfl) (g := (mkF m 204 #[.val (.int k0), .val (.ref b7), .val (.int (13 : Int32)), .val (.int (0 : Int32))] [(.int (13 : Int32)), (.ref b7)])) rfl rfl (hb hby at_204) _ ?_
      show Steps p.tables e below (T59.setTop (mkF m 205 #[.val (.int k0), .val (.ref b7), .val (.int (13 : Int32)), .val (.int (0 : Int32))] [(.ref w_CASH_IN_COLLECTION)])) _
      refine st88.trans ?_
      show Steps p.tables e below (T88.setTop (mkF m 208 #[.val (.int k0), .val (.ref b7), .val (.int (13 : Int32)), .val (.int (0 : Int32))] [(.int (0 : Int32))])) _
      refine XS.iloadN X88.here hx rfl (hb hby at_208) rfl ?_
      show Steps p.tables e below (T88.setTop (mkF m 209 #[.val (.int k0), .val (.ref b7), .val (.int (13 : Int32)), .val (.int (0 : Int32))] [(.int (0 : Int32)), (.int (0 : Int32))])) _
      refine XS.icmpNo X88.here hx rfl (hb hby at_209) rfl (teq (rfl : (0 : Int32) = (0 : Int32))).2 ?_
      show Steps p.tables e below (T88.setTop (mkF m 212 #[.val (.int k0), .val (.ref b7), .val (.int (13 : Int32)), .val (.int (0 : Int32))] [])) _
      refine XS.iconst X88.here hx rfl (hb hby at_212) ?_
      show Steps p.tables e below (T88.setTop (mkF m 213 #[.val (.int k0), .val (.ref b7), .val (.int (13 : Int32)), .val (.int (0 : Int32))] [(.int (1 : Int32))])) _
      refine XS.goto X88.here hx rfl (pc0 := 213) (pc' := 217) rfl (hb hby at_213) (by decide) (by decide) ?_
      show Steps p.tables e below (T88.setTop (mkF m 217 #[.val (.int k0), .val (.ref b7), .val (.int (13 : Int32)), .val (.int (0 : Int32))] [(.int (1 : Int32))])) _
      exact k_)
    obtain ⟨fs, hr, hrun, hended, hW, hsame⟩ := X88.leave (v := some (.int (1 : Int32))) (fun h => by rw [Bd.returns] at h; cases h)
    refine ⟨_, _, pre89 _ ?_, hrun, hended, _, _, rfl, ?_, ⟨_, rfl⟩, hW, hsame.mono (by decide) (by decide)⟩
    · show Steps p.tables e below (T88.setTop (mkF m 217 #[.val (.int k0), .val (.ref b7), .val (.int (13 : Int32)), .val (.int (0 : Int32))] [(.int (1 : Int32))])) _
      exact retN X88 hx (t := .boolean) Bd.returns (by simp) (hb hby at_217) hr
    · show Q_0 Z k0 w_LOAN w_DEBT_SECURITY w_DEPOSIT w_MANDATORY_RESERVE w_TRADE_FINANCE w_VENTURE_CAPITAL w_PRIVATE_EQUITY w_ALTERNATIVE_INVESTMENT_FUND w_SPECULATIVE_REAL_ESTATE w_EQUITY w_CIU_UNIT w_SECURITISATION_POSITION w_CASH w_CASH_IN_COLLECTION w_GOLD w_TANGIBLE_ASSET w_REPOSSESSED_ASSET w_UNIDENTIFIED_PREPAYMENT w_LEASE_RESIDUAL_VALUE w_GUARANTEE w_LETTER_OF_CREDIT w_UNDRAWN_COMMITMENT w_ACCEPTANCE w_NOTE_ISSUANCE_FACILITY w_FORWARD_PURCHASE w_OTHER_OFF_BALANCE w_ON_BALANCE w_OFF_BALANCE w_NO_COUNTERPARTY h0 n0 _ T88.heap _
      rw [e88]
      exact ⟨rfl, N88⟩
  · obtain ⟨cq90, kq90, q90a, q90b, q90c⟩ := isOf hZ e59 (E_GOLD.ext O59)
    obtain ⟨v90, _, ⟨T90, L90, k90, n90⟩, -, X90, ⟨Lc90, hQ90, l90, y90, z90⟩, st90⟩ := X61.virtualBack hx (y := (⟨"com/example/ponderat/ponderat/Item", "isOffBalance", "()Z"⟩ : MethodName)) (z := (⟨"com/example/ponderat/ponderat/Item", "isOffBalance", "()Z"⟩ : MethodName)) hown (mvT hZ (hw _ (List.mem_of_getElem? (i := 57) rfl))) (mvT hZ (hw _ (List.mem_of_getElem? (i := 58) rfl))) (notFace_of_selects (args := #[]) (mvT hZ (hw _ (List.mem_of_getElem? (i := 60) rfl)))) (mvT hZ (hw _ (List.mem_of_getElem? (i := 60) rfl))) (mvT hZ (hw _ (List.mem_of_getElem? (i := 59) rfl))) (by decide) (backOf (W := 0) (rm_1 l Z a0 hw [] w_GOLD w_NO_COUNTERPARTY w_OFF_BALANCE h59 n0 (Nat.le_trans Z0 O59.1) (F_GOLD_kind.ext O59) (S_OFF_BALANCE.ext O59)) hZ (hw _ (List.mem_of_getElem? (i := 61) rfl)) (hw _ (List.mem_of_getElem? (i := 3) rfl)) (by decide) (by decide)) q90a q90c (g := (mkF m 205 #[.val (.int k0), .val (.ref b7), .val (.int (14 : Int32)), .val (.int (0 : Int32))] [(.ref w_GOLD)])) rfl (by rw [hml]; rfl) (Steps.refl _) (argsL := []) (rest := []) (lenOf pd_0 rfl) rfl (by show 2 * 0 + _ ≤ _; exact Nat.le_of_eq rfl) (hb hby at_205) (fun _ _ => ⟨rfl, e59, (by decide : 1 + 0 ≤ _), (by decide : 26 + 0 ≤ _)⟩)
    dsimp only [Pt.U, Pt.locs, Pt.cells, Pt.slots] at X90 l90 y90 z90 st90 hQ90
    subst l90 y90 z90
    obtain ⟨hv90, N90q, e90⟩ := hQ90
    have N90 := Fr.app N61 N90q
    have hw90 : v90 = some (.int (0 : Int32)) := hv90.trans (by rw [if_neg n_NO_COUNTERPARTY])
    subst hw90
    have pre91 : ∀ t_, Steps p.tables e below (T90.setTop (mkF m 217 #[.val (.int k0), .val (.ref b7), .val (.int (14 : Int32)), .val (.int (0 : Int32))] [(.int (1 : Int32))])) t_ → Steps p.tables e below (s₁.setTop (entryFrame m #[(.int k0)] maxLocals)) t_ := fun t_ k_ => pre60 t_ (by
      show Steps p.tables e below (T59.setTop (mkF m 190 #[.val (.int k0), .val (.ref b7), .val (.int (14 : Int32)), .unset] [])) _
      refine XS.iloadN X61.here hx rfl (hb hby at_190) rfl ?_
      show Steps p.tables e below (T59.setTop (mkF m 191 #[.val (.int k0), .val (.ref b7), .val (.int (14 : Int32)), .unset] [(.int (14 : Int32))])) _
      refine XS.bipush X61.here hx rfl (hb hby at_191) ?_
      show Steps p.tables e below (T59.setTop (mkF m 193 #[.val (.int k0), .val (.ref b7), .val (.int (14 : Int32)), .unset] [(.int (19 : Int32)), (.int (14 : Int32))])) _
      refine XS.icmpYes X61.here hx rfl (pc0 := 193) (pc' := 200) rfl (hb hby at_193) rfl (tlt (by decide : (14 : Int32) < (19 : Int32))).1 (by decide) (by decide) ?_
      show Steps p.tables e below (T59.setTop (mkF m 200 #[.val (.int k0), .val (.ref b7), .val (.int (14 : Int32)), .unset] [])) _
      refine XS.iconst X61.here hx rfl (hb hby at_200) ?_
      show Steps p.tables e below (T59.setTop (mkF m 201 #[.val (.int k0), .val (.ref b7), .val (.int (14 : Int32)), .unset] [(.int (0 : Int32))])) _
      refine XS.istoreN X61.here hx rfl (hb hby at_201) rfl (l' := #[.val (.int k0), .val (.ref b7), .val (.int (14 : Int32)), .val (.int (0 : Int32))]) rfl ?_
      show Steps p.tables e below (T59.setTop (mkF m 202 #[.val (.int k0), .val (.ref b7), .val (.int (14 : Int32)), .val (.int (0 : Int32))] [])) _
      refine XS.aloadN X61.here hx rfl (hb hby at_202) rfl rfl ?_
      show Steps p.tables e below (T59.setTop (mkF m 203 #[.val (.int k0), .val (.ref b7), .val (.int (14 : Int32)), .val (.int (0 : Int32))] [(.ref b7)])) _
      refine XS.iloadN X61.here hx rfl (hb hby at_203) rfl ?_
      show Steps p.tables e below (T59.setTop (mkF m 204 #[.val (.int k0), .val (.ref b7), .val (.int (14 : Int32)), .val (.int (0 : Int32))] [(.int (14 : Int32)), (.ref b7)])) _
      refine X61.aaload hx (j := (14 : Int32)) (v := (.ref w_GOLD)) (by rw [e59]; exact Ar.1) (State.isArrayOf_alike hZ.alike Ar.2.1) rfl Ar.2.2 (inb_of Sz ⟨by decide, by decide⟩) (Has.at Hs (j := (14 : Int32)) (inb_of Sz ⟨by decide, by decide⟩) rfl) (g := (mkF m 204 #[.val (.int k0), .val (.ref b7), .val (.int (14 : Int32)), .val (.int (0 : Int32))] [(.int (14 : Int32)), (.ref b7)])) rfl rfl (hb hby at_204) _ ?_
      show Steps p.tables e below (T59.setTop (mkF m 205 #[.val (.int k0), .val (.ref b7), .val (.int (14 : Int32)), .val (.int (0 : Int32))] [(.ref w_GOLD)])) _
      refine st90.trans ?_
      show Steps p.tables e below (T90.setTop (mkF m 208 #[.val (.int k0), .val (.ref b7), .val (.int (14 : Int32)), .val (.int (0 : Int32))] [(.int (0 : Int32))])) _
      refine XS.iloadN X90.here hx rfl (hb hby at_208) rfl ?_
      show Steps p.tables e below (T90.setTop (mkF m 209 #[.val (.int k0), .val (.ref b7), .val (.int (14 : Int32)), .val (.int (0 : Int32))] [(.int (0 : Int32)), (.int (0 : Int32))])) _
      refine XS.icmpNo X90.here hx rfl (hb hby at_209) rfl (teq (rfl : (0 : Int32) = (0 : Int32))).2 ?_
      show Steps p.tables e below (T90.setTop (mkF m 212 #[.val (.int k0), .val (.ref b7), .val (.int (14 : Int32)), .val (.int (0 : Int32))] [])) _
      refine XS.iconst X90.here hx rfl (hb hby at_212) ?_
      show Steps p.tables e below (T90.setTop (mkF m 213 #[.val (.int k0), .val (.ref b7), .val (.int (14 : Int32)), .val (.int (0 : Int32))] [(.int (1 : Int32))])) _
      refine XS.goto X90.here hx rfl (pc0 := 213) (pc' := 217) rfl (hb hby at_213) (by decide) (by decide) ?_
      show Steps p.tables e below (T90.setTop (mkF m 217 #[.val (.int k0), .val (.ref b7), .val (.int (14 : Int32)), .val (.int (0 : Int32))] [(.int (1 : Int32))])) _
      exact k_)
    obtain ⟨fs, hr, hrun, hended, hW, hsame⟩ := X90.leave (v := some (.int (1 : Int32))) (fun h => by rw [Bd.returns] at h; cases h)
    refine ⟨_, _, pre91 _ ?_, hrun, hended, _, _, rfl, ?_, ⟨_, rfl⟩, hW, hsame.mono (by decide) (by decide)⟩
    · show Steps p.tables e below (T90.setTop (mkF m 217 #[.val (.int k0), .val (.ref b7), .val (.int (14 : Int32)), .val (.int (0 : Int32))] [(.int (1 : Int32))])) _
      exact retN X90 hx (t := .boolean) Bd.returns (by simp) (hb hby at_217) hr
    · show Q_0 Z k0 w_LOAN w_DEBT_SECURITY w_DEPOSIT w_MANDATORY_RESERVE w_TRADE_FINANCE w_VENTURE_CAPITAL w_PRIVATE_EQUITY w_ALTERNATIVE_INVESTMENT_FUND w_SPECULATIVE_REAL_ESTATE w_EQUITY w_CIU_UNIT w_SECURITISATION_POSITION w_CASH w_CASH_IN_COLLECTION w_GOLD w_TANGIBLE_ASSET w_REPOSSESSED_ASSET w_UNIDENTIFIED_PREPAYMENT w_LEASE_RESIDUAL_VALUE w_GUARANTEE w_LETTER_OF_CREDIT w_UNDRAWN_COMMITMENT w_ACCEPTANCE w_NOTE_ISSUANCE_FACILITY w_FORWARD_PURCHASE w_OTHER_OFF_BALANCE w_ON_BALANCE w_OFF_BALANCE w_NO_COUNTERPARTY h0 n0 _ T90.heap _
      rw [e90]
      exact ⟨rfl, N90⟩
  · obtain ⟨cq92, kq92, q92a, q92b, q92c⟩ := isOf hZ e59 (E_TANGIBLE_ASSET.ext O59)
    obtain ⟨v92, _, ⟨T92, L92, k92, n92⟩, -, X92, ⟨Lc92, hQ92, l92, y92, z92⟩, st92⟩ := X61.virtualBack hx (y := (⟨"com/example/ponderat/ponderat/Item", "isOffBalance", "()Z"⟩ : MethodName)) (z := (⟨"com/example/ponderat/ponderat/Item", "isOffBalance", "()Z"⟩ : MethodName)) hown (mvT hZ (hw _ (List.mem_of_getElem? (i := 57) rfl))) (mvT hZ (hw _ (List.mem_of_getElem? (i := 58) rfl))) (notFace_of_selects (args := #[]) (mvT hZ (hw _ (List.mem_of_getElem? (i := 60) rfl)))) (mvT hZ (hw _ (List.mem_of_getElem? (i := 60) rfl))) (mvT hZ (hw _ (List.mem_of_getElem? (i := 59) rfl))) (by decide) (backOf (W := 0) (rm_1 l Z a0 hw [] w_TANGIBLE_ASSET w_NO_COUNTERPARTY w_OFF_BALANCE h59 n0 (Nat.le_trans Z0 O59.1) (F_TANGIBLE_ASSET_kind.ext O59) (S_OFF_BALANCE.ext O59)) hZ (hw _ (List.mem_of_getElem? (i := 61) rfl)) (hw _ (List.mem_of_getElem? (i := 3) rfl)) (by decide) (by decide)) q92a q92c (g := (mkF m 205 #[.val (.int k0), .val (.ref b7), .val (.int (15 : Int32)), .val (.int (0 : Int32))] [(.ref w_TANGIBLE_ASSET)])) rfl (by rw [hml]; rfl) (Steps.refl _) (argsL := []) (rest := []) (lenOf pd_0 rfl) rfl (by show 2 * 0 + _ ≤ _; exact Nat.le_of_eq rfl) (hb hby at_205) (fun _ _ => ⟨rfl, e59, (by decide : 1 + 0 ≤ _), (by decide : 26 + 0 ≤ _)⟩)
    dsimp only [Pt.U, Pt.locs, Pt.cells, Pt.slots] at X92 l92 y92 z92 st92 hQ92
    subst l92 y92 z92
    obtain ⟨hv92, N92q, e92⟩ := hQ92
    have N92 := Fr.app N61 N92q
    have hw92 : v92 = some (.int (0 : Int32)) := hv92.trans (by rw [if_neg n_NO_COUNTERPARTY])
    subst hw92
    have pre93 : ∀ t_, Steps p.tables e below (T92.setTop (mkF m 217 #[.val (.int k0), .val (.ref b7), .val (.int (15 : Int32)), .val (.int (0 : Int32))] [(.int (1 : Int32))])) t_ → Steps p.tables e below (s₁.setTop (entryFrame m #[(.int k0)] maxLocals)) t_ := fun t_ k_ => pre60 t_ (by
      show Steps p.tables e below (T59.setTop (mkF m 190 #[.val (.int k0), .val (.ref b7), .val (.int (15 : Int32)), .unset] [])) _
      refine XS.iloadN X61.here hx rfl (hb hby at_190) rfl ?_
      show Steps p.tables e below (T59.setTop (mkF m 191 #[.val (.int k0), .val (.ref b7), .val (.int (15 : Int32)), .unset] [(.int (15 : Int32))])) _
      refine XS.bipush X61.here hx rfl (hb hby at_191) ?_
      show Steps p.tables e below (T59.setTop (mkF m 193 #[.val (.int k0), .val (.ref b7), .val (.int (15 : Int32)), .unset] [(.int (19 : Int32)), (.int (15 : Int32))])) _
      refine XS.icmpYes X61.here hx rfl (pc0 := 193) (pc' := 200) rfl (hb hby at_193) rfl (tlt (by decide : (15 : Int32) < (19 : Int32))).1 (by decide) (by decide) ?_
      show Steps p.tables e below (T59.setTop (mkF m 200 #[.val (.int k0), .val (.ref b7), .val (.int (15 : Int32)), .unset] [])) _
      refine XS.iconst X61.here hx rfl (hb hby at_200) ?_
      show Steps p.tables e below (T59.setTop (mkF m 201 #[.val (.int k0), .val (.ref b7), .val (.int (15 : Int32)), .unset] [(.int (0 : Int32))])) _
      refine XS.istoreN X61.here hx rfl (hb hby at_201) rfl (l' := #[.val (.int k0), .val (.ref b7), .val (.int (15 : Int32)), .val (.int (0 : Int32))]) rfl ?_
      show Steps p.tables e below (T59.setTop (mkF m 202 #[.val (.int k0), .val (.ref b7), .val (.int (15 : Int32)), .val (.int (0 : Int32))] [])) _
      refine XS.aloadN X61.here hx rfl (hb hby at_202) rfl rfl ?_
      show Steps p.tables e below (T59.setTop (mkF m 203 #[.val (.int k0), .val (.ref b7), .val (.int (15 : Int32)), .val (.int (0 : Int32))] [(.ref b7)])) _
      refine XS.iloadN X61.here hx rfl (hb hby at_203) rfl ?_
      show Steps p.tables e below (T59.setTop (mkF m 204 #[.val (.int k0), .val (.ref b7), .val (.int (15 : Int32)), .val (.int (0 : Int32))] [(.int (15 : Int32)), (.ref b7)])) _
      refine X61.aaload hx (j := (15 : Int32)) (v := (.ref w_TANGIBLE_ASSET)) (by rw [e59]; exact Ar.1) (State.isArrayOf_alike hZ.alike Ar.2.1) rfl Ar.2.2 (inb_of Sz ⟨by decide, by decide⟩) (Has.at Hs (j := (15 : Int32)) (inb_of Sz ⟨by decide, by decide⟩) rfl) (g := (mkF m 204 #[.val (.int k0), .val (.ref b7), .val (.int (15 : Int32)), .val (.int (0 : Int32))] [(.int (15 : Int32)), (.ref b7)])) rfl rfl (hb hby at_204) _ ?_
      show Steps p.tables e below (T59.setTop (mkF m 205 #[.val (.int k0), .val (.ref b7), .val (.int (15 : Int32)), .val (.int (0 : Int32))] [(.ref w_TANGIBLE_ASSET)])) _
      refine st92.trans ?_
      show Steps p.tables e below (T92.setTop (mkF m 208 #[.val (.int k0), .val (.ref b7), .val (.int (15 : Int32)), .val (.int (0 : Int32))] [(.int (0 : Int32))])) _
      refine XS.iloadN X92.here hx rfl (hb hby at_208) rfl ?_
      show Steps p.tables e below (T92.setTop (mkF m 209 #[.val (.int k0), .val (.ref b7), .val (.int (15 : Int32)), .val (.int (0 : Int32))] [(.int (0 : Int32)), (.int (0 : Int32))])) _
      refine XS.icmpNo X92.here hx rfl (hb hby at_209) rfl (teq (rfl : (0 : Int32) = (0 : Int32))).2 ?_
      show Steps p.tables e below (T92.setTop (mkF m 212 #[.val (.int k0), .val (.ref b7), .val (.int (15 : Int32)), .val (.int (0 : Int32))] [])) _
      refine XS.iconst X92.here hx rfl (hb hby at_212) ?_
      show Steps p.tables e below (T92.setTop (mkF m 213 #[.val (.int k0), .val (.ref b7), .val (.int (15 : Int32)), .val (.int (0 : Int32))] [(.int (1 : Int32))])) _
      refine XS.goto X92.here hx rfl (pc0 := 213) (pc' := 217) rfl (hb hby at_213) (by decide) (by decide) ?_
      show Steps p.tables e below (T92.setTop (mkF m 217 #[.val (.int k0), .val (.ref b7), .val (.int (15 : Int32)), .val (.int (0 : Int32))] [(.int (1 : Int32))])) _
      exact k_)
    obtain ⟨fs, hr, hrun, hended, hW, hsame⟩ := X92.leave (v := some (.int (1 : Int32))) (fun h => by rw [Bd.returns] at h; cases h)
    refine ⟨_, _, pre93 _ ?_, hrun, hended, _, _, rfl, ?_, ⟨_, rfl⟩, hW, hsame.mono (by decide) (by decide)⟩
    · show Steps p.tables e below (T92.setTop (mkF m 217 #[.val (.int k0), .val (.ref b7), .val (.int (15 : Int32)), .val (.int (0 : Int32))] [(.int (1 : Int32))])) _
      exact retN X92 hx (t := .boolean) Bd.returns (by simp) (hb hby at_217) hr
    · show Q_0 Z k0 w_LOAN w_DEBT_SECURITY w_DEPOSIT w_MANDATORY_RESERVE w_TRADE_FINANCE w_VENTURE_CAPITAL w_PRIVATE_EQUITY w_ALTERNATIVE_INVESTMENT_FUND w_SPECULATIVE_REAL_ESTATE w_EQUITY w_CIU_UNIT w_SECURITISATION_POSITION w_CASH w_CASH_IN_COLLECTION w_GOLD w_TANGIBLE_ASSET w_REPOSSESSED_ASSET w_UNIDENTIFIED_PREPAYMENT w_LEASE_RESIDUAL_VALUE w_GUARANTEE w_LETTER_OF_CREDIT w_UNDRAWN_COMMITMENT w_ACCEPTANCE w_NOTE_ISSUANCE_FACILITY w_FORWARD_PURCHASE w_OTHER_OFF_BALANCE w_ON_BALANCE w_OFF_BALANCE w_NO_COUNTERPARTY h0 n0 _ T92.heap _
      rw [e92]
      exact ⟨rfl, N92⟩
  · obtain ⟨cq94, kq94, q94a, q94b, q94c⟩ := isOf hZ e59 (E_REPOSSESSED_ASSET.ext O59)
    obtain ⟨v94, _, ⟨T94, L94, k94, n94⟩, -, X94, ⟨Lc94, hQ94, l94, y94, z94⟩, st94⟩ := X61.virtualBack hx (y := (⟨"com/example/ponderat/ponderat/Item", "isOffBalance", "()Z"⟩ : MethodName)) (z := (⟨"com/example/ponderat/ponderat/Item", "isOffBalance", "()Z"⟩ : MethodName)) hown (mvT hZ (hw _ (List.mem_of_getElem? (i := 57) rfl))) (mvT hZ (hw _ (List.mem_of_getElem? (i := 58) rfl))) (notFace_of_selects (args := #[]) (mvT hZ (hw _ (List.mem_of_getElem? (i := 60) rfl)))) (mvT hZ (hw _ (List.mem_of_getElem? (i := 60) rfl))) (mvT hZ (hw _ (List.mem_of_getElem? (i := 59) rfl))) (by decide) (backOf (W := 0) (rm_1 l Z a0 hw [] w_REPOSSESSED_ASSET w_NO_COUNTERPARTY w_OFF_BALANCE h59 n0 (Nat.le_trans Z0 O59.1) (F_REPOSSESSED_ASSET_kind.ext O59) (S_OFF_BALANCE.ext O59)) hZ (hw _ (List.mem_of_getElem? (i := 61) rfl)) (hw _ (List.mem_of_getElem? (i := 3) rfl)) (by decide) (by decide)) q94a q94c (g := (mkF m 205 #[.val (.int k0), .val (.ref b7), .val (.int (16 : Int32)), .val (.int (0 : Int32))] [(.ref w_REPOSSESSED_ASSET)])) rfl (by rw [hml]; rfl) (Steps.refl _) (argsL := []) (rest := []) (lenOf pd_0 rfl) rfl (by show 2 * 0 + _ ≤ _; exact Nat.le_of_eq rfl) (hb hby at_205) (fun _ _ => ⟨rfl, e59, (by decide : 1 + 0 ≤ _), (by decide : 26 + 0 ≤ _)⟩)
    dsimp only [Pt.U, Pt.locs, Pt.cells, Pt.slots] at X94 l94 y94 z94 st94 hQ94
    subst l94 y94 z94
    obtain ⟨hv94, N94q, e94⟩ := hQ94
    have N94 := Fr.app N61 N94q
    have hw94 : v94 = some (.int (0 : Int32)) := hv94.trans (by rw [if_neg n_NO_COUNTERPARTY])
    subst hw94
    have pre95 : ∀ t_, Steps p.tables e below (T94.setTop (mkF m 217 #[.val (.int k0), .val (.ref b7), .val (.int (16 : Int32)), .val (.int (0 : Int32))] [(.int (1 : Int32))])) t_ → Steps p.tables e below (s₁.setTop (entryFrame m #[(.int k0)] maxLocals)) t_ := fun t_ k_ => pre60 t_ (by
      show Steps p.tables e below (T59.setTop (mkF m 190 #[.val (.int k0), .val (.ref b7), .val (.int (16 : Int32)), .unset] [])) _
      refine XS.iloadN X61.here hx rfl (hb hby at_190) rfl ?_
      show Steps p.tables e below (T59.setTop (mkF m 191 #[.val (.int k0), .val (.ref b7), .val (.int (16 : Int32)), .unset] [(.int (16 : Int32))])) _
      refine XS.bipush X61.here hx rfl (hb hby at_191) ?_
      show Steps p.tables e below (T59.setTop (mkF m 193 #[.val (.int k0), .val (.ref b7), .val (.int (16 : Int32)), .unset] [(.int (19 : Int32)), (.int (16 : Int32))])) _
      refine XS.icmpYes X61.here hx rfl (pc0 := 193) (pc' := 200) rfl (hb hby at_193) rfl (tlt (by decide : (16 : Int32) < (19 : Int32))).1 (by decide) (by decide) ?_
      show Steps p.tables e below (T59.setTop (mkF m 200 #[.val (.int k0), .val (.ref b7), .val (.int (16 : Int32)), .unset] [])) _
      refine XS.iconst X61.here hx rfl (hb hby at_200) ?_
      show Steps p.tables e below (T59.setTop (mkF m 201 #[.val (.int k0), .val (.ref b7), .val (.int (16 : Int32)), .unset] [(.int (0 : Int32))])) _
      refine XS.istoreN X61.here hx rfl (hb hby at_201) rfl (l' := #[.val (.int k0), .val (.ref b7), .val (.int (16 : Int32)), .val (.int (0 : Int32))]) rfl ?_
      show Steps p.tables e below (T59.setTop (mkF m 202 #[.val (.int k0), .val (.ref b7), .val (.int (16 : Int32)), .val (.int (0 : Int32))] [])) _
      refine XS.aloadN X61.here hx rfl (hb hby at_202) rfl rfl ?_
      show Steps p.tables e below (T59.setTop (mkF m 203 #[.val (.int k0), .val (.ref b7), .val (.int (16 : Int32)), .val (.int (0 : Int32))] [(.ref b7)])) _
      refine XS.iloadN X61.here hx rfl (hb hby at_203) rfl ?_
      show Steps p.tables e below (T59.setTop (mkF m 204 #[.val (.int k0), .val (.ref b7), .val (.int (16 : Int32)), .val (.int (0 : Int32))] [(.int (16 : Int32)), (.ref b7)])) _
      refine X61.aaload hx (j := (16 : Int32)) (v := (.ref w_REPOSSESSED_ASSET)) (by rw [e59]; exact Ar.1) (State.isArrayOf_alike hZ.alike Ar.2.1) rfl Ar.2.2 (inb_of Sz ⟨by decide, by decide⟩) (Has.at Hs (j := (16 : Int32)) (inb_of Sz ⟨by decide, by decide⟩) rfl) (g := (mkF m 204 #[.val (.int k0), .val (.ref b7), .val (.int (16 : Int32)), .val (.int (0 : Int32))] [(.int (16 : Int32)), (.ref b7)])) rfl rfl (hb hby at_204) _ ?_
      show Steps p.tables e below (T59.setTop (mkF m 205 #[.val (.int k0), .val (.ref b7), .val (.int (16 : Int32)), .val (.int (0 : Int32))] [(.ref w_REPOSSESSED_ASSET)])) _
      refine st94.trans ?_
      show Steps p.tables e below (T94.setTop (mkF m 208 #[.val (.int k0), .val (.ref b7), .val (.int (16 : Int32)), .val (.int (0 : Int32))] [(.int (0 : Int32))])) _
      refine XS.iloadN X94.here hx rfl (hb hby at_208) rfl ?_
      show Steps p.tables e below (T94.setTop (mkF m 209 #[.val (.int k0), .val (.ref b7), .val (.int (16 : Int32)), .val (.int (0 : Int32))] [(.int (0 : Int32)), (.int (0 : Int32))])) _
      refine XS.icmpNo X94.here hx rfl (hb hby at_209) rfl (teq (rfl : (0 : Int32) = (0 : Int32))).2 ?_
      show Steps p.tables e below (T94.setTop (mkF m 212 #[.val (.int k0), .val (.ref b7), .val (.int (16 : Int32)), .val (.int (0 : Int32))] [])) _
      refine XS.iconst X94.here hx rfl (hb hby at_212) ?_
      show Steps p.tables e below (T94.setTop (mkF m 213 #[.val (.int k0), .val (.ref b7), .val (.int (16 : Int32)), .val (.int (0 : Int32))] [(.int (1 : Int32))])) _
      refine XS.goto X94.here hx rfl (pc0 := 213) (pc' := 217) rfl (hb hby at_213) (by decide) (by decide) ?_
      show Steps p.tables e below (T94.setTop (mkF m 217 #[.val (.int k0), .val (.ref b7), .val (.int (16 : Int32)), .val (.int (0 : Int32))] [(.int (1 : Int32))])) _
      exact k_)
    obtain ⟨fs, hr, hrun, hended, hW, hsame⟩ := X94.leave (v := some (.int (1 : Int32))) (fun h => by rw [Bd.returns] at h; cases h)
    refine ⟨_, _, pre95 _ ?_, hrun, hended, _, _, rfl, ?_, ⟨_, rfl⟩, hW, hsame.mono (by decide) (by decide)⟩
    · show Steps p.tables e below (T94.setTop (mkF m 217 #[.val (.int k0), .val (.ref b7), .val (.int (16 : Int32)), .val (.int (0 : Int32))] [(.int (1 : Int32))])) _
      exact retN X94 hx (t := .boolean) Bd.returns (by simp) (hb hby at_217) hr
    · show Q_0 Z k0 w_LOAN w_DEBT_SECURITY w_DEPOSIT w_MANDATORY_RESERVE w_TRADE_FINANCE w_VENTURE_CAPITAL w_PRIVATE_EQUITY w_ALTERNATIVE_INVESTMENT_FUND w_SPECULATIVE_REAL_ESTATE w_EQUITY w_CIU_UNIT w_SECURITISATION_POSITION w_CASH w_CASH_IN_COLLECTION w_GOLD w_TANGIBLE_ASSET w_REPOSSESSED_ASSET w_UNIDENTIFIED_PREPAYMENT w_LEASE_RESIDUAL_VALUE w_GUARANTEE w_LETTER_OF_CREDIT w_UNDRAWN_COMMITMENT w_ACCEPTANCE w_NOTE_ISSUANCE_FACILITY w_FORWARD_PURCHASE w_OTHER_OFF_BALANCE w_ON_BALANCE w_OFF_BALANCE w_NO_COUNTERPARTY h0 n0 _ T94.heap _
      rw [e94]
      exact ⟨rfl, N94⟩
  · obtain ⟨cq96, kq96, q96a, q96b, q96c⟩ := isOf hZ e59 (E_UNIDENTIFIED_PREPAYMENT.ext O59)
    obtain ⟨v96, _, ⟨T96, L96, k96, n96⟩, -, X96, ⟨Lc96, hQ96, l96, y96, z96⟩, st96⟩ := X61.virtualBack hx (y := (⟨"com/example/ponderat/ponderat/Item", "isOffBalance", "()Z"⟩ : MethodName)) (z := (⟨"com/example/ponderat/ponderat/Item", "isOffBalance", "()Z"⟩ : MethodName)) hown (mvT hZ (hw _ (List.mem_of_getElem? (i := 57) rfl))) (mvT hZ (hw _ (List.mem_of_getElem? (i := 58) rfl))) (notFace_of_selects (args := #[]) (mvT hZ (hw _ (List.mem_of_getElem? (i := 60) rfl)))) (mvT hZ (hw _ (List.mem_of_getElem? (i := 60) rfl))) (mvT hZ (hw _ (List.mem_of_getElem? (i := 59) rfl))) (by decide) (backOf (W := 0) (rm_1 l Z a0 hw [] w_UNIDENTIFIED_PREPAYMENT w_NO_COUNTERPARTY w_OFF_BALANCE h59 n0 (Nat.le_trans Z0 O59.1) (F_UNIDENTIFIED_PREPAYMENT_kind.ext O59) (S_OFF_BALANCE.ext O59)) hZ (hw _ (List.mem_of_getElem? (i := 61) rfl)) (hw _ (List.mem_of_getElem? (i := 3) rfl)) (by decide) (by decide)) q96a q96c (g := (mkF m 205 #[.val (.int k0), .val (.ref b7), .val (.int (17 : Int32)), .val (.int (0 : Int32))] [(.ref w_UNIDENTIFIED_PREPAYMENT)])) rfl (by rw [hml]; rfl) (Steps.refl _) (argsL := []) (rest := []) (lenOf pd_0 rfl) rfl (by show 2 * 0 + _ ≤ _; exact Nat.le_of_eq rfl) (hb hby at_205) (fun _ _ => ⟨rfl, e59, (by decide : 1 + 0 ≤ _), (by decide : 26 + 0 ≤ _)⟩)
    dsimp only [Pt.U, Pt.locs, Pt.cells, Pt.slots] at X96 l96 y96 z96 st96 hQ96
    subst l96 y96 z96
    obtain ⟨hv96, N96q, e96⟩ := hQ96
    have N96 := Fr.app N61 N96q
    have hw96 : v96 = some (.int (0 : Int32)) := hv96.trans (by rw [if_neg n_NO_COUNTERPARTY])
    subst hw96
    have pre97 : ∀ t_, Steps p.tables e below (T96.setTop (mkF m 217 #[.val (.int k0), .val (.ref b7), .val (.int (17 : Int32)), .val (.int (0 : Int32))] [(.int (1 : Int32))])) t_ → Steps p.tables e below (s₁.setTop (entryFrame m #[(.int k0)] maxLocals)) t_ := fun t_ k_ => pre60 t_ (by
      show Steps p.tables e below (T59.setTop (mkF m 190 #[.val (.int k0), .val (.ref b7), .val (.int (17 : Int32)), .unset] [])) _
      refine XS.iloadN X61.here hx rfl (hb hby at_190) rfl ?_
      show Steps p.tables e below (T59.setTop (mkF m 191 #[.val (.int k0), .val (.ref b7), .val (.int (17 : Int32)), .unset] [(.int (17 : Int32))])) _
      refine XS.bipush X61.here hx rfl (hb hby at_191) ?_
      show Steps p.tables e below (T59.setTop (mkF m 193 #[.val (.int k0), .val (.ref b7), .val (.int (17 : Int32)), .unset] [(.int (19 : Int32)), (.int (17 : Int32))])) _
      refine XS.icmpYes X61.here hx rfl (pc0 := 193) (pc' := 200) rfl (hb hby at_193) rfl (tlt (by decide : (17 : Int32) < (19 : Int32))).1 (by decide) (by decide) ?_
      show Steps p.tables e below (T59.setTop (mkF m 200 #[.val (.int k0), .val (.ref b7), .val (.int (17 : Int32)), .unset] [])) _
      refine XS.iconst X61.here hx rfl (hb hby at_200) ?_
      show Steps p.tables e below (T59.setTop (mkF m 201 #[.val (.int k0), .val (.ref b7), .val (.int (17 : Int32)), .unset] [(.int (0 : Int32))])) _
      refine XS.istoreN X61.here hx rfl (hb hby at_201) rfl (l' := #[.val (.int k0), .val (.ref b7), .val (.int (17 : Int32)), .val (.int (0 : Int32))]) rfl ?_
      show Steps p.tables e below (T59.setTop (mkF m 202 #[.val (.int k0), .val (.ref b7), .val (.int (17 : Int32)), .val (.int (0 : Int32))] [])) _
      refine XS.aloadN X61.here hx rfl (hb hby at_202) rfl rfl ?_
      show Steps p.tables e below (T59.setTop (mkF m 203 #[.val (.int k0), .val (.ref b7), .val (.int (17 : Int32)), .val (.int (0 : Int32))] [(.ref b7)])) _
      refine XS.iloadN X61.here hx rfl (hb hby at_203) rfl ?_
      show Steps p.tables e below (T59.setTop (mkF m 204 #[.val (.int k0), .val (.ref b7), .val (.int (17 : Int32)), .val (.int (0 : Int32))] [(.int (17 : Int32)), (.ref b7)])) _
      refine X61.aaload hx (j := (17 : Int32)) (v := (.ref w_UNIDENTIFIED_PREPAYMENT)) (by rw [e59]; exact Ar.1) (State.isArrayOf_alike hZ.alike Ar.2.1) rfl Ar.2.2 (inb_of Sz ⟨by decide, by decide⟩) (Has.at Hs (j := (17 : Int32)) (inb_of Sz ⟨by decide, by decide⟩) rfl) (g := (mkF m 204 #[.val (.int k0), .val (.ref b7), .val (.int (17 : Int32)), .val (.int (0 : Int32))] [(.int (17 : Int32)), (.ref b7)])) rfl rfl (hb hby at_204) _ ?_
      show Steps p.tables e below (T59.setTop (mkF m 205 #[.val (.int k0), .val (.ref b7), .val (.int (17 : Int32)), .val (.int (0 : Int32))] [(.ref w_UNIDENTIFIED_PREPAYMENT)])) _
      refine st96.trans ?_
      show Steps p.tables e below (T96.setTop (mkF m 208 #[.val (.int k0), .val (.ref b7), .val (.int (17 : Int32)), .val (.int (0 : Int32))] [(.int (0 : Int32))])) _
      refine XS.iloadN X96.here hx rfl (hb hby at_208) rfl ?_
      show Steps p.tables e below (T96.setTop (mkF m 209 #[.val (.int k0), .val (.ref b7), .val (.int (17 : Int32)), .val (.int (0 : Int32))] [(.int (0 : Int32)), (.int (0 : Int32))])) _
      refine XS.icmpNo X96.here hx rfl (hb hby at_209) rfl (teq (rfl : (0 : Int32) = (0 : Int32))).2 ?_
      show Steps p.tables e below (T96.setTop (mkF m 212 #[.val (.int k0), .val (.ref b7), .val (.int (17 : Int32)), .val (.int (0 : Int32))] [])) _
      refine XS.iconst X96.here hx rfl (hb hby at_212) ?_
      show Steps p.tables e below (T96.setTop (mkF m 213 #[.val (.int k0), .val (.ref b7), .val (.int (17 : Int32)), .val (.int (0 : Int32))] [(.int (1 : Int32))])) _
      refine XS.goto X96.here hx rfl (pc0 := 213) (pc' := 217) rfl (hb hby at_213) (by decide) (by decide) ?_
      show Steps p.tables e below (T96.setTop (mkF m 217 #[.val (.int k0), .val (.ref b7), .val (.int (17 : Int32)), .val (.int (0 : Int32))] [(.int (1 : Int32))])) _
      exact k_)
    obtain ⟨fs, hr, hrun, hended, hW, hsame⟩ := X96.leave (v := some (.int (1 : Int32))) (fun h => by rw [Bd.returns] at h; cases h)
    refine ⟨_, _, pre97 _ ?_, hrun, hended, _, _, rfl, ?_, ⟨_, rfl⟩, hW, hsame.mono (by decide) (by decide)⟩
    · show Steps p.tables e below (T96.setTop (mkF m 217 #[.val (.int k0), .val (.ref b7), .val (.int (17 : Int32)), .val (.int (0 : Int32))] [(.int (1 : Int32))])) _
      exact retN X96 hx (t := .boolean) Bd.returns (by simp) (hb hby at_217) hr
    · show Q_0 Z k0 w_LOAN w_DEBT_SECURITY w_DEPOSIT w_MANDATORY_RESERVE w_TRADE_FINANCE w_VENTURE_CAPITAL w_PRIVATE_EQUITY w_ALTERNATIVE_INVESTMENT_FUND w_SPECULATIVE_REAL_ESTATE w_EQUITY w_CIU_UNIT w_SECURITISATION_POSITION w_CASH w_CASH_IN_COLLECTION w_GOLD w_TANGIBLE_ASSET w_REPOSSESSED_ASSET w_UNIDENTIFIED_PREPAYMENT w_LEASE_RESIDUAL_VALUE w_GUARANTEE w_LETTER_OF_CREDIT w_UNDRAWN_COMMITMENT w_ACCEPTANCE w_NOTE_ISSUANCE_FACILITY w_FORWARD_PURCHASE w_OTHER_OFF_BALANCE w_ON_BALANCE w_OFF_BALANCE w_NO_COUNTERPARTY h0 n0 _ T96.heap _
      rw [e96]
      exact ⟨rfl, N96⟩
  · obtain ⟨cq98, kq98, q98a, q98b, q98c⟩ := isOf hZ e59 (E_LEASE_RESIDUAL_VALUE.ext O59)
    obtain ⟨v98, _, ⟨T98, L98, k98, n98⟩, -, X98, ⟨Lc98, hQ98, l98, y98, z98⟩, st98⟩ := X61.virtualBack hx (y := (⟨"com/example/ponderat/ponderat/Item", "isOffBalance", "()Z"⟩ : MethodName)) (z := (⟨"com/example/ponderat/ponderat/Item", "isOffBalance", "()Z"⟩ : MethodName)) hown (mvT hZ (hw _ (List.mem_of_getElem? (i := 57) rfl))) (mvT hZ (hw _ (List.mem_of_getElem? (i := 58) rfl))) (notFace_of_selects (args := #[]) (mvT hZ (hw _ (List.mem_of_getElem? (i := 60) rfl)))) (mvT hZ (hw _ (List.mem_of_getElem? (i := 60) rfl))) (mvT hZ (hw _ (List.mem_of_getElem? (i := 59) rfl))) (by decide) (backOf (W := 0) (rm_1 l Z a0 hw [] w_LEASE_RESIDUAL_VALUE w_NO_COUNTERPARTY w_OFF_BALANCE h59 n0 (Nat.le_trans Z0 O59.1) (F_LEASE_RESIDUAL_VALUE_kind.ext O59) (S_OFF_BALANCE.ext O59)) hZ (hw _ (List.mem_of_getElem? (i := 61) rfl)) (hw _ (List.mem_of_getElem? (i := 3) rfl)) (by decide) (by decide)) q98a q98c (g := (mkF m 205 #[.val (.int k0), .val (.ref b7), .val (.int (18 : Int32)), .val (.int (0 : Int32))] [(.ref w_LEASE_RESIDUAL_VALUE)])) rfl (by rw [hml]; rfl) (Steps.refl _) (argsL := []) (rest := []) (lenOf pd_0 rfl) rfl (by show 2 * 0 + _ ≤ _; exact Nat.le_of_eq rfl) (hb hby at_205) (fun _ _ => ⟨rfl, e59, (by decide : 1 + 0 ≤ _), (by decide : 26 + 0 ≤ _)⟩)
    dsimp only [Pt.U, Pt.locs, Pt.cells, Pt.slots] at X98 l98 y98 z98 st98 hQ98
    subst l98 y98 z98
    obtain ⟨hv98, N98q, e98⟩ := hQ98
    have N98 := Fr.app N61 N98q
    have hw98 : v98 = some (.int (0 : Int32)) := hv98.trans (by rw [if_neg n_NO_COUNTERPARTY])
    subst hw98
    have pre99 : ∀ t_, Steps p.tables e below (T98.setTop (mkF m 217 #[.val (.int k0), .val (.ref b7), .val (.int (18 : Int32)), .val (.int (0 : Int32))] [(.int (1 : Int32))])) t_ → Steps p.tables e below (s₁.setTop (entryFrame m #[(.int k0)] maxLocals)) t_ := fun t_ k_ => pre60 t_ (by
      show Steps p.tables e below (T59.setTop (mkF m 190 #[.val (.int k0), .val (.ref b7), .val (.int (18 : Int32)), .unset] [])) _
      refine XS.iloadN X61.here hx rfl (hb hby at_190) rfl ?_
      show Steps p.tables e below (T59.setTop (mkF m 191 #[.val (.int k0), .val (.ref b7), .val (.int (18 : Int32)), .unset] [(.int (18 : Int32))])) _
      refine XS.bipush X61.here hx rfl (hb hby at_191) ?_
      show Steps p.tables e below (T59.setTop (mkF m 193 #[.val (.int k0), .val (.ref b7), .val (.int (18 : Int32)), .unset] [(.int (19 : Int32)), (.int (18 : Int32))])) _
      refine XS.icmpYes X61.here hx rfl (pc0 := 193) (pc' := 200) rfl (hb hby at_193) rfl (tlt (by decide : (18 : Int32) < (19 : Int32))).1 (by decide) (by decide) ?_
      show Steps p.tables e below (T59.setTop (mkF m 200 #[.val (.int k0), .val (.ref b7), .val (.int (18 : Int32)), .unset] [])) _
      refine XS.iconst X61.here hx rfl (hb hby at_200) ?_
      show Steps p.tables e below (T59.setTop (mkF m 201 #[.val (.int k0), .val (.ref b7), .val (.int (18 : Int32)), .unset] [(.int (0 : Int32))])) _
      refine XS.istoreN X61.here hx rfl (hb hby at_201) rfl (l' := #[.val (.int k0), .val (.ref b7), .val (.int (18 : Int32)), .val (.int (0 : Int32))]) rfl ?_
      show Steps p.tables e below (T59.setTop (mkF m 202 #[.val (.int k0), .val (.ref b7), .val (.int (18 : Int32)), .val (.int (0 : Int32))] [])) _
      refine XS.aloadN X61.here hx rfl (hb hby at_202) rfl rfl ?_
      show Steps p.tables e below (T59.setTop (mkF m 203 #[.val (.int k0), .val (.ref b7), .val (.int (18 : Int32)), .val (.int (0 : Int32))] [(.ref b7)])) _
      refine XS.iloadN X61.here hx rfl (hb hby at_203) rfl ?_
      show Steps p.tables e below (T59.setTop (mkF m 204 #[.val (.int k0), .val (.ref b7), .val (.int (18 : Int32)), .val (.int (0 : Int32))] [(.int (18 : Int32)), (.ref b7)])) _
      refine X61.aaload hx (j := (18 : Int32)) (v := (.ref w_LEASE_RESIDUAL_VALUE)) (by rw [e59]; exact Ar.1) (State.isArrayOf_alike hZ.alike Ar.2.1) rfl Ar.2.2 (inb_of Sz ⟨by decide, by decide⟩) (Has.at Hs (j := (18 : Int32)) (inb_of Sz ⟨by decide, by decide⟩) rfl) (g := (mkF m 204 #[.val (.int k0), .val (.ref b7), .val (.int (18 : Int32)), .val (.int (0 : Int32))] [(.int (18 : Int32)), (.ref b7)])) rfl rfl (hb hby at_204) _ ?_
      show Steps p.tables e below (T59.setTop (mkF m 205 #[.val (.int k0), .val (.ref b7), .val (.int (18 : Int32)), .val (.int (0 : Int32))] [(.ref w_LEASE_RESIDUAL_VALUE)])) _
      refine st98.trans ?_
      show Steps p.tables e below (T98.setTop (mkF m 208 #[.val (.int k0), .val (.ref b7), .val (.int (18 : Int32)), .val (.int (0 : Int32))] [(.int (0 : Int32))])) _
      refine XS.iloadN X98.here hx rfl (hb hby at_208) rfl ?_
      show Steps p.tables e below (T98.setTop (mkF m 209 #[.val (.int k0), .val (.ref b7), .val (.int (18 : Int32)), .val (.int (0 : Int32))] [(.int (0 : Int32)), (.int (0 : Int32))])) _
      refine XS.icmpNo X98.here hx rfl (hb hby at_209) rfl (teq (rfl : (0 : Int32) = (0 : Int32))).2 ?_
      show Steps p.tables e below (T98.setTop (mkF m 212 #[.val (.int k0), .val (.ref b7), .val (.int (18 : Int32)), .val (.int (0 : Int32))] [])) _
      refine XS.iconst X98.here hx rfl (hb hby at_212) ?_
      show Steps p.tables e below (T98.setTop (mkF m 213 #[.val (.int k0), .val (.ref b7), .val (.int (18 : Int32)), .val (.int (0 : Int32))] [(.int (1 : Int32))])) _
      refine XS.goto X98.here hx rfl (pc0 := 213) (pc' := 217) rfl (hb hby at_213) (by decide) (by decide) ?_
      show Steps p.tables e below (T98.setTop (mkF m 217 #[.val (.int k0), .val (.ref b7), .val (.int (18 : Int32)), .val (.int (0 : Int32))] [(.int (1 : Int32))])) _
      exact k_)
    obtain ⟨fs, hr, hrun, hended, hW, hsame⟩ := X98.leave (v := some (.int (1 : Int32))) (fun h => by rw [Bd.returns] at h; cases h)
    refine ⟨_, _, pre99 _ ?_, hrun, hended, _, _, rfl, ?_, ⟨_, rfl⟩, hW, hsame.mono (by decide) (by decide)⟩
    · show Steps p.tables e below (T98.setTop (mkF m 217 #[.val (.int k0), .val (.ref b7), .val (.int (18 : Int32)), .val (.int (0 : Int32))] [(.int (1 : Int32))])) _
      exact retN X98 hx (t := .boolean) Bd.returns (by simp) (hb hby at_217) hr
    · show Q_0 Z k0 w_LOAN w_DEBT_SECURITY w_DEPOSIT w_MANDATORY_RESERVE w_TRADE_FINANCE w_VENTURE_CAPITAL w_PRIVATE_EQUITY w_ALTERNATIVE_INVESTMENT_FUND w_SPECULATIVE_REAL_ESTATE w_EQUITY w_CIU_UNIT w_SECURITISATION_POSITION w_CASH w_CASH_IN_COLLECTION w_GOLD w_TANGIBLE_ASSET w_REPOSSESSED_ASSET w_UNIDENTIFIED_PREPAYMENT w_LEASE_RESIDUAL_VALUE w_GUARANTEE w_LETTER_OF_CREDIT w_UNDRAWN_COMMITMENT w_ACCEPTANCE w_NOTE_ISSUANCE_FACILITY w_FORWARD_PURCHASE w_OTHER_OFF_BALANCE w_ON_BALANCE w_OFF_BALANCE w_NO_COUNTERPARTY h0 n0 _ T98.heap _
      rw [e98]
      exact ⟨rfl, N98⟩
  · obtain ⟨cq100, kq100, q100a, q100b, q100c⟩ := isOf hZ e59 (E_GUARANTEE.ext O59)
    obtain ⟨v100, _, ⟨T100, L100, k100, n100⟩, -, X100, ⟨Lc100, hQ100, l100, y100, z100⟩, st100⟩ := X61.virtualBack hx (y := (⟨"com/example/ponderat/ponderat/Item", "isOffBalance", "()Z"⟩ : MethodName)) (z := (⟨"com/example/ponderat/ponderat/Item", "isOffBalance", "()Z"⟩ : MethodName)) hown (mvT hZ (hw _ (List.mem_of_getElem? (i := 57) rfl))) (mvT hZ (hw _ (List.mem_of_getElem? (i := 58) rfl))) (notFace_of_selects (args := #[]) (mvT hZ (hw _ (List.mem_of_getElem? (i := 60) rfl)))) (mvT hZ (hw _ (List.mem_of_getElem? (i := 60) rfl))) (mvT hZ (hw _ (List.mem_of_getElem? (i := 59) rfl))) (by decide) (backOf (W := 0) (rm_1 l Z a0 hw [] w_GUARANTEE w_OFF_BALANCE w_OFF_BALANCE h59 n0 (Nat.le_trans Z0 O59.1) (F_GUARANTEE_kind.ext O59) (S_OFF_BALANCE.ext O59)) hZ (hw _ (List.mem_of_getElem? (i := 61) rfl)) (hw _ (List.mem_of_getElem? (i := 3) rfl)) (by decide) (by decide)) q100a q100c (g := (mkF m 205 #[.val (.int k0), .val (.ref b7), .val (.int (19 : Int32)), .val (.int (1 : Int32))] [(.ref w_GUARANTEE)])) rfl (by rw [hml]; rfl) (Steps.refl _) (argsL := []) (rest := []) (lenOf pd_0 rfl) rfl (by show 2 * 0 + _ ≤ _; exact Nat.le_of_eq rfl) (hb hby at_205) (fun _ _ => ⟨rfl, e59, (by decide : 1 + 0 ≤ _), (by decide : 26 + 0 ≤ _)⟩)
    dsimp only [Pt.U, Pt.locs, Pt.cells, Pt.slots] at X100 l100 y100 z100 st100 hQ100
    subst l100 y100 z100
    obtain ⟨hv100, N100q, e100⟩ := hQ100
    have N100 := Fr.app N61 N100q
    have hw100 : v100 = some (.int (1 : Int32)) := hv100.trans (by rw [if_pos rfl])
    subst hw100
    have pre101 : ∀ t_, Steps p.tables e below (T100.setTop (mkF m 217 #[.val (.int k0), .val (.ref b7), .val (.int (19 : Int32)), .val (.int (1 : Int32))] [(.int (1 : Int32))])) t_ → Steps p.tables e below (s₁.setTop (entryFrame m #[(.int k0)] maxLocals)) t_ := fun t_ k_ => pre60 t_ (by
      show Steps p.tables e below (T59.setTop (mkF m 190 #[.val (.int k0), .val (.ref b7), .val (.int (19 : Int32)), .unset] [])) _
      refine XS.iloadN X61.here hx rfl (hb hby at_190) rfl ?_
      show Steps p.tables e below (T59.setTop (mkF m 191 #[.val (.int k0), .val (.ref b7), .val (.int (19 : Int32)), .unset] [(.int (19 : Int32))])) _
      refine XS.bipush X61.here hx rfl (hb hby at_191) ?_
      show Steps p.tables e below (T59.setTop (mkF m 193 #[.val (.int k0), .val (.ref b7), .val (.int (19 : Int32)), .unset] [(.int (19 : Int32)), (.int (19 : Int32))])) _
      refine XS.icmpNo X61.here hx rfl (hb hby at_193) rfl (flt (Int32.lt_irrefl : ¬ ((19 : Int32) < (19 : Int32)))).1 ?_
      show Steps p.tables e below (T59.setTop (mkF m 196 #[.val (.int k0), .val (.ref b7), .val (.int (19 : Int32)), .unset] [])) _
      refine XS.iconst X61.here hx rfl (hb hby at_196) ?_
      show Steps p.tables e below (T59.setTop (mkF m 197 #[.val (.int k0), .val (.ref b7), .val (.int (19 : Int32)), .unset] [(.int (1 : Int32))])) _
      refine XS.goto X61.here hx rfl (pc0 := 197) (pc' := 201) rfl (hb hby at_197) (by decide) (by decide) ?_
      show Steps p.tables e below (T59.setTop (mkF m 201 #[.val (.int k0), .val (.ref b7), .val (.int (19 : Int32)), .unset] [(.int (1 : Int32))])) _
      refine XS.istoreN X61.here hx rfl (hb hby at_201) rfl (l' := #[.val (.int k0), .val (.ref b7), .val (.int (19 : Int32)), .val (.int (1 : Int32))]) rfl ?_
      show Steps p.tables e below (T59.setTop (mkF m 202 #[.val (.int k0), .val (.ref b7), .val (.int (19 : Int32)), .val (.int (1 : Int32))] [])) _
      refine XS.aloadN X61.here hx rfl (hb hby at_202) rfl rfl ?_
      show Steps p.tables e below (T59.setTop (mkF m 203 #[.val (.int k0), .val (.ref b7), .val (.int (19 : Int32)), .val (.int (1 : Int32))] [(.ref b7)])) _
      refine XS.iloadN X61.here hx rfl (hb hby at_203) rfl ?_
      show Steps p.tables e below (T59.setTop (mkF m 204 #[.val (.int k0), .val (.ref b7), .val (.int (19 : Int32)), .val (.int (1 : Int32))] [(.int (19 : Int32)), (.ref b7)])) _
      refine X61.aaload hx (j := (19 : Int32)) (v := (.ref w_GUARANTEE)) (by rw [e59]; exact Ar.1) (State.isArrayOf_alike hZ.alike Ar.2.1) rfl Ar.2.2 (inb_of Sz ⟨by decide, by decide⟩) (Has.at Hs (j := (19 : Int32)) (inb_of Sz ⟨by decide, by decide⟩) rfl) (g := (mkF m 204 #[.val (.int k0), .val (.ref b7), .val (.int (19 : Int32)), .val (.int (1 : Int32))] [(.int (19 : Int32)), (.ref b7)])) rfl rfl (hb hby at_204) _ ?_
      show Steps p.tables e below (T59.setTop (mkF m 205 #[.val (.int k0), .val (.ref b7), .val (.int (19 : Int32)), .val (.int (1 : Int32))] [(.ref w_GUARANTEE)])) _
      refine st100.trans ?_
      show Steps p.tables e below (T100.setTop (mkF m 208 #[.val (.int k0), .val (.ref b7), .val (.int (19 : Int32)), .val (.int (1 : Int32))] [(.int (1 : Int32))])) _
      refine XS.iloadN X100.here hx rfl (hb hby at_208) rfl ?_
      show Steps p.tables e below (T100.setTop (mkF m 209 #[.val (.int k0), .val (.ref b7), .val (.int (19 : Int32)), .val (.int (1 : Int32))] [(.int (1 : Int32)), (.int (1 : Int32))])) _
      refine XS.icmpNo X100.here hx rfl (hb hby at_209) rfl (teq (rfl : (1 : Int32) = (1 : Int32))).2 ?_
      show Steps p.tables e below (T100.setTop (mkF m 212 #[.val (.int k0), .val (.ref b7), .val (.int (19 : Int32)), .val (.int (1 : Int32))] [])) _
      refine XS.iconst X100.here hx rfl (hb hby at_212) ?_
      show Steps p.tables e below (T100.setTop (mkF m 213 #[.val (.int k0), .val (.ref b7), .val (.int (19 : Int32)), .val (.int (1 : Int32))] [(.int (1 : Int32))])) _
      refine XS.goto X100.here hx rfl (pc0 := 213) (pc' := 217) rfl (hb hby at_213) (by decide) (by decide) ?_
      show Steps p.tables e below (T100.setTop (mkF m 217 #[.val (.int k0), .val (.ref b7), .val (.int (19 : Int32)), .val (.int (1 : Int32))] [(.int (1 : Int32))])) _
      exact k_)
    obtain ⟨fs, hr, hrun, hended, hW, hsame⟩ := X100.leave (v := some (.int (1 : Int32))) (fun h => by rw [Bd.returns] at h; cases h)
    refine ⟨_, _, pre101 _ ?_, hrun, hended, _, _, rfl, ?_, ⟨_, rfl⟩, hW, hsame.mono (by decide) (by decide)⟩
    · show Steps p.tables e below (T100.setTop (mkF m 217 #[.val (.int k0), .val (.ref b7), .val (.int (19 : Int32)), .val (.int (1 : Int32))] [(.int (1 : Int32))])) _
      exact retN X100 hx (t := .boolean) Bd.returns (by simp) (hb hby at_217) hr
    · show Q_0 Z k0 w_LOAN w_DEBT_SECURITY w_DEPOSIT w_MANDATORY_RESERVE w_TRADE_FINANCE w_VENTURE_CAPITAL w_PRIVATE_EQUITY w_ALTERNATIVE_INVESTMENT_FUND w_SPECULATIVE_REAL_ESTATE w_EQUITY w_CIU_UNIT w_SECURITISATION_POSITION w_CASH w_CASH_IN_COLLECTION w_GOLD w_TANGIBLE_ASSET w_REPOSSESSED_ASSET w_UNIDENTIFIED_PREPAYMENT w_LEASE_RESIDUAL_VALUE w_GUARANTEE w_LETTER_OF_CREDIT w_UNDRAWN_COMMITMENT w_ACCEPTANCE w_NOTE_ISSUANCE_FACILITY w_FORWARD_PURCHASE w_OTHER_OFF_BALANCE w_ON_BALANCE w_OFF_BALANCE w_NO_COUNTERPARTY h0 n0 _ T100.heap _
      rw [e100]
      exact ⟨rfl, N100⟩
  · obtain ⟨cq102, kq102, q102a, q102b, q102c⟩ := isOf hZ e59 (E_LETTER_OF_CREDIT.ext O59)
    obtain ⟨v102, _, ⟨T102, L102, k102, n102⟩, -, X102, ⟨Lc102, hQ102, l102, y102, z102⟩, st102⟩ := X61.virtualBack hx (y := (⟨"com/example/ponderat/ponderat/Item", "isOffBalance", "()Z"⟩ : MethodName)) (z := (⟨"com/example/ponderat/ponderat/Item", "isOffBalance", "()Z"⟩ : MethodName)) hown (mvT hZ (hw _ (List.mem_of_getElem? (i := 57) rfl))) (mvT hZ (hw _ (List.mem_of_getElem? (i := 58) rfl))) (notFace_of_selects (args := #[]) (mvT hZ (hw _ (List.mem_of_getElem? (i := 60) rfl)))) (mvT hZ (hw _ (List.mem_of_getElem? (i := 60) rfl))) (mvT hZ (hw _ (List.mem_of_getElem? (i := 59) rfl))) (by decide) (backOf (W := 0) (rm_1 l Z a0 hw [] w_LETTER_OF_CREDIT w_OFF_BALANCE w_OFF_BALANCE h59 n0 (Nat.le_trans Z0 O59.1) (F_LETTER_OF_CREDIT_kind.ext O59) (S_OFF_BALANCE.ext O59)) hZ (hw _ (List.mem_of_getElem? (i := 61) rfl)) (hw _ (List.mem_of_getElem? (i := 3) rfl)) (by decide) (by decide)) q102a q102c (g := (mkF m 205 #[.val (.int k0), .val (.ref b7), .val (.int (20 : Int32)), .val (.int (1 : Int32))] [(.ref w_LETTER_OF_CREDIT)])) rfl (by rw [hml]; rfl) (Steps.refl _) (argsL := []) (rest := []) (lenOf pd_0 rfl) rfl (by show 2 * 0 + _ ≤ _; exact Nat.le_of_eq rfl) (hb hby at_205) (fun _ _ => ⟨rfl, e59, (by decide : 1 + 0 ≤ _), (by decide : 26 + 0 ≤ _)⟩)
    dsimp only [Pt.U, Pt.locs, Pt.cells, Pt.slots] at X102 l102 y102 z102 st102 hQ102
    subst l102 y102 z102
    obtain ⟨hv102, N102q, e102⟩ := hQ102
    have N102 := Fr.app N61 N102q
    have hw102 : v102 = some (.int (1 : Int32)) := hv102.trans (by rw [if_pos rfl])
    subst hw102
    have pre103 : ∀ t_, Steps p.tables e below (T102.setTop (mkF m 217 #[.val (.int k0), .val (.ref b7), .val (.int (20 : Int32)), .val (.int (1 : Int32))] [(.int (1 : Int32))])) t_ → Steps p.tables e below (s₁.setTop (entryFrame m #[(.int k0)] maxLocals)) t_ := fun t_ k_ => pre60 t_ (by
      show Steps p.tables e below (T59.setTop (mkF m 190 #[.val (.int k0), .val (.ref b7), .val (.int (20 : Int32)), .unset] [])) _
      refine XS.iloadN X61.here hx rfl (hb hby at_190) rfl ?_
      show Steps p.tables e below (T59.setTop (mkF m 191 #[.val (.int k0), .val (.ref b7), .val (.int (20 : Int32)), .unset] [(.int (20 : Int32))])) _
      refine XS.bipush X61.here hx rfl (hb hby at_191) ?_
      show Steps p.tables e below (T59.setTop (mkF m 193 #[.val (.int k0), .val (.ref b7), .val (.int (20 : Int32)), .unset] [(.int (19 : Int32)), (.int (20 : Int32))])) _
      refine XS.icmpNo X61.here hx rfl (hb hby at_193) rfl (flt (by decide : ¬ ((20 : Int32) < (19 : Int32)))).1 ?_
      show Steps p.tables e below (T59.setTop (mkF m 196 #[.val (.int k0), .val (.ref b7), .val (.int (20 : Int32)), .unset] [])) _
      refine XS.iconst X61.here hx rfl (hb hby at_196) ?_
      show Steps p.tables e below (T59.setTop (mkF m 197 #[.val (.int k0), .val (.ref b7), .val (.int (20 : Int32)), .unset] [(.int (1 : Int32))])) _
      refine XS.goto X61.here hx rfl (pc0 := 197) (pc' := 201) rfl (hb hby at_197) (by decide) (by decide) ?_
      show Steps p.tables e below (T59.setTop (mkF m 201 #[.val (.int k0), .val (.ref b7), .val (.int (20 : Int32)), .unset] [(.int (1 : Int32))])) _
      refine XS.istoreN X61.here hx rfl (hb hby at_201) rfl (l' := #[.val (.int k0), .val (.ref b7), .val (.int (20 : Int32)), .val (.int (1 : Int32))]) rfl ?_
      show Steps p.tables e below (T59.setTop (mkF m 202 #[.val (.int k0), .val (.ref b7), .val (.int (20 : Int32)), .val (.int (1 : Int32))] [])) _
      refine XS.aloadN X61.here hx rfl (hb hby at_202) rfl rfl ?_
      show Steps p.tables e below (T59.setTop (mkF m 203 #[.val (.int k0), .val (.ref b7), .val (.int (20 : Int32)), .val (.int (1 : Int32))] [(.ref b7)])) _
      refine XS.iloadN X61.here hx rfl (hb hby at_203) rfl ?_
      show Steps p.tables e below (T59.setTop (mkF m 204 #[.val (.int k0), .val (.ref b7), .val (.int (20 : Int32)), .val (.int (1 : Int32))] [(.int (20 : Int32)), (.ref b7)])) _
      refine X61.aaload hx (j := (20 : Int32)) (v := (.ref w_LETTER_OF_CREDIT)) (by rw [e59]; exact Ar.1) (State.isArrayOf_alike hZ.alike Ar.2.1) rfl Ar.2.2 (inb_of Sz ⟨by decide, by decide⟩) (Has.at Hs (j := (20 : Int32)) (inb_of Sz ⟨by decide, by decide⟩) rfl) (g := (mkF m 204 #[.val (.int k0), .val (.ref b7), .val (.int (20 : Int32)), .val (.int (1 : Int32))] [(.int (20 : Int32)), (.ref b7)])) rfl rfl (hb hby at_204) _ ?_
      show Steps p.tables e below (T59.setTop (mkF m 205 #[.val (.int k0), .val (.ref b7), .val (.int (20 : Int32)), .val (.int (1 : Int32))] [(.ref w_LETTER_OF_CREDIT)])) _
      refine st102.trans ?_
      show Steps p.tables e below (T102.setTop (mkF m 208 #[.val (.int k0), .val (.ref b7), .val (.int (20 : Int32)), .val (.int (1 : Int32))] [(.int (1 : Int32))])) _
      refine XS.iloadN X102.here hx rfl (hb hby at_208) rfl ?_
      show Steps p.tables e below (T102.setTop (mkF m 209 #[.val (.int k0), .val (.ref b7), .val (.int (20 : Int32)), .val (.int (1 : Int32))] [(.int (1 : Int32)), (.int (1 : Int32))])) _
      refine XS.icmpNo X102.here hx rfl (hb hby at_209) rfl (teq (rfl : (1 : Int32) = (1 : Int32))).2 ?_
      show Steps p.tables e below (T102.setTop (mkF m 212 #[.val (.int k0), .val (.ref b7), .val (.int (20 : Int32)), .val (.int (1 : Int32))] [])) _
      refine XS.iconst X102.here hx rfl (hb hby at_212) ?_
      show Steps p.tables e below (T102.setTop (mkF m 213 #[.val (.int k0), .val (.ref b7), .val (.int (20 : Int32)), .val (.int (1 : Int32))] [(.int (1 : Int32))])) _
      refine XS.goto X102.here hx rfl (pc0 := 213) (pc' := 217) rfl (hb hby at_213) (by decide) (by decide) ?_
      show Steps p.tables e below (T102.setTop (mkF m 217 #[.val (.int k0), .val (.ref b7), .val (.int (20 : Int32)), .val (.int (1 : Int32))] [(.int (1 : Int32))])) _
      exact k_)
    obtain ⟨fs, hr, hrun, hended, hW, hsame⟩ := X102.leave (v := some (.int (1 : Int32))) (fun h => by rw [Bd.returns] at h; cases h)
    refine ⟨_, _, pre103 _ ?_, hrun, hended, _, _, rfl, ?_, ⟨_, rfl⟩, hW, hsame.mono (by decide) (by decide)⟩
    · show Steps p.tables e below (T102.setTop (mkF m 217 #[.val (.int k0), .val (.ref b7), .val (.int (20 : Int32)), .val (.int (1 : Int32))] [(.int (1 : Int32))])) _
      exact retN X102 hx (t := .boolean) Bd.returns (by simp) (hb hby at_217) hr
    · show Q_0 Z k0 w_LOAN w_DEBT_SECURITY w_DEPOSIT w_MANDATORY_RESERVE w_TRADE_FINANCE w_VENTURE_CAPITAL w_PRIVATE_EQUITY w_ALTERNATIVE_INVESTMENT_FUND w_SPECULATIVE_REAL_ESTATE w_EQUITY w_CIU_UNIT w_SECURITISATION_POSITION w_CASH w_CASH_IN_COLLECTION w_GOLD w_TANGIBLE_ASSET w_REPOSSESSED_ASSET w_UNIDENTIFIED_PREPAYMENT w_LEASE_RESIDUAL_VALUE w_GUARANTEE w_LETTER_OF_CREDIT w_UNDRAWN_COMMITMENT w_ACCEPTANCE w_NOTE_ISSUANCE_FACILITY w_FORWARD_PURCHASE w_OTHER_OFF_BALANCE w_ON_BALANCE w_OFF_BALANCE w_NO_COUNTERPARTY h0 n0 _ T102.heap _
      rw [e102]
      exact ⟨rfl, N102⟩
  · obtain ⟨cq104, kq104, q104a, q104b, q104c⟩ := isOf hZ e59 (E_UNDRAWN_COMMITMENT.ext O59)
    obtain ⟨v104, _, ⟨T104, L104, k104, n104⟩, -, X104, ⟨Lc104, hQ104, l104, y104, z104⟩, st104⟩ := X61.virtualBack hx (y := (⟨"com/example/ponderat/ponderat/Item", "isOffBalance", "()Z"⟩ : MethodName)) (z := (⟨"com/example/ponderat/ponderat/Item", "isOffBalance", "()Z"⟩ : MethodName)) hown (mvT hZ (hw _ (List.mem_of_getElem? (i := 57) rfl))) (mvT hZ (hw _ (List.mem_of_getElem? (i := 58) rfl))) (notFace_of_selects (args := #[]) (mvT hZ (hw _ (List.mem_of_getElem? (i := 60) rfl)))) (mvT hZ (hw _ (List.mem_of_getElem? (i := 60) rfl))) (mvT hZ (hw _ (List.mem_of_getElem? (i := 59) rfl))) (by decide) (backOf (W := 0) (rm_1 l Z a0 hw [] w_UNDRAWN_COMMITMENT w_OFF_BALANCE w_OFF_BALANCE h59 n0 (Nat.le_trans Z0 O59.1) (F_UNDRAWN_COMMITMENT_kind.ext O59) (S_OFF_BALANCE.ext O59)) hZ (hw _ (List.mem_of_getElem? (i := 61) rfl)) (hw _ (List.mem_of_getElem? (i := 3) rfl)) (by decide) (by decide)) q104a q104c (g := (mkF m 205 #[.val (.int k0), .val (.ref b7), .val (.int (21 : Int32)), .val (.int (1 : Int32))] [(.ref w_UNDRAWN_COMMITMENT)])) rfl (by rw [hml]; rfl) (Steps.refl _) (argsL := []) (rest := []) (lenOf pd_0 rfl) rfl (by show 2 * 0 + _ ≤ _; exact Nat.le_of_eq rfl) (hb hby at_205) (fun _ _ => ⟨rfl, e59, (by decide : 1 + 0 ≤ _), (by decide : 26 + 0 ≤ _)⟩)
    dsimp only [Pt.U, Pt.locs, Pt.cells, Pt.slots] at X104 l104 y104 z104 st104 hQ104
    subst l104 y104 z104
    obtain ⟨hv104, N104q, e104⟩ := hQ104
    have N104 := Fr.app N61 N104q
    have hw104 : v104 = some (.int (1 : Int32)) := hv104.trans (by rw [if_pos rfl])
    subst hw104
    have pre105 : ∀ t_, Steps p.tables e below (T104.setTop (mkF m 217 #[.val (.int k0), .val (.ref b7), .val (.int (21 : Int32)), .val (.int (1 : Int32))] [(.int (1 : Int32))])) t_ → Steps p.tables e below (s₁.setTop (entryFrame m #[(.int k0)] maxLocals)) t_ := fun t_ k_ => pre60 t_ (by
      show Steps p.tables e below (T59.setTop (mkF m 190 #[.val (.int k0), .val (.ref b7), .val (.int (21 : Int32)), .unset] [])) _
      refine XS.iloadN X61.here hx rfl (hb hby at_190) rfl ?_
      show Steps p.tables e below (T59.setTop (mkF m 191 #[.val (.int k0), .val (.ref b7), .val (.int (21 : Int32)), .unset] [(.int (21 : Int32))])) _
      refine XS.bipush X61.here hx rfl (hb hby at_191) ?_
      show Steps p.tables e below (T59.setTop (mkF m 193 #[.val (.int k0), .val (.ref b7), .val (.int (21 : Int32)), .unset] [(.int (19 : Int32)), (.int (21 : Int32))])) _
      refine XS.icmpNo X61.here hx rfl (hb hby at_193) rfl (flt (by decide : ¬ ((21 : Int32) < (19 : Int32)))).1 ?_
      show Steps p.tables e below (T59.setTop (mkF m 196 #[.val (.int k0), .val (.ref b7), .val (.int (21 : Int32)), .unset] [])) _
      refine XS.iconst X61.here hx rfl (hb hby at_196) ?_
      show Steps p.tables e below (T59.setTop (mkF m 197 #[.val (.int k0), .val (.ref b7), .val (.int (21 : Int32)), .unset] [(.int (1 : Int32))])) _
      refine XS.goto X61.here hx rfl (pc0 := 197) (pc' := 201) rfl (hb hby at_197) (by decide) (by decide) ?_
      show Steps p.tables e below (T59.setTop (mkF m 201 #[.val (.int k0), .val (.ref b7), .val (.int (21 : Int32)), .unset] [(.int (1 : Int32))])) _
      refine XS.istoreN X61.here hx rfl (hb hby at_201) rfl (l' := #[.val (.int k0), .val (.ref b7), .val (.int (21 : Int32)), .val (.int (1 : Int32))]) rfl ?_
      show Steps p.tables e below (T59.setTop (mkF m 202 #[.val (.int k0), .val (.ref b7), .val (.int (21 : Int32)), .val (.int (1 : Int32))] [])) _
      refine XS.aloadN X61.here hx rfl (hb hby at_202) rfl rfl ?_
      show Steps p.tables e below (T59.setTop (mkF m 203 #[.val (.int k0), .val (.ref b7), .val (.int (21 : Int32)), .val (.int (1 : Int32))] [(.ref b7)])) _
      refine XS.iloadN X61.here hx rfl (hb hby at_203) rfl ?_
      show Steps p.tables e below (T59.setTop (mkF m 204 #[.val (.int k0), .val (.ref b7), .val (.int (21 : Int32)), .val (.int (1 : Int32))] [(.int (21 : Int32)), (.ref b7)])) _
      refine X61.aaload hx (j := (21 : Int32)) (v := (.ref w_UNDRAWN_COMMITMENT)) (by rw [e59]; exact Ar.1) (State.isArrayOf_alike hZ.alike Ar.2.1) rfl Ar.2.2 (inb_of Sz ⟨by decide, by decide⟩) (Has.at Hs (j := (21 : Int32)) (inb_of Sz ⟨by decide, by decide⟩) rfl) (g := (mkF m 204 #[.val (.int k0), .val (.ref b7), .val (.int (21 : Int32)), .val (.int (1 : Int32))] [(.int (21 : Int32)), (.ref b7)])) rfl rfl (hb hby at_204) _ ?_
      show Steps p.tables e below (T59.setTop (mkF m 205 #[.val (.int k0), .val (.ref b7), .val (.int (21 : Int32)), .val (.int (1 : Int32))] [(.ref w_UNDRAWN_COMMITMENT)])) _
      refine st104.trans ?_
      show Steps p.tables e below (T104.setTop (mkF m 208 #[.val (.int k0), .val (.ref b7), .val (.int (21 : Int32)), .val (.int (1 : Int32))] [(.int (1 : Int32))])) _
      refine XS.iloadN X104.here hx rfl (hb hby at_208) rfl ?_
      show Steps p.tables e below (T104.setTop (mkF m 209 #[.val (.int k0), .val (.ref b7), .val (.int (21 : Int32)), .val (.int (1 : Int32))] [(.int (1 : Int32)), (.int (1 : Int32))])) _
      refine XS.icmpNo X104.here hx rfl (hb hby at_209) rfl (teq (rfl : (1 : Int32) = (1 : Int32))).2 ?_
      show Steps p.tables e below (T104.setTop (mkF m 212 #[.val (.int k0), .val (.ref b7), .val (.int (21 : Int32)), .val (.int (1 : Int32))] [])) _
      refine XS.iconst X104.here hx rfl (hb hby at_212) ?_
      show Steps p.tables e below (T104.setTop (mkF m 213 #[.val (.int k0), .val (.ref b7), .val (.int (21 : Int32)), .val (.int (1 : Int32))] [(.int (1 : Int32))])) _
      refine XS.goto X104.here hx rfl (pc0 := 213) (pc' := 217) rfl (hb hby at_213) (by decide) (by decide) ?_
      show Steps p.tables e below (T104.setTop (mkF m 217 #[.val (.int k0), .val (.ref b7), .val (.int (21 : Int32)), .val (.int (1 : Int32))] [(.int (1 : Int32))])) _
      exact k_)
    obtain ⟨fs, hr, hrun, hended, hW, hsame⟩ := X104.leave (v := some (.int (1 : Int32))) (fun h => by rw [Bd.returns] at h; cases h)
    refine ⟨_, _, pre105 _ ?_, hrun, hended, _, _, rfl, ?_, ⟨_, rfl⟩, hW, hsame.mono (by decide) (by decide)⟩
    · show Steps p.tables e below (T104.setTop (mkF m 217 #[.val (.int k0), .val (.ref b7), .val (.int (21 : Int32)), .val (.int (1 : Int32))] [(.int (1 : Int32))])) _
      exact retN X104 hx (t := .boolean) Bd.returns (by simp) (hb hby at_217) hr
    · show Q_0 Z k0 w_LOAN w_DEBT_SECURITY w_DEPOSIT w_MANDATORY_RESERVE w_TRADE_FINANCE w_VENTURE_CAPITAL w_PRIVATE_EQUITY w_ALTERNATIVE_INVESTMENT_FUND w_SPECULATIVE_REAL_ESTATE w_EQUITY w_CIU_UNIT w_SECURITISATION_POSITION w_CASH w_CASH_IN_COLLECTION w_GOLD w_TANGIBLE_ASSET w_REPOSSESSED_ASSET w_UNIDENTIFIED_PREPAYMENT w_LEASE_RESIDUAL_VALUE w_GUARANTEE w_LETTER_OF_CREDIT w_UNDRAWN_COMMITMENT w_ACCEPTANCE w_NOTE_ISSUANCE_FACILITY w_FORWARD_PURCHASE w_OTHER_OFF_BALANCE w_ON_BALANCE w_OFF_BALANCE w_NO_COUNTERPARTY h0 n0 _ T104.heap _
      rw [e104]
      exact ⟨rfl, N104⟩
  · obtain ⟨cq106, kq106, q106a, q106b, q106c⟩ := isOf hZ e59 (E_ACCEPTANCE.ext O59)
    obtain ⟨v106, _, ⟨T106, L106, k106, n106⟩, -, X106, ⟨Lc106, hQ106, l106, y106, z106⟩, st106⟩ := X61.virtualBack hx (y := (⟨"com/example/ponderat/ponderat/Item", "isOffBalance", "()Z"⟩ : MethodName)) (z := (⟨"com/example/ponderat/ponderat/Item", "isOffBalance", "()Z"⟩ : MethodName)) hown (mvT hZ (hw _ (List.mem_of_getElem? (i := 57) rfl))) (mvT hZ (hw _ (List.mem_of_getElem? (i := 58) rfl))) (notFace_of_selects (args := #[]) (mvT hZ (hw _ (List.mem_of_getElem? (i := 60) rfl)))) (mvT hZ (hw _ (List.mem_of_getElem? (i := 60) rfl))) (mvT hZ (hw _ (List.mem_of_getElem? (i := 59) rfl))) (by decide) (backOf (W := 0) (rm_1 l Z a0 hw [] w_ACCEPTANCE w_OFF_BALANCE w_OFF_BALANCE h59 n0 (Nat.le_trans Z0 O59.1) (F_ACCEPTANCE_kind.ext O59) (S_OFF_BALANCE.ext O59)) hZ (hw _ (List.mem_of_getElem? (i := 61) rfl)) (hw _ (List.mem_of_getElem? (i := 3) rfl)) (by decide) (by decide)) q106a q106c (g := (mkF m 205 #[.val (.int k0), .val (.ref b7), .val (.int (22 : Int32)), .val (.int (1 : Int32))] [(.ref w_ACCEPTANCE)])) rfl (by rw [hml]; rfl) (Steps.refl _) (argsL := []) (rest := []) (lenOf pd_0 rfl) rfl (by show 2 * 0 + _ ≤ _; exact Nat.le_of_eq rfl) (hb hby at_205) (fun _ _ => ⟨rfl, e59, (by decide : 1 + 0 ≤ _), (by decide : 26 + 0 ≤ _)⟩)
    dsimp only [Pt.U, Pt.locs, Pt.cells, Pt.slots] at X106 l106 y106 z106 st106 hQ106
    subst l106 y106 z106
    obtain ⟨hv106, N106q, e106⟩ := hQ106
    have N106 := Fr.app N61 N106q
    have hw106 : v106 = some (.int (1 : Int32)) := hv106.trans (by rw [if_pos rfl])
    subst hw106
    have pre107 : ∀ t_, Steps p.tables e below (T106.setTop (mkF m 217 #[.val (.int k0), .val (.ref b7), .val (.int (22 : Int32)), .val (.int (1 : Int32))] [(.int (1 : Int32))])) t_ → Steps p.tables e below (s₁.setTop (entryFrame m #[(.int k0)] maxLocals)) t_ := fun t_ k_ => pre60 t_ (by
      show Steps p.tables e below (T59.setTop (mkF m 190 #[.val (.int k0), .val (.ref b7), .val (.int (22 : Int32)), .unset] [])) _
      refine XS.iloadN X61.here hx rfl (hb hby at_190) rfl ?_
      show Steps p.tables e below (T59.setTop (mkF m 191 #[.val (.int k0), .val (.ref b7), .val (.int (22 : Int32)), .unset] [(.int (22 : Int32))])) _
      refine XS.bipush X61.here hx rfl (hb hby at_191) ?_
      show Steps p.tables e below (T59.setTop (mkF m 193 #[.val (.int k0), .val (.ref b7), .val (.int (22 : Int32)), .unset] [(.int (19 : Int32)), (.int (22 : Int32))])) _
      refine XS.icmpNo X61.here hx rfl (hb hby at_193) rfl (flt (by decide : ¬ ((22 : Int32) < (19 : Int32)))).1 ?_
      show Steps p.tables e below (T59.setTop (mkF m 196 #[.val (.int k0), .val (.ref b7), .val (.int (22 : Int32)), .unset] [])) _
      refine XS.iconst X61.here hx rfl (hb hby at_196) ?_
      show Steps p.tables e below (T59.setTop (mkF m 197 #[.val (.int k0), .val (.ref b7), .val (.int (22 : Int32)), .unset] [(.int (1 : Int32))])) _
      refine XS.goto X61.here hx rfl (pc0 := 197) (pc' := 201) rfl (hb hby at_197) (by decide) (by decide) ?_
      show Steps p.tables e below (T59.setTop (mkF m 201 #[.val (.int k0), .val (.ref b7), .val (.int (22 : Int32)), .unset] [(.int (1 : Int32))])) _
      refine XS.istoreN X61.here hx rfl (hb hby at_201) rfl (l' := #[.val (.int k0), .val (.ref b7), .val (.int (22 : Int32)), .val (.int (1 : Int32))]) rfl ?_
      show Steps p.tables e below (T59.setTop (mkF m 202 #[.val (.int k0), .val (.ref b7), .val (.int (22 : Int32)), .val (.int (1 : Int32))] [])) _
      refine XS.aloadN X61.here hx rfl (hb hby at_202) rfl rfl ?_
      show Steps p.tables e below (T59.setTop (mkF m 203 #[.val (.int k0), .val (.ref b7), .val (.int (22 : Int32)), .val (.int (1 : Int32))] [(.ref b7)])) _
      refine XS.iloadN X61.here hx rfl (hb hby at_203) rfl ?_
      show Steps p.tables e below (T59.setTop (mkF m 204 #[.val (.int k0), .val (.ref b7), .val (.int (22 : Int32)), .val (.int (1 : Int32))] [(.int (22 : Int32)), (.ref b7)])) _
      refine X61.aaload hx (j := (22 : Int32)) (v := (.ref w_ACCEPTANCE)) (by rw [e59]; exact Ar.1) (State.isArrayOf_alike hZ.alike Ar.2.1) rfl Ar.2.2 (inb_of Sz ⟨by decide, by decide⟩) (Has.at Hs (j := (22 : Int32)) (inb_of Sz ⟨by decide, by decide⟩) rfl) (g := (mkF m 204 #[.val (.int k0), .val (.ref b7), .val (.int (22 : Int32)), .val (.int (1 : Int32))] [(.int (22 : Int32)), (.ref b7)])) rfl rfl (hb hby at_204) _ ?_
      show Steps p.tables e below (T59.setTop (mkF m 205 #[.val (.int k0), .val (.ref b7), .val (.int (22 : Int32)), .val (.int (1 : Int32))] [(.ref w_ACCEPTANCE)])) _
      refine st106.trans ?_
      show Steps p.tables e below (T106.setTop (mkF m 208 #[.val (.int k0), .val (.ref b7), .val (.int (22 : Int32)), .val (.int (1 : Int32))] [(.int (1 : Int32))])) _
      refine XS.iloadN X106.here hx rfl (hb hby at_208) rfl ?_
      show Steps p.tables e below (T106.setTop (mkF m 209 #[.val (.int k0), .val (.ref b7), .val (.int (22 : Int32)), .val (.int (1 : Int32))] [(.int (1 : Int32)), (.int (1 : Int32))])) _
      refine XS.icmpNo X106.here hx rfl (hb hby at_209) rfl (teq (rfl : (1 : Int32) = (1 : Int32))).2 ?_
      show Steps p.tables e below (T106.setTop (mkF m 212 #[.val (.int k0), .val (.ref b7), .val (.int (22 : Int32)), .val (.int (1 : Int32))] [])) _
      refine XS.iconst X106.here hx rfl (hb hby at_212) ?_
      show Steps p.tables e below (T106.setTop (mkF m 213 #[.val (.int k0), .val (.ref b7), .val (.int (22 : Int32)), .val (.int (1 : Int32))] [(.int (1 : Int32))])) _
      refine XS.goto X106.here hx rfl (pc0 := 213) (pc' := 217) rfl (hb hby at_213) (by decide) (by decide) ?_
      show Steps p.tables e below (T106.setTop (mkF m 217 #[.val (.int k0), .val (.ref b7), .val (.int (22 : Int32)), .val (.int (1 : Int32))] [(.int (1 : Int32))])) _
      exact k_)
    obtain ⟨fs, hr, hrun, hended, hW, hsame⟩ := X106.leave (v := some (.int (1 : Int32))) (fun h => by rw [Bd.returns] at h; cases h)
    refine ⟨_, _, pre107 _ ?_, hrun, hended, _, _, rfl, ?_, ⟨_, rfl⟩, hW, hsame.mono (by decide) (by decide)⟩
    · show Steps p.tables e below (T106.setTop (mkF m 217 #[.val (.int k0), .val (.ref b7), .val (.int (22 : Int32)), .val (.int (1 : Int32))] [(.int (1 : Int32))])) _
      exact retN X106 hx (t := .boolean) Bd.returns (by simp) (hb hby at_217) hr
    · show Q_0 Z k0 w_LOAN w_DEBT_SECURITY w_DEPOSIT w_MANDATORY_RESERVE w_TRADE_FINANCE w_VENTURE_CAPITAL w_PRIVATE_EQUITY w_ALTERNATIVE_INVESTMENT_FUND w_SPECULATIVE_REAL_ESTATE w_EQUITY w_CIU_UNIT w_SECURITISATION_POSITION w_CASH w_CASH_IN_COLLECTION w_GOLD w_TANGIBLE_ASSET w_REPOSSESSED_ASSET w_UNIDENTIFIED_PREPAYMENT w_LEASE_RESIDUAL_VALUE w_GUARANTEE w_LETTER_OF_CREDIT w_UNDRAWN_COMMITMENT w_ACCEPTANCE w_NOTE_ISSUANCE_FACILITY w_FORWARD_PURCHASE w_OTHER_OFF_BALANCE w_ON_BALANCE w_OFF_BALANCE w_NO_COUNTERPARTY h0 n0 _ T106.heap _
      rw [e106]
      exact ⟨rfl, N106⟩
  · obtain ⟨cq108, kq108, q108a, q108b, q108c⟩ := isOf hZ e59 (E_NOTE_ISSUANCE_FACILITY.ext O59)
    obtain ⟨v108, _, ⟨T108, L108, k108, n108⟩, -, X108, ⟨Lc108, hQ108, l108, y108, z108⟩, st108⟩ := X61.virtualBack hx (y := (⟨"com/example/ponderat/ponderat/Item", "isOffBalance", "()Z"⟩ : MethodName)) (z := (⟨"com/example/ponderat/ponderat/Item", "isOffBalance", "()Z"⟩ : MethodName)) hown (mvT hZ (hw _ (List.mem_of_getElem? (i := 57) rfl))) (mvT hZ (hw _ (List.mem_of_getElem? (i := 58) rfl))) (notFace_of_selects (args := #[]) (mvT hZ (hw _ (List.mem_of_getElem? (i := 60) rfl)))) (mvT hZ (hw _ (List.mem_of_getElem? (i := 60) rfl))) (mvT hZ (hw _ (List.mem_of_getElem? (i := 59) rfl))) (by decide) (backOf (W := 0) (rm_1 l Z a0 hw [] w_NOTE_ISSUANCE_FACILITY w_OFF_BALANCE w_OFF_BALANCE h59 n0 (Nat.le_trans Z0 O59.1) (F_NOTE_ISSUANCE_FACILITY_kind.ext O59) (S_OFF_BALANCE.ext O59)) hZ (hw _ (List.mem_of_getElem? (i := 61) rfl)) (hw _ (List.mem_of_getElem? (i := 3) rfl)) (by decide) (by decide)) q108a q108c (g := (mkF m 205 #[.val (.int k0), .val (.ref b7), .val (.int (23 : Int32)), .val (.int (1 : Int32))] [(.ref w_NOTE_ISSUANCE_FACILITY)])) rfl (by rw [hml]; rfl) (Steps.refl _) (argsL := []) (rest := []) (lenOf pd_0 rfl) rfl (by show 2 * 0 + _ ≤ _; exact Nat.le_of_eq rfl) (hb hby at_205) (fun _ _ => ⟨rfl, e59, (by decide : 1 + 0 ≤ _), (by decide : 26 + 0 ≤ _)⟩)
    dsimp only [Pt.U, Pt.locs, Pt.cells, Pt.slots] at X108 l108 y108 z108 st108 hQ108
    subst l108 y108 z108
    obtain ⟨hv108, N108q, e108⟩ := hQ108
    have N108 := Fr.app N61 N108q
    have hw108 : v108 = some (.int (1 : Int32)) := hv108.trans (by rw [if_pos rfl])
    subst hw108
    have pre109 : ∀ t_, Steps p.tables e below (T108.setTop (mkF m 217 #[.val (.int k0), .val (.ref b7), .val (.int (23 : Int32)), .val (.int (1 : Int32))] [(.int (1 : Int32))])) t_ → Steps p.tables e below (s₁.setTop (entryFrame m #[(.int k0)] maxLocals)) t_ := fun t_ k_ => pre60 t_ (by
      show Steps p.tables e below (T59.setTop (mkF m 190 #[.val (.int k0), .val (.ref b7), .val (.int (23 : Int32)), .unset] [])) _
      refine XS.iloadN X61.here hx rfl (hb hby at_190) rfl ?_
      show Steps p.tables e below (T59.setTop (mkF m 191 #[.val (.int k0), .val (.ref b7), .val (.int (23 : Int32)), .unset] [(.int (23 : Int32))])) _
      refine XS.bipush X61.here hx rfl (hb hby at_191) ?_
      show Steps p.tables e below (T59.setTop (mkF m 193 #[.val (.int k0), .val (.ref b7), .val (.int (23 : Int32)), .unset] [(.int (19 : Int32)), (.int (23 : Int32))])) _
      refine XS.icmpNo X61.here hx rfl (hb hby at_193) rfl (flt (by decide : ¬ ((23 : Int32) < (19 : Int32)))).1 ?_
      show Steps p.tables e below (T59.setTop (mkF m 196 #[.val (.int k0), .val (.ref b7), .val (.int (23 : Int32)), .unset] [])) _
      refine XS.iconst X61.here hx rfl (hb hby at_196) ?_
      show Steps p.tables e below (T59.setTop (mkF m 197 #[.val (.int k0), .val (.ref b7), .val (.int (23 : Int32)), .unset] [(.int (1 : Int32))])) _
      refine XS.goto X61.here hx rfl (pc0 := 197) (pc' := 201) rfl (hb hby at_197) (by decide) (by decide) ?_
      show Steps p.tables e below (T59.setTop (mkF m 201 #[.val (.int k0), .val (.ref b7), .val (.int (23 : Int32)), .unset] [(.int (1 : Int32))])) _
      refine XS.istoreN X61.here hx rfl (hb hby at_201) rfl (l' := #[.val (.int k0), .val (.ref b7), .val (.int (23 : Int32)), .val (.int (1 : Int32))]) rfl ?_
      show Steps p.tables e below (T59.setTop (mkF m 202 #[.val (.int k0), .val (.ref b7), .val (.int (23 : Int32)), .val (.int (1 : Int32))] [])) _
      refine XS.aloadN X61.here hx rfl (hb hby at_202) rfl rfl ?_
      show Steps p.tables e below (T59.setTop (mkF m 203 #[.val (.int k0), .val (.ref b7), .val (.int (23 : Int32)), .val (.int (1 : Int32))] [(.ref b7)])) _
      refine XS.iloadN X61.here hx rfl (hb hby at_203) rfl ?_
      show Steps p.tables e below (T59.setTop (mkF m 204 #[.val (.int k0), .val (.ref b7), .val (.int (23 : Int32)), .val (.int (1 : Int32))] [(.int (23 : Int32)), (.ref b7)])) _
      refine X61.aaload hx (j := (23 : Int32)) (v := (.ref w_NOTE_ISSUANCE_FACILITY)) (by rw [e59]; exact Ar.1) (State.isArrayOf_alike hZ.alike Ar.2.1) rfl Ar.2.2 (inb_of Sz ⟨by decide, by decide⟩) (Has.at Hs (j := (23 : Int32)) (inb_of Sz ⟨by decide, by decide⟩) rfl) (g := (mkF m 204 #[.val (.int k0), .val (.ref b7), .val (.int (23 : Int32)), .val (.int (1 : Int32))] [(.int (23 : Int32)), (.ref b7)])) rfl rfl (hb hby at_204) _ ?_
      show Steps p.tables e below (T59.setTop (mkF m 205 #[.val (.int k0), .val (.ref b7), .val (.int (23 : Int32)), .val (.int (1 : Int32))] [(.ref w_NOTE_ISSUANCE_FACILITY)])) _
      refine st108.trans ?_
      show Steps p.tables e below (T108.setTop (mkF m 208 #[.val (.int k0), .val (.ref b7), .val (.int (23 : Int32)), .val (.int (1 : Int32))] [(.int (1 : Int32))])) _
      refine XS.iloadN X108.here hx rfl (hb hby at_208) rfl ?_
      show Steps p.tables e below (T108.setTop (mkF m 209 #[.val (.int k0), .val (.ref b7), .val (.int (23 : Int32)), .val (.int (1 : Int32))] [(.int (1 : Int32)), (.int (1 : Int32))])) _
      refine XS.icmpNo X108.here hx rfl (hb hby at_209) rfl (teq (rfl : (1 : Int32) = (1 : Int32))).2 ?_
      show Steps p.tables e below (T108.setTop (mkF m 212 #[.val (.int k0), .val (.ref b7), .val (.int (23 : Int32)), .val (.int (1 : Int32))] [])) _
      refine XS.iconst X108.here hx rfl (hb hby at_212) ?_
      show Steps p.tables e below (T108.setTop (mkF m 213 #[.val (.int k0), .val (.ref b7), .val (.int (23 : Int32)), .val (.int (1 : Int32))] [(.int (1 : Int32))])) _
      refine XS.goto X108.here hx rfl (pc0 := 213) (pc' := 217) rfl (hb hby at_213) (by decide) (by decide) ?_
      show Steps p.tables e below (T108.setTop (mkF m 217 #[.val (.int k0), .val (.ref b7), .val (.int (23 : Int32)), .val (.int (1 : Int32))] [(.int (1 : Int32))])) _
      exact k_)
    obtain ⟨fs, hr, hrun, hended, hW, hsame⟩ := X108.leave (v := some (.int (1 : Int32))) (fun h => by rw [Bd.returns] at h; cases h)
    refine ⟨_, _, pre109 _ ?_, hrun, hended, _, _, rfl, ?_, ⟨_, rfl⟩, hW, hsame.mono (by decide) (by decide)⟩
    · show Steps p.tables e below (T108.setTop (mkF m 217 #[.val (.int k0), .val (.ref b7), .val (.int (23 : Int32)), .val (.int (1 : Int32))] [(.int (1 : Int32))])) _
      exact retN X108 hx (t := .boolean) Bd.returns (by simp) (hb hby at_217) hr
    · show Q_0 Z k0 w_LOAN w_DEBT_SECURITY w_DEPOSIT w_MANDATORY_RESERVE w_TRADE_FINANCE w_VENTURE_CAPITAL w_PRIVATE_EQUITY w_ALTERNATIVE_INVESTMENT_FUND w_SPECULATIVE_REAL_ESTATE w_EQUITY w_CIU_UNIT w_SECURITISATION_POSITION w_CASH w_CASH_IN_COLLECTION w_GOLD w_TANGIBLE_ASSET w_REPOSSESSED_ASSET w_UNIDENTIFIED_PREPAYMENT w_LEASE_RESIDUAL_VALUE w_GUARANTEE w_LETTER_OF_CREDIT w_UNDRAWN_COMMITMENT w_ACCEPTANCE w_NOTE_ISSUANCE_FACILITY w_FORWARD_PURCHASE w_OTHER_OFF_BALANCE w_ON_BALANCE w_OFF_BALANCE w_NO_COUNTERPARTY h0 n0 _ T108.heap _
      rw [e108]
      exact ⟨rfl, N108⟩
  · obtain ⟨cq110, kq110, q110a, q110b, q110c⟩ := isOf hZ e59 (E_FORWARD_PURCHASE.ext O59)
    obtain ⟨v110, _, ⟨T110, L110, k110, n110⟩, -, X110, ⟨Lc110, hQ110, l110, y110, z110⟩, st110⟩ := X61.virtualBack hx (y := (⟨"com/example/ponderat/ponderat/Item", "isOffBalance", "()Z"⟩ : MethodName)) (z := (⟨"com/example/ponderat/ponderat/Item", "isOffBalance", "()Z"⟩ : MethodName)) hown (mvT hZ (hw _ (List.mem_of_getElem? (i := 57) rfl))) (mvT hZ (hw _ (List.mem_of_getElem? (i := 58) rfl))) (notFace_of_selects (args := #[]) (mvT hZ (hw _ (List.mem_of_getElem? (i := 60) rfl)))) (mvT hZ (hw _ (List.mem_of_getElem? (i := 60) rfl))) (mvT hZ (hw _ (List.mem_of_getElem? (i := 59) rfl))) (by decide) (backOf (W := 0) (rm_1 l Z a0 hw [] w_FORWARD_PURCHASE w_OFF_BALANCE w_OFF_BALANCE h59 n0 (Nat.le_trans Z0 O59.1) (F_FORWARD_PURCHASE_kind.ext O59) (S_OFF_BALANCE.ext O59)) hZ (hw _ (List.mem_of_getElem? (i := 61) rfl)) (hw _ (List.mem_of_getElem? (i := 3) rfl)) (by decide) (by decide)) q110a q110c (g := (mkF m 205 #[.val (.int k0), .val (.ref b7), .val (.int (24 : Int32)), .val (.int (1 : Int32))] [(.ref w_FORWARD_PURCHASE)])) rfl (by rw [hml]; rfl) (Steps.refl _) (argsL := []) (rest := []) (lenOf pd_0 rfl) rfl (by show 2 * 0 + _ ≤ _; exact Nat.le_of_eq rfl) (hb hby at_205) (fun _ _ => ⟨rfl, e59, (by decide : 1 + 0 ≤ _), (by decide : 26 + 0 ≤ _)⟩)
    dsimp only [Pt.U, Pt.locs, Pt.cells, Pt.slots] at X110 l110 y110 z110 st110 hQ110
    subst l110 y110 z110
    obtain ⟨hv110, N110q, e110⟩ := hQ110
    have N110 := Fr.app N61 N110q
    have hw110 : v110 = some (.int (1 : Int32)) := hv110.trans (by rw [if_pos rfl])
    subst hw110
    have pre111 : ∀ t_, Steps p.tables e below (T110.setTop (mkF m 217 #[.val (.int k0), .val (.ref b7), .val (.int (24 : Int32)), .val (.int (1 : Int32))] [(.int (1 : Int32))])) t_ → Steps p.tables e below (s₁.setTop (entryFrame m #[(.int k0)] maxLocals)) t_ := fun t_ k_ => pre60 t_ (by
      show Steps p.tables e below (T59.setTop (mkF m 190 #[.val (.int k0), .val (.ref b7), .val (.int (24 : Int32)), .unset] [])) _
      refine XS.iloadN X61.here hx rfl (hb hby at_190) rfl ?_
      show Steps p.tables e below (T59.setTop (mkF m 191 #[.val (.int k0), .val (.ref b7), .val (.int (24 : Int32)), .unset] [(.int (24 : Int32))])) _
      refine XS.bipush X61.here hx rfl (hb hby at_191) ?_
      show Steps p.tables e below (T59.setTop (mkF m 193 #[.val (.int k0), .val (.ref b7), .val (.int (24 : Int32)), .unset] [(.int (19 : Int32)), (.int (24 : Int32))])) _
      refine XS.icmpNo X61.here hx rfl (hb hby at_193) rfl (flt (by decide : ¬ ((24 : Int32) < (19 : Int32)))).1 ?_
      show Steps p.tables e below (T59.setTop (mkF m 196 #[.val (.int k0), .val (.ref b7), .val (.int (24 : Int32)), .unset] [])) _
      refine XS.iconst X61.here hx rfl (hb hby at_196) ?_
      show Steps p.tables e below (T59.setTop (mkF m 197 #[.val (.int k0), .val (.ref b7), .val (.int (24 : Int32)), .unset] [(.int (1 : Int32))])) _
      refine XS.goto X61.here hx rfl (pc0 := 197) (pc' := 201) rfl (hb hby at_197) (by decide) (by decide) ?_
      show Steps p.tables e below (T59.setTop (mkF m 201 #[.val (.int k0), .val (.ref b7), .val (.int (24 : Int32)), .unset] [(.int (1 : Int32))])) _
      refine XS.istoreN X61.here hx rfl (hb hby at_201) rfl (l' := #[.val (.int k0), .val (.ref b7), .val (.int (24 : Int32)), .val (.int (1 : Int32))]) rfl ?_
      show Steps p.tables e below (T59.setTop (mkF m 202 #[.val (.int k0), .val (.ref b7), .val (.int (24 : Int32)), .val (.int (1 : Int32))] [])) _
      refine XS.aloadN X61.here hx rfl (hb hby at_202) rfl rfl ?_
      show Steps p.tables e below (T59.setTop (mkF m 203 #[.val (.int k0), .val (.ref b7), .val (.int (24 : Int32)), .val (.int (1 : Int32))] [(.ref b7)])) _
      refine XS.iloadN X61.here hx rfl (hb hby at_203) rfl ?_
      show Steps p.tables e below (T59.setTop (mkF m 204 #[.val (.int k0), .val (.ref b7), .val (.int (24 : Int32)), .val (.int (1 : Int32))] [(.int (24 : Int32)), (.ref b7)])) _
      refine X61.aaload hx (j := (24 : Int32)) (v := (.ref w_FORWARD_PURCHASE)) (by rw [e59]; exact Ar.1) (State.isArrayOf_alike hZ.alike Ar.2.1) rfl Ar.2.2 (inb_of Sz ⟨by decide, by decide⟩) (Has.at Hs (j := (24 : Int32)) (inb_of Sz ⟨by decide, by decide⟩) rfl) (g := (mkF m 204 #[.val (.int k0), .val (.ref b7), .val (.int (24 : Int32)), .val (.int (1 : Int32))] [(.int (24 : Int32)), (.ref b7)])) rfl rfl (hb hby at_204) _ ?_
      show Steps p.tables e below (T59.setTop (mkF m 205 #[.val (.int k0), .val (.ref b7), .val (.int (24 : Int32)), .val (.int (1 : Int32))] [(.ref w_FORWARD_PURCHASE)])) _
      refine st110.trans ?_
      show Steps p.tables e below (T110.setTop (mkF m 208 #[.val (.int k0), .val (.ref b7), .val (.int (24 : Int32)), .val (.int (1 : Int32))] [(.int (1 : Int32))])) _
      refine XS.iloadN X110.here hx rfl (hb hby at_208) rfl ?_
      show Steps p.tables e below (T110.setTop (mkF m 209 #[.val (.int k0), .val (.ref b7), .val (.int (24 : Int32)), .val (.int (1 : Int32))] [(.int (1 : Int32)), (.int (1 : Int32))])) _
      refine XS.icmpNo X110.here hx rfl (hb hby at_209) rfl (teq (rfl : (1 : Int32) = (1 : Int32))).2 ?_
      show Steps p.tables e below (T110.setTop (mkF m 212 #[.val (.int k0), .val (.ref b7), .val (.int (24 : Int32)), .val (.int (1 : Int32))] [])) _
      refine XS.iconst X110.here hx rfl (hb hby at_212) ?_
      show Steps p.tables e below (T110.setTop (mkF m 213 #[.val (.int k0), .val (.ref b7), .val (.int (24 : Int32)), .val (.int (1 : Int32))] [(.int (1 : Int32))])) _
      refine XS.goto X110.here hx rfl (pc0 := 213) (pc' := 217) rfl (hb hby at_213) (by decide) (by decide) ?_
      show Steps p.tables e below (T110.setTop (mkF m 217 #[.val (.int k0), .val (.ref b7), .val (.int (24 : Int32)), .val (.int (1 : Int32))] [(.int (1 : Int32))])) _
      exact k_)
    obtain ⟨fs, hr, hrun, hended, hW, hsame⟩ := X110.leave (v := some (.int (1 : Int32))) (fun h => by rw [Bd.returns] at h; cases h)
    refine ⟨_, _, pre111 _ ?_, hrun, hended, _, _, rfl, ?_, ⟨_, rfl⟩, hW, hsame.mono (by decide) (by decide)⟩
    · show Steps p.tables e below (T110.setTop (mkF m 217 #[.val (.int k0), .val (.ref b7), .val (.int (24 : Int32)), .val (.int (1 : Int32))] [(.int (1 : Int32))])) _
      exact retN X110 hx (t := .boolean) Bd.returns (by simp) (hb hby at_217) hr
    · show Q_0 Z k0 w_LOAN w_DEBT_SECURITY w_DEPOSIT w_MANDATORY_RESERVE w_TRADE_FINANCE w_VENTURE_CAPITAL w_PRIVATE_EQUITY w_ALTERNATIVE_INVESTMENT_FUND w_SPECULATIVE_REAL_ESTATE w_EQUITY w_CIU_UNIT w_SECURITISATION_POSITION w_CASH w_CASH_IN_COLLECTION w_GOLD w_TANGIBLE_ASSET w_REPOSSESSED_ASSET w_UNIDENTIFIED_PREPAYMENT w_LEASE_RESIDUAL_VALUE w_GUARANTEE w_LETTER_OF_CREDIT w_UNDRAWN_COMMITMENT w_ACCEPTANCE w_NOTE_ISSUANCE_FACILITY w_FORWARD_PURCHASE w_OTHER_OFF_BALANCE w_ON_BALANCE w_OFF_BALANCE w_NO_COUNTERPARTY h0 n0 _ T110.heap _
      rw [e110]
      exact ⟨rfl, N110⟩
  · obtain ⟨cq112, kq112, q112a, q112b, q112c⟩ := isOf hZ e59 (E_OTHER_OFF_BALANCE.ext O59)
    obtain ⟨v112, _, ⟨T112, L112, k112, n112⟩, -, X112, ⟨Lc112, hQ112, l112, y112, z112⟩, st112⟩ := X61.virtualBack hx (y := (⟨"com/example/ponderat/ponderat/Item", "isOffBalance", "()Z"⟩ : MethodName)) (z := (⟨"com/example/ponderat/ponderat/Item", "isOffBalance", "()Z"⟩ : MethodName)) hown (mvT hZ (hw _ (List.mem_of_getElem? (i := 57) rfl))) (mvT hZ (hw _ (List.mem_of_getElem? (i := 58) rfl))) (notFace_of_selects (args := #[]) (mvT hZ (hw _ (List.mem_of_getElem? (i := 60) rfl)))) (mvT hZ (hw _ (List.mem_of_getElem? (i := 60) rfl))) (mvT hZ (hw _ (List.mem_of_getElem? (i := 59) rfl))) (by decide) (backOf (W := 0) (rm_1 l Z a0 hw [] w_OTHER_OFF_BALANCE w_OFF_BALANCE w_OFF_BALANCE h59 n0 (Nat.le_trans Z0 O59.1) (F_OTHER_OFF_BALANCE_kind.ext O59) (S_OFF_BALANCE.ext O59)) hZ (hw _ (List.mem_of_getElem? (i := 61) rfl)) (hw _ (List.mem_of_getElem? (i := 3) rfl)) (by decide) (by decide)) q112a q112c (g := (mkF m 205 #[.val (.int k0), .val (.ref b7), .val (.int (25 : Int32)), .val (.int (1 : Int32))] [(.ref w_OTHER_OFF_BALANCE)])) rfl (by rw [hml]; rfl) (Steps.refl _) (argsL := []) (rest := []) (lenOf pd_0 rfl) rfl (by show 2 * 0 + _ ≤ _; exact Nat.le_of_eq rfl) (hb hby at_205) (fun _ _ => ⟨rfl, e59, (by decide : 1 + 0 ≤ _), (by decide : 26 + 0 ≤ _)⟩)
    dsimp only [Pt.U, Pt.locs, Pt.cells, Pt.slots] at X112 l112 y112 z112 st112 hQ112
    subst l112 y112 z112
    obtain ⟨hv112, N112q, e112⟩ := hQ112
    have N112 := Fr.app N61 N112q
    have hw112 : v112 = some (.int (1 : Int32)) := hv112.trans (by rw [if_pos rfl])
    subst hw112
    have pre113 : ∀ t_, Steps p.tables e below (T112.setTop (mkF m 217 #[.val (.int k0), .val (.ref b7), .val (.int (25 : Int32)), .val (.int (1 : Int32))] [(.int (1 : Int32))])) t_ → Steps p.tables e below (s₁.setTop (entryFrame m #[(.int k0)] maxLocals)) t_ := fun t_ k_ => pre60 t_ (by
      show Steps p.tables e below (T59.setTop (mkF m 190 #[.val (.int k0), .val (.ref b7), .val (.int (25 : Int32)), .unset] [])) _
      refine XS.iloadN X61.here hx rfl (hb hby at_190) rfl ?_
      show Steps p.tables e below (T59.setTop (mkF m 191 #[.val (.int k0), .val (.ref b7), .val (.int (25 : Int32)), .unset] [(.int (25 : Int32))])) _
      refine XS.bipush X61.here hx rfl (hb hby at_191) ?_
      show Steps p.tables e below (T59.setTop (mkF m 193 #[.val (.int k0), .val (.ref b7), .val (.int (25 : Int32)), .unset] [(.int (19 : Int32)), (.int (25 : Int32))])) _
      refine XS.icmpNo X61.here hx rfl (hb hby at_193) rfl (flt (by decide : ¬ ((25 : Int32) < (19 : Int32)))).1 ?_
      show Steps p.tables e below (T59.setTop (mkF m 196 #[.val (.int k0), .val (.ref b7), .val (.int (25 : Int32)), .unset] [])) _
      refine XS.iconst X61.here hx rfl (hb hby at_196) ?_
      show Steps p.tables e below (T59.setTop (mkF m 197 #[.val (.int k0), .val (.ref b7), .val (.int (25 : Int32)), .unset] [(.int (1 : Int32))])) _
      refine XS.goto X61.here hx rfl (pc0 := 197) (pc' := 201) rfl (hb hby at_197) (by decide) (by decide) ?_
      show Steps p.tables e below (T59.setTop (mkF m 201 #[.val (.int k0), .val (.ref b7), .val (.int (25 : Int32)), .unset] [(.int (1 : Int32))])) _
      refine XS.istoreN X61.here hx rfl (hb hby at_201) rfl (l' := #[.val (.int k0), .val (.ref b7), .val (.int (25 : Int32)), .val (.int (1 : Int32))]) rfl ?_
      show Steps p.tables e below (T59.setTop (mkF m 202 #[.val (.int k0), .val (.ref b7), .val (.int (25 : Int32)), .val (.int (1 : Int32))] [])) _
      refine XS.aloadN X61.here hx rfl (hb hby at_202) rfl rfl ?_
      show Steps p.tables e below (T59.setTop (mkF m 203 #[.val (.int k0), .val (.ref b7), .val (.int (25 : Int32)), .val (.int (1 : Int32))] [(.ref b7)])) _
      refine XS.iloadN X61.here hx rfl (hb hby at_203) rfl ?_
      show Steps p.tables e below (T59.setTop (mkF m 204 #[.val (.int k0), .val (.ref b7), .val (.int (25 : Int32)), .val (.int (1 : Int32))] [(.int (25 : Int32)), (.ref b7)])) _
      refine X61.aaload hx (j := (25 : Int32)) (v := (.ref w_OTHER_OFF_BALANCE)) (by rw [e59]; exact Ar.1) (State.isArrayOf_alike hZ.alike Ar.2.1) rfl Ar.2.2 (inb_of Sz ⟨by decide, by decide⟩) (Has.at Hs (j := (25 : Int32)) (inb_of Sz ⟨by decide, by decide⟩) rfl) (g := (mkF m 204 #[.val (.int k0), .val (.ref b7), .val (.int (25 : Int32)), .val (.int (1 : Int32))] [(.int (25 : Int32)), (.ref b7)])) rfl rfl (hb hby at_204) _ ?_
      show Steps p.tables e below (T59.setTop (mkF m 205 #[.val (.int k0), .val (.ref b7), .val (.int (25 : Int32)), .val (.int (1 : Int32))] [(.ref w_OTHER_OFF_BALANCE)])) _
      refine st112.trans ?_
      show Steps p.tables e below (T112.setTop (mkF m 208 #[.val (.int k0), .val (.ref b7), .val (.int (25 : Int32)), .val (.int (1 : Int32))] [(.int (1 : Int32))])) _
      refine XS.iloadN X112.here hx rfl (hb hby at_208) rfl ?_
      show Steps p.tables e below (T112.setTop (mkF m 209 #[.val (.int k0), .val (.ref b7), .val (.int (25 : Int32)), .val (.int (1 : Int32))] [(.int (1 : Int32)), (.int (1 : Int32))])) _
      refine XS.icmpNo X112.here hx rfl (hb hby at_209) rfl (teq (rfl : (1 : Int32) = (1 : Int32))).2 ?_
      show Steps p.tables e below (T112.setTop (mkF m 212 #[.val (.int k0), .val (.ref b7), .val (.int (25 : Int32)), .val (.int (1 : Int32))] [])) _
      refine XS.iconst X112.here hx rfl (hb hby at_212) ?_
      show Steps p.tables e below (T112.setTop (mkF m 213 #[.val (.int k0), .val (.ref b7), .val (.int (25 : Int32)), .val (.int (1 : Int32))] [(.int (1 : Int32))])) _
      refine XS.goto X112.here hx rfl (pc0 := 213) (pc' := 217) rfl (hb hby at_213) (by decide) (by decide) ?_
      show Steps p.tables e below (T112.setTop (mkF m 217 #[.val (.int k0), .val (.ref b7), .val (.int (25 : Int32)), .val (.int (1 : Int32))] [(.int (1 : Int32))])) _
      exact k_)
    obtain ⟨fs, hr, hrun, hended, hW, hsame⟩ := X112.leave (v := some (.int (1 : Int32))) (fun h => by rw [Bd.returns] at h; cases h)
    refine ⟨_, _, pre113 _ ?_, hrun, hended, _, _, rfl, ?_, ⟨_, rfl⟩, hW, hsame.mono (by decide) (by decide)⟩
    · show Steps p.tables e below (T112.setTop (mkF m 217 #[.val (.int k0), .val (.ref b7), .val (.int (25 : Int32)), .val (.int (1 : Int32))] [(.int (1 : Int32))])) _
      exact retN X112 hx (t := .boolean) Bd.returns (by simp) (hb hby at_217) hr
    · show Q_0 Z k0 w_LOAN w_DEBT_SECURITY w_DEPOSIT w_MANDATORY_RESERVE w_TRADE_FINANCE w_VENTURE_CAPITAL w_PRIVATE_EQUITY w_ALTERNATIVE_INVESTMENT_FUND w_SPECULATIVE_REAL_ESTATE w_EQUITY w_CIU_UNIT w_SECURITISATION_POSITION w_CASH w_CASH_IN_COLLECTION w_GOLD w_TANGIBLE_ASSET w_REPOSSESSED_ASSET w_UNIDENTIFIED_PREPAYMENT w_LEASE_RESIDUAL_VALUE w_GUARANTEE w_LETTER_OF_CREDIT w_UNDRAWN_COMMITMENT w_ACCEPTANCE w_NOTE_ISSUANCE_FACILITY w_FORWARD_PURCHASE w_OTHER_OFF_BALANCE w_ON_BALANCE w_OFF_BALANCE w_NO_COUNTERPARTY h0 n0 _ T112.heap _
      rw [e112]
      exact ⟨rfl, N112⟩
set_option maxRecDepth 65536 in
set_option maxHeartbeats 40000000 in
theorem comes_1 {Post : Tables → Env → Array Value → State → Outcome → State → Prop} (hpost : ∀ tb e args s v u, (limb_1_1.after args s (.returned v) u = true ∧ limb_1_2.after args s (.returned v) u = true ∧ True) → FrameEnd s (.returned v) u (Jvm.fieldLocs frame_1_writes args s ++ Jvm.arrayLocs frame_1_arrays args s ++ Jvm.staticLocs frame_1_statics s) 16 128 → Post tb e args s (.returned v) u) :
    ArmFor flags0 classFile x code maxLocals ret World_1 tables_1 room_1 Calls_1 rest_1 Pre_1 Post := by
  intro l hfl _ _ p e ha hc hk s m args below hf hA hF happ hP
  obtain ⟨hcalls, hrest, hpre⟩ := hP
  obtain ⟨-, -, -, hnamed, -, -, -, hat⟩ := (Spec.applies_iff hf).mp happ
  obtain ⟨hg, hn⟩ := and_e (Cond.before_iff.mp (show (Jvm.Cond.and given_1 narrow_1).before args s = true from hpre))
  obtain ⟨hcount, hg0⟩ := and_e hg
  obtain ⟨w0, rfl⟩ : ∃ w0 : Value, args = #[w0] := by
    have hs : args.size = 1 := by simpa [Cond.value, given_1] using hcount
    obtain ⟨L⟩ := args
    match L, hs with
    | [w0], _ => exact ⟨w0, rfl⟩
  have hw := fun d (hd : d ∈ tables_1) => atoms_spec (ws := Jvm.Cond.code x code maxLocals ret :: tables_1) hat d (List.mem_cons_of_mem _ hd)
  have hfit : Fit s := fun {y c} hc i hi => by
    obtain ⟨ha, rfl⟩ := Array.getElem?_eq_some_iff.mp hc
    have q := List.all_eq_true.mp ((Array.all_eq_true_iff_forall_mem.mp hF) _ (Array.getElem_mem ha)) i (List.mem_range.mpr hi)
    simpa [Array.getElem?_eq_getElem hi] using q
  obtain ⟨i0, ei0⟩ := is_v hg0
  obtain rfl : w0 = (.int i0) := Option.some.inj ei0
  obtain ⟨g0, hn_0⟩ := and_e hn
  obtain ⟨g1, hn_1⟩ := and_e hn_0
  obtain ⟨g2, hn_2⟩ := and_e hn_1
  obtain ⟨g3, hn_3⟩ := and_e hn_2
  obtain ⟨g4, hn_4⟩ := and_e hn_3
  obtain ⟨g5, hn_5⟩ := and_e hn_4
  obtain ⟨g6, hn_6⟩ := and_e hn_5
  obtain ⟨g7, hn_7⟩ := and_e hn_6
  obtain ⟨g8, hn_8⟩ := and_e hn_7
  obtain ⟨g9, hn_9⟩ := and_e hn_8
  obtain ⟨g10, hn_10⟩ := and_e hn_9
  obtain ⟨g11, hn_11⟩ := and_e hn_10
  obtain ⟨g12, hn_12⟩ := and_e hn_11
  obtain ⟨g13, hn_13⟩ := and_e hn_12
  obtain ⟨g14, hn_14⟩ := and_e hn_13
  obtain ⟨g15, hn_15⟩ := and_e hn_14
  obtain ⟨g16, hn_16⟩ := and_e hn_15
  obtain ⟨g17, hn_17⟩ := and_e hn_16
  obtain ⟨g18, hn_18⟩ := and_e hn_17
  obtain ⟨g19, hn_19⟩ := and_e hn_18
  obtain ⟨g20, hn_20⟩ := and_e hn_19
  obtain ⟨g21, hn_21⟩ := and_e hn_20
  obtain ⟨g22, hn_22⟩ := and_e hn_21
  obtain ⟨g23, hn_23⟩ := and_e hn_22
  obtain ⟨g24, hn_24⟩ := and_e hn_23
  obtain ⟨g25, hn_25⟩ := and_e hn_24
  obtain ⟨g26, hn_26⟩ := and_e hn_25
  obtain ⟨g27, hn_27⟩ := and_e hn_26
  obtain ⟨g28, hn_28⟩ := and_e hn_27
  obtain ⟨g29, hn_29⟩ := and_e hn_28
  obtain ⟨g30, hn_30⟩ := and_e hn_29
  obtain ⟨g31, hn_31⟩ := and_e hn_30
  obtain ⟨g32, hn_32⟩ := and_e hn_31
  obtain ⟨g33, hn_33⟩ := and_e hn_32
  obtain ⟨g34, hn_34⟩ := and_e hn_33
  obtain ⟨g35, hn_35⟩ := and_e hn_34
  obtain ⟨g36, hn_36⟩ := and_e hn_35
  obtain ⟨g37, hn_37⟩ := and_e hn_36
  obtain ⟨g38, hn_38⟩ := and_e hn_37
  obtain ⟨g39, hn_39⟩ := and_e hn_38
  obtain ⟨g40, hn_40⟩ := and_e hn_39
  obtain ⟨g41, hn_41⟩ := and_e hn_40
  obtain ⟨g42, hn_42⟩ := and_e hn_41
  obtain ⟨g43, hn_43⟩ := and_e hn_42
  obtain ⟨g44, hn_44⟩ := and_e hn_43
  obtain ⟨g45, hn_45⟩ := and_e hn_44
  obtain ⟨g46, hn_46⟩ := and_e hn_45
  obtain ⟨g47, hn_47⟩ := and_e hn_46
  obtain ⟨g48, hn_48⟩ := and_e hn_47
  obtain ⟨g49, hn_49⟩ := and_e hn_48
  obtain ⟨g50, hn_50⟩ := and_e hn_49
  obtain ⟨g51, hn_51⟩ := and_e hn_50
  obtain ⟨g52, hn_52⟩ := and_e hn_51
  obtain ⟨g53, hn_53⟩ := and_e hn_52
  obtain ⟨g54, hn_54⟩ := and_e hn_53
  obtain ⟨g55, hn_55⟩ := and_e hn_54
  obtain ⟨g56, hn_56⟩ := and_e hn_55
  have g57 := hn_56
  obtain ⟨w_LOAN, ev_LOAN, S_LOAN, E_LOAN⟩ := own_sta (hw _ (List.mem_of_getElem? (i := 3) rfl)) (hw _ (List.mem_of_getElem? (i := 4) rfl)) g0
  obtain ⟨w_DEBT_SECURITY, ev_DEBT_SECURITY, S_DEBT_SECURITY, E_DEBT_SECURITY⟩ := own_sta (hw _ (List.mem_of_getElem? (i := 3) rfl)) (hw _ (List.mem_of_getElem? (i := 7) rfl)) g1
  obtain ⟨w_DEPOSIT, ev_DEPOSIT, S_DEPOSIT, E_DEPOSIT⟩ := own_sta (hw _ (List.mem_of_getElem? (i := 3) rfl)) (hw _ (List.mem_of_getElem? (i := 9) rfl)) g2
  obtain ⟨w_MANDATORY_RESERVE, ev_MANDATORY_RESERVE, S_MANDATORY_RESERVE, E_MANDATORY_RESERVE⟩ := own_sta (hw _ (List.mem_of_getElem? (i := 3) rfl)) (hw _ (List.mem_of_getElem? (i := 11) rfl)) g3
  obtain ⟨w_TRADE_FINANCE, ev_TRADE_FINANCE, S_TRADE_FINANCE, E_TRADE_FINANCE⟩ := own_sta (hw _ (List.mem_of_getElem? (i := 3) rfl)) (hw _ (List.mem_of_getElem? (i := 13) rfl)) g4
  obtain ⟨w_VENTURE_CAPITAL, ev_VENTURE_CAPITAL, S_VENTURE_CAPITAL, E_VENTURE_CAPITAL⟩ := own_sta (hw _ (List.mem_of_getElem? (i := 3) rfl)) (hw _ (List.mem_of_getElem? (i := 15) rfl)) g5
  obtain ⟨w_PRIVATE_EQUITY, ev_PRIVATE_EQUITY, S_PRIVATE_EQUITY, E_PRIVATE_EQUITY⟩ := own_sta (hw _ (List.mem_of_getElem? (i := 3) rfl)) (hw _ (List.mem_of_getElem? (i := 17) rfl)) g6
  obtain ⟨w_ALTERNATIVE_INVESTMENT_FUND, ev_ALTERNATIVE_INVESTMENT_FUND, S_ALTERNATIVE_INVESTMENT_FUND, E_ALTERNATIVE_INVESTMENT_FUND⟩ := own_sta (hw _ (List.mem_of_getElem? (i := 3) rfl)) (hw _ (List.mem_of_getElem? (i := 19) rfl)) g7
  obtain ⟨w_SPECULATIVE_REAL_ESTATE, ev_SPECULATIVE_REAL_ESTATE, S_SPECULATIVE_REAL_ESTATE, E_SPECULATIVE_REAL_ESTATE⟩ := own_sta (hw _ (List.mem_of_getElem? (i := 3) rfl)) (hw _ (List.mem_of_getElem? (i := 21) rfl)) g8
  obtain ⟨w_EQUITY, ev_EQUITY, S_EQUITY, E_EQUITY⟩ := own_sta (hw _ (List.mem_of_getElem? (i := 3) rfl)) (hw _ (List.mem_of_getElem? (i := 23) rfl)) g9
  obtain ⟨w_CIU_UNIT, ev_CIU_UNIT, S_CIU_UNIT, E_CIU_UNIT⟩ := own_sta (hw _ (List.mem_of_getElem? (i := 3) rfl)) (hw _ (List.mem_of_getElem? (i := 25) rfl)) g10
  obtain ⟨w_SECURITISATION_POSITION, ev_SECURITISATION_POSITION, S_SECURITISATION_POSITION, E_SECURITISATION_POSITION⟩ := own_sta (hw _ (List.mem_of_getElem? (i := 3) rfl)) (hw _ (List.mem_of_getElem? (i := 27) rfl)) g11
  obtain ⟨w_CASH, ev_CASH, S_CASH, E_CASH⟩ := own_sta (hw _ (List.mem_of_getElem? (i := 3) rfl)) (hw _ (List.mem_of_getElem? (i := 29) rfl)) g12
  obtain ⟨w_CASH_IN_COLLECTION, ev_CASH_IN_COLLECTION, S_CASH_IN_COLLECTION, E_CASH_IN_COLLECTION⟩ := own_sta (hw _ (List.mem_of_getElem? (i := 3) rfl)) (hw _ (List.mem_of_getElem? (i := 31) rfl)) g13
  obtain ⟨w_GOLD, ev_GOLD, S_GOLD, E_GOLD⟩ := own_sta (hw _ (List.mem_of_getElem? (i := 3) rfl)) (hw _ (List.mem_of_getElem? (i := 33) rfl)) g14
  obtain ⟨w_TANGIBLE_ASSET, ev_TANGIBLE_ASSET, S_TANGIBLE_ASSET, E_TANGIBLE_ASSET⟩ := own_sta (hw _ (List.mem_of_getElem? (i := 3) rfl)) (hw _ (List.mem_of_getElem? (i := 35) rfl)) g15
  obtain ⟨w_REPOSSESSED_ASSET, ev_REPOSSESSED_ASSET, S_REPOSSESSED_ASSET, E_REPOSSESSED_ASSET⟩ := own_sta (hw _ (List.mem_of_getElem? (i := 3) rfl)) (hw _ (List.mem_of_getElem? (i := 37) rfl)) g16
  obtain ⟨w_UNIDENTIFIED_PREPAYMENT, ev_UNIDENTIFIED_PREPAYMENT, S_UNIDENTIFIED_PREPAYMENT, E_UNIDENTIFIED_PREPAYMENT⟩ := own_sta (hw _ (List.mem_of_getElem? (i := 3) rfl)) (hw _ (List.mem_of_getElem? (i := 39) rfl)) g17
  obtain ⟨w_LEASE_RESIDUAL_VALUE, ev_LEASE_RESIDUAL_VALUE, S_LEASE_RESIDUAL_VALUE, E_LEASE_RESIDUAL_VALUE⟩ := own_sta (hw _ (List.mem_of_getElem? (i := 3) rfl)) (hw _ (List.mem_of_getElem? (i := 41) rfl)) g18
  obtain ⟨w_GUARANTEE, ev_GUARANTEE, S_GUARANTEE, E_GUARANTEE⟩ := own_sta (hw _ (List.mem_of_getElem? (i := 3) rfl)) (hw _ (List.mem_of_getElem? (i := 43) rfl)) g19
  obtain ⟨w_LETTER_OF_CREDIT, ev_LETTER_OF_CREDIT, S_LETTER_OF_CREDIT, E_LETTER_OF_CREDIT⟩ := own_sta (hw _ (List.mem_of_getElem? (i := 3) rfl)) (hw _ (List.mem_of_getElem? (i := 45) rfl)) g20
  obtain ⟨w_UNDRAWN_COMMITMENT, ev_UNDRAWN_COMMITMENT, S_UNDRAWN_COMMITMENT, E_UNDRAWN_COMMITMENT⟩ := own_sta (hw _ (List.mem_of_getElem? (i := 3) rfl)) (hw _ (List.mem_of_getElem? (i := 47) rfl)) g21
  obtain ⟨w_ACCEPTANCE, ev_ACCEPTANCE, S_ACCEPTANCE, E_ACCEPTANCE⟩ := own_sta (hw _ (List.mem_of_getElem? (i := 3) rfl)) (hw _ (List.mem_of_getElem? (i := 49) rfl)) g22
  obtain ⟨w_NOTE_ISSUANCE_FACILITY, ev_NOTE_ISSUANCE_FACILITY, S_NOTE_ISSUANCE_FACILITY, E_NOTE_ISSUANCE_FACILITY⟩ := own_sta (hw _ (List.mem_of_getElem? (i := 3) rfl)) (hw _ (List.mem_of_getElem? (i := 51) rfl)) g23
  obtain ⟨w_FORWARD_PURCHASE, ev_FORWARD_PURCHASE, S_FORWARD_PURCHASE, E_FORWARD_PURCHASE⟩ := own_sta (hw _ (List.mem_of_getElem? (i := 3) rfl)) (hw _ (List.mem_of_getElem? (i := 53) rfl)) g24
  obtain ⟨w_OTHER_OFF_BALANCE, ev_OTHER_OFF_BALANCE, S_OTHER_OFF_BALANCE, E_OTHER_OFF_BALANCE⟩ := own_sta (hw _ (List.mem_of_getElem? (i := 3) rfl)) (hw _ (List.mem_of_getElem? (i := 55) rfl)) g25
  obtain ⟨w_ON_BALANCE, ev_ON_BALANCE, S_ON_BALANCE, E_ON_BALANCE⟩ := own_sta (hw _ (List.mem_of_getElem? (i := 64) rfl)) (hw _ (List.mem_of_getElem? (i := 65) rfl)) g26
  obtain ⟨w_OFF_BALANCE, ev_OFF_BALANCE, S_OFF_BALANCE, E_OFF_BALANCE⟩ := own_sta (hw _ (List.mem_of_getElem? (i := 64) rfl)) (hw _ (List.mem_of_getElem? (i := 67) rfl)) g28
  obtain ⟨w_NO_COUNTERPARTY, ev_NO_COUNTERPARTY, S_NO_COUNTERPARTY, E_NO_COUNTERPARTY⟩ := own_sta (hw _ (List.mem_of_getElem? (i := 64) rfl)) (hw _ (List.mem_of_getElem? (i := 68) rfl)) g38
  have F_LOAN_kind : Fld s s.heap w_LOAN "com/example/ponderat/ponderat/Item" "kind" "Lcom/example/ponderat/ponderat/Item$Kind;" (.ref w_ON_BALANCE) := own_fldR ev_LOAN ev_ON_BALANCE g27
  have F_ON_BALANCE_ordinal : Fld s s.heap w_ON_BALANCE "java/lang/Enum" "ordinal" "I" (.int (0 : Int32)) := own_fld ev_ON_BALANCE g29
  have F_OFF_BALANCE_ordinal : Fld s s.heap w_OFF_BALANCE "java/lang/Enum" "ordinal" "I" (.int (2 : Int32)) := own_fld ev_OFF_BALANCE g30
  have F_MANDATORY_RESERVE_kind : Fld s s.heap w_MANDATORY_RESERVE "com/example/ponderat/ponderat/Item" "kind" "Lcom/example/ponderat/ponderat/Item$Kind;" (.ref w_ON_BALANCE) := own_fldR ev_MANDATORY_RESERVE ev_ON_BALANCE g31
  have F_PRIVATE_EQUITY_kind : Fld s s.heap w_PRIVATE_EQUITY "com/example/ponderat/ponderat/Item" "kind" "Lcom/example/ponderat/ponderat/Item$Kind;" (.ref w_ON_BALANCE) := own_fldR ev_PRIVATE_EQUITY ev_ON_BALANCE g32
  have F_VENTURE_CAPITAL_kind : Fld s s.heap w_VENTURE_CAPITAL "com/example/ponderat/ponderat/Item" "kind" "Lcom/example/ponderat/ponderat/Item$Kind;" (.ref w_ON_BALANCE) := own_fldR ev_VENTURE_CAPITAL ev_ON_BALANCE g33
  have F_ALTERNATIVE_INVESTMENT_FUND_kind : Fld s s.heap w_ALTERNATIVE_INVESTMENT_FUND "com/example/ponderat/ponderat/Item" "kind" "Lcom/example/ponderat/ponderat/Item$Kind;" (.ref w_ON_BALANCE) := own_fldR ev_ALTERNATIVE_INVESTMENT_FUND ev_ON_BALANCE g34
  have F_ACCEPTANCE_kind : Fld s s.heap w_ACCEPTANCE "com/example/ponderat/ponderat/Item" "kind" "Lcom/example/ponderat/ponderat/Item$Kind;" (.ref w_OFF_BALANCE) := own_fldR ev_ACCEPTANCE ev_OFF_BALANCE g35
  have F_DEPOSIT_kind : Fld s s.heap w_DEPOSIT "com/example/ponderat/ponderat/Item" "kind" "Lcom/example/ponderat/ponderat/Item$Kind;" (.ref w_ON_BALANCE) := own_fldR ev_DEPOSIT ev_ON_BALANCE g36
  have F_SECURITISATION_POSITION_kind : Fld s s.heap w_SECURITISATION_POSITION "com/example/ponderat/ponderat/Item" "kind" "Lcom/example/ponderat/ponderat/Item$Kind;" (.ref w_ON_BALANCE) := own_fldR ev_SECURITISATION_POSITION ev_ON_BALANCE g37
  have F_GOLD_kind : Fld s s.heap w_GOLD "com/example/ponderat/ponderat/Item" "kind" "Lcom/example/ponderat/ponderat/Item$Kind;" (.ref w_NO_COUNTERPARTY) := own_fldR ev_GOLD ev_NO_COUNTERPARTY g39
  have F_NO_COUNTERPARTY_ordinal : Fld s s.heap w_NO_COUNTERPARTY "java/lang/Enum" "ordinal" "I" (.int (1 : Int32)) := own_fld ev_NO_COUNTERPARTY g40
  have F_SPECULATIVE_REAL_ESTATE_kind : Fld s s.heap w_SPECULATIVE_REAL_ESTATE "com/example/ponderat/ponderat/Item" "kind" "Lcom/example/ponderat/ponderat/Item$Kind;" (.ref w_ON_BALANCE) := own_fldR ev_SPECULATIVE_REAL_ESTATE ev_ON_BALANCE g41
  have F_DEBT_SECURITY_kind : Fld s s.heap w_DEBT_SECURITY "com/example/ponderat/ponderat/Item" "kind" "Lcom/example/ponderat/ponderat/Item$Kind;" (.ref w_ON_BALANCE) := own_fldR ev_DEBT_SECURITY ev_ON_BALANCE g42
  have F_TANGIBLE_ASSET_kind : Fld s s.heap w_TANGIBLE_ASSET "com/example/ponderat/ponderat/Item" "kind" "Lcom/example/ponderat/ponderat/Item$Kind;" (.ref w_NO_COUNTERPARTY) := own_fldR ev_TANGIBLE_ASSET ev_NO_COUNTERPARTY g43
  have F_REPOSSESSED_ASSET_kind : Fld s s.heap w_REPOSSESSED_ASSET "com/example/ponderat/ponderat/Item" "kind" "Lcom/example/ponderat/ponderat/Item$Kind;" (.ref w_NO_COUNTERPARTY) := own_fldR ev_REPOSSESSED_ASSET ev_NO_COUNTERPARTY g44
  have F_CIU_UNIT_kind : Fld s s.heap w_CIU_UNIT "com/example/ponderat/ponderat/Item" "kind" "Lcom/example/ponderat/ponderat/Item$Kind;" (.ref w_ON_BALANCE) := own_fldR ev_CIU_UNIT ev_ON_BALANCE g45
  have F_UNDRAWN_COMMITMENT_kind : Fld s s.heap w_UNDRAWN_COMMITMENT "com/example/ponderat/ponderat/Item" "kind" "Lcom/example/ponderat/ponderat/Item$Kind;" (.ref w_OFF_BALANCE) := own_fldR ev_UNDRAWN_COMMITMENT ev_OFF_BALANCE g46
  have F_CASH_IN_COLLECTION_kind : Fld s s.heap w_CASH_IN_COLLECTION "com/example/ponderat/ponderat/Item" "kind" "Lcom/example/ponderat/ponderat/Item$Kind;" (.ref w_NO_COUNTERPARTY) := own_fldR ev_CASH_IN_COLLECTION ev_NO_COUNTERPARTY g47
  have F_CASH_kind : Fld s s.heap w_CASH "com/example/ponderat/ponderat/Item" "kind" "Lcom/example/ponderat/ponderat/Item$Kind;" (.ref w_NO_COUNTERPARTY) := own_fldR ev_CASH ev_NO_COUNTERPARTY g48
  have F_GUARANTEE_kind : Fld s s.heap w_GUARANTEE "com/example/ponderat/ponderat/Item" "kind" "Lcom/example/ponderat/ponderat/Item$Kind;" (.ref w_OFF_BALANCE) := own_fldR ev_GUARANTEE ev_OFF_BALANCE g49
  have F_LEASE_RESIDUAL_VALUE_kind : Fld s s.heap w_LEASE_RESIDUAL_VALUE "com/example/ponderat/ponderat/Item" "kind" "Lcom/example/ponderat/ponderat/Item$Kind;" (.ref w_NO_COUNTERPARTY) := own_fldR ev_LEASE_RESIDUAL_VALUE ev_NO_COUNTERPARTY g50
  have F_TRADE_FINANCE_kind : Fld s s.heap w_TRADE_FINANCE "com/example/ponderat/ponderat/Item" "kind" "Lcom/example/ponderat/ponderat/Item$Kind;" (.ref w_ON_BALANCE) := own_fldR ev_TRADE_FINANCE ev_ON_BALANCE g51
  have F_EQUITY_kind : Fld s s.heap w_EQUITY "com/example/ponderat/ponderat/Item" "kind" "Lcom/example/ponderat/ponderat/Item$Kind;" (.ref w_ON_BALANCE) := own_fldR ev_EQUITY ev_ON_BALANCE g52
  have F_OTHER_OFF_BALANCE_kind : Fld s s.heap w_OTHER_OFF_BALANCE "com/example/ponderat/ponderat/Item" "kind" "Lcom/example/ponderat/ponderat/Item$Kind;" (.ref w_OFF_BALANCE) := own_fldR ev_OTHER_OFF_BALANCE ev_OFF_BALANCE g53
  have F_UNIDENTIFIED_PREPAYMENT_kind : Fld s s.heap w_UNIDENTIFIED_PREPAYMENT "com/example/ponderat/ponderat/Item" "kind" "Lcom/example/ponderat/ponderat/Item$Kind;" (.ref w_NO_COUNTERPARTY) := own_fldR ev_UNIDENTIFIED_PREPAYMENT ev_NO_COUNTERPARTY g54
  have F_LETTER_OF_CREDIT_kind : Fld s s.heap w_LETTER_OF_CREDIT "com/example/ponderat/ponderat/Item" "kind" "Lcom/example/ponderat/ponderat/Item$Kind;" (.ref w_OFF_BALANCE) := own_fldR ev_LETTER_OF_CREDIT ev_OFF_BALANCE g55
  have F_NOTE_ISSUANCE_FACILITY_kind : Fld s s.heap w_NOTE_ISSUANCE_FACILITY "com/example/ponderat/ponderat/Item" "kind" "Lcom/example/ponderat/ponderat/Item$Kind;" (.ref w_OFF_BALANCE) := own_fldR ev_NOTE_ISSUANCE_FACILITY ev_OFF_BALANCE g56
  have F_FORWARD_PURCHASE_kind : Fld s s.heap w_FORWARD_PURCHASE "com/example/ponderat/ponderat/Item" "kind" "Lcom/example/ponderat/ponderat/Item$Kind;" (.ref w_OFF_BALANCE) := own_fldR ev_FORWARD_PURCHASE ev_OFF_BALANCE g57
  obtain ⟨n, o, h1, h2, h3, _, L, rfl, ⟨rfl, N⟩, hq⟩ := rm_0 l s _ hw tables_1 i0 w_LOAN w_DEBT_SECURITY w_DEPOSIT w_MANDATORY_RESERVE w_TRADE_FINANCE w_VENTURE_CAPITAL w_PRIVATE_EQUITY w_ALTERNATIVE_INVESTMENT_FUND w_SPECULATIVE_REAL_ESTATE w_EQUITY w_CIU_UNIT w_SECURITISATION_POSITION w_CASH w_CASH_IN_COLLECTION w_GOLD w_TANGIBLE_ASSET w_REPOSSESSED_ASSET w_UNIDENTIFIED_PREPAYMENT w_LEASE_RESIDUAL_VALUE w_GUARANTEE w_LETTER_OF_CREDIT w_UNDRAWN_COMMITMENT w_ACCEPTANCE w_NOTE_ISSUANCE_FACILITY w_FORWARD_PURCHASE w_OTHER_OFF_BALANCE w_ON_BALANCE w_OFF_BALANCE w_NO_COUNTERPARTY s.heap s.heap.size (Nat.le_refl _) S_LOAN S_DEBT_SECURITY S_DEPOSIT S_MANDATORY_RESERVE S_TRADE_FINANCE S_VENTURE_CAPITAL S_PRIVATE_EQUITY S_ALTERNATIVE_INVESTMENT_FUND S_SPECULATIVE_REAL_ESTATE S_EQUITY S_CIU_UNIT S_SECURITISATION_POSITION S_CASH S_CASH_IN_COLLECTION S_GOLD S_TANGIBLE_ASSET S_REPOSSESSED_ASSET S_UNIDENTIFIED_PREPAYMENT S_LEASE_RESIDUAL_VALUE S_GUARANTEE S_LETTER_OF_CREDIT S_UNDRAWN_COMMITMENT S_ACCEPTANCE S_NOTE_ISSUANCE_FACILITY S_FORWARD_PURCHASE S_OTHER_OFF_BALANCE S_OFF_BALANCE E_LOAN E_DEBT_SECURITY E_DEPOSIT E_MANDATORY_RESERVE E_TRADE_FINANCE E_VENTURE_CAPITAL E_PRIVATE_EQUITY E_ALTERNATIVE_INVESTMENT_FUND E_SPECULATIVE_REAL_ESTATE E_EQUITY E_CIU_UNIT E_SECURITISATION_POSITION E_CASH E_CASH_IN_COLLECTION E_GOLD E_TANGIBLE_ASSET E_REPOSSESSED_ASSET E_UNIDENTIFIED_PREPAYMENT E_LEASE_RESIDUAL_VALUE E_GUARANTEE E_LETTER_OF_CREDIT E_UNDRAWN_COMMITMENT E_ACCEPTANCE E_NOTE_ISSUANCE_FACILITY E_FORWARD_PURCHASE E_OTHER_OFF_BALANCE F_LOAN_kind F_DEBT_SECURITY_kind F_DEPOSIT_kind F_MANDATORY_RESERVE_kind F_TRADE_FINANCE_kind F_VENTURE_CAPITAL_kind F_PRIVATE_EQUITY_kind F_ALTERNATIVE_INVESTMENT_FUND_kind F_SPECULATIVE_REAL_ESTATE_kind F_EQUITY_kind F_CIU_UNIT_kind F_SECURITISATION_POSITION_kind F_CASH_kind F_CASH_IN_COLLECTION_kind F_GOLD_kind F_TANGIBLE_ASSET_kind F_REPOSSESSED_ASSET_kind F_UNIDENTIFIED_PREPAYMENT_kind F_LEASE_RESIDUAL_VALUE_kind F_GUARANTEE_kind F_LETTER_OF_CREDIT_kind F_UNDRAWN_COMMITMENT_kind F_ACCEPTANCE_kind F_NOTE_ISSUANCE_FACILITY_kind F_FORWARD_PURCHASE_kind F_OTHER_OFF_BALANCE_kind (Fld.ne F_ON_BALANCE_ordinal F_OFF_BALANCE_ordinal (by decide)) (Fld.ne F_NO_COUNTERPARTY_ordinal F_OFF_BALANCE_ordinal (by decide)) p e ha hc hk s m _ below hf ((Spec.applies_iff_loose hf).mp happ).1 ⟨rfl, State.Warmed39.refl s, rfl⟩ trivial
  refine ⟨n, _, h1, h2, h3, hpost _ _ _ _ _ _ ⟨Cond.after_iff.mpr rfl, Cond.after_iff.mpr (eq_i res_at (Term.int_eval (1)) rfl), trivial⟩ ⟨hq.1, hq.2.1, (hq.2.2.sift fun y hy => Or.inr (N y hy)).mono (by decide) (by decide)⟩⟩
theorem main_1_1 : Claimed_1_1 := comes_1 fun _ _ _ _ _ _ h hF => ⟨h.1, hF⟩
theorem main_1_2 : Claimed_1_2 := comes_1 fun _ _ _ _ _ _ h hF => ⟨h.2.1, hF⟩
end Jvm.Pilot.@@N@@
namespace Jvm.Pilot.@@N@@
open Jvm Jvm.ClassFile Sem Op Lib Jvm.Free Jvm.Stand Jvm.Pilot.@@N@@.Jvm.D
/-! MADE BY PROGRAM (witnessworld.py) out of the Statement's table words and the real class files: 14 classes; the members and pool entries that the words name. The judged class is class 1, her method 1. -/
namespace start1
open Jvm.ClassFile
def u (s : String) : CpInfo := .utf8 (stringToUtf16 s)
/-- a pool by its gaps: so many unusable entries, then the entry; so many at the end -/
def gap : Nat → List CpInfo → List CpInfo
  | 0, r => r
  | n + 1, r => .unusable :: gap n r
def poolList (es : List (Nat × CpInfo)) (last : Nat) : List CpInfo := es.foldr (fun e r => gap e.1 (e.2 :: r)) (gap last [])
def pool (es : List (Nat × CpInfo)) (last : Nat) : Array CpInfo := ⟨poolList es last⟩
def fileOf (pool : Array CpInfo) (this : Nat) (attrs : Array Attribute := #[]) (ms : Array MethodInfo := #[]) (fl : Nat := 33) (sup : Nat := 0) (ifs : Array Nat := #[]) (fds : Array FieldInfo := #[]) : ClassFile where
  minorVersion := 0
  majorVersion := 65
  constantPool := pool
  accessFlags := fl
  thisClass := this
  superClass := sup
  interfaces := ifs
  fields := fds
  methods := ms
  attributes := attrs
def plain (name : String) (sup : Option ClassId) : Class where
  name := name
  kind := .ordinary
  loader := none
  accessFlags := 33
  super := sup
  interfaces := #[]
  cf := none
  fields := #[]
  methods := #[]
  instanceTypes := #[]
  staticTypes := #[]
  resolved := #[]
  callSites := []
  init := .initialized
  statics := none
  mirror := none

def pool0 : Array CpInfo := pool [(5, u "<init>"), (0, u "()V"), (1, .class_ 10), (1, u "java/lang/Object")] 113

def k0m0 : Method := { name := "<init>", desc := "()V", sig := { parameters := [], returnType := none }, accessFlags := 1, code := none }
/-- java/lang/Object -/
def k0 : Class := { plain "java/lang/Object" none with
  accessFlags := 33
  interfaces := #[]
  cf := some (fileOf pool0 8 #[] #[{ accessFlags := 1, nameIndex := 5, descriptorIndex := 6, attributes := #[] }] 33 0 #[] #[])
  fields := #[]
  methods := #[k0m0]
  instanceTypes := #[]
  staticTypes := #[]
  resolved := Array.replicate 124 none
  statics := none }

def pool1 : Array CpInfo := pool [(2, .class_ 4), (1, u "java/lang/Object"), (0, u "<init>"), (0, u "()V"), (0, .class_ 8), (0, u "com/example/ponderat/ponderat/Item"), (0, .fieldref 7 10), (0, .nameAndType 11 12), (0, u "LOAN"), (0, u "Lcom/example/ponderat/ponderat/Item;"), (0, .fieldref 7 14), (0, .nameAndType 15 12), (0, u "DEBT_SECURITY"), (0, .fieldref 7 17), (0, .nameAndType 18 12), (0, u "DEPOSIT"), (0, .fieldref 7 20), (0, .nameAndType 21 12), (0, u "MANDATORY_RESERVE"), (0, .fieldref 7 23), (0, .nameAndType 24 12), (0, u "TRADE_FINANCE"), (0, .fieldref 7 26), (0, .nameAndType 27 12), (0, u "VENTURE_CAPITAL"), (0, .fieldref 7 29), (0, .nameAndType 30 12), (0, u "PRIVATE_EQUITY"), (0, .fieldref 7 32), (0, .nameAndType 33 12), (0, u "ALTERNATIVE_INVESTMENT_FUND"), (0, .fieldref 7 35), (0, .nameAndType 36 12), (0, u "SPECULATIVE_REAL_ESTATE"), (0, .fieldref 7 38), (0, .nameAndType 39 12), (0, u "EQUITY"), (0, .fieldref 7 41), (0, .nameAndType 42 12), (0, u "CIU_UNIT"), (0, .fieldref 7 44), (0, .nameAndType 45 12), (0, u "SECURITISATION_POSITION"), (0, .fieldref 7 47), (0, .nameAndType 48 12), (0, u "CASH"), (0, .fieldref 7 50), (0, .nameAndType 51 12), (0, u "CASH_IN_COLLECTION"), (0, .fieldref 7 53), (0, .nameAndType 54 12), (0, u "GOLD"), (0, .fieldref 7 56), (0, .nameAndType 57 12), (0, u "TANGIBLE_ASSET"), (0, .fieldref 7 59), (0, .nameAndType 60 12), (0, u "REPOSSESSED_ASSET"), (0, .fieldref 7 62), (0, .nameAndType 63 12), (0, u "UNIDENTIFIED_PREPAYMENT"), (0, .fieldref 7 65), (0, .nameAndType 66 12), (0, u "LEASE_RESIDUAL_VALUE"), (0, .fieldref 7 68), (0, .nameAndType 69 12), (0, u "GUARANTEE"), (0, .fieldref 7 71), (0, .nameAndType 72 12), (0, u "LETTER_OF_CREDIT"), (0, .fieldref 7 74), (0, .nameAndType 75 12), (0, u "UNDRAWN_COMMITMENT"), (0, .fieldref 7 77), (0, .nameAndType 78 12), (0, u "ACCEPTANCE"), (0, .fieldref 7 80), (0, .nameAndType 81 12), (0, u "NOTE_ISSUANCE_FACILITY"), (0, .fieldref 7 83), (0, .nameAndType 84 12), (0, u "FORWARD_PURCHASE"), (0, .fieldref 7 86), (0, .nameAndType 87 12), (0, u "OTHER_OFF_BALANCE"), (0, .integer 2147483647), (0, .methodref 7 90), (0, .nameAndType 91 92), (0, u "isOffBalance"), (0, u "()Z"), (0, .class_ 94), (0, u "com/example/ponderat/ponderat/ItemIsOffBalancePinLaw"), (2, u "law"), (0, u "(I)Z")] 5

def k1m0 : Method := { name := "<init>", desc := "()V", sig := { parameters := [], returnType := none }, accessFlags := 1, code := none }
def k1c1 : Code := { maxStack := 4, maxLocals := 4, code := code, exceptionTable := #[], attributes := #[] }
def k1m1 : Method := { name := "law", desc := "(I)Z", sig := { parameters := [.int], returnType := some .boolean }, accessFlags := 9, code := some k1c1 }
/-- com/example/ponderat/ponderat/ItemIsOffBalancePinLaw -/
def k1 : Class := { plain "com/example/ponderat/ponderat/ItemIsOffBalancePinLaw" (some 0) with
  accessFlags := 49
  interfaces := #[]
  cf := some (fileOf pool1 93 #[] #[{ accessFlags := 1, nameIndex := 5, descriptorIndex := 6, attributes := #[] }, { accessFlags := 9, nameIndex := 97, descriptorIndex := 98, attributes := #[] }] 49 2 #[] #[])
  fields := #[]
  methods := #[k1m0, k1m1]
  instanceTypes := #[]
  staticTypes := #[]
  resolved := Array.replicate 104 none
  statics := none }

def pool2 : Array CpInfo := pool [(1, .class_ 2), (0, u "java/lang/constant/Constable"), (0, .class_ 4), (0, u "java/lang/Object")] 6

/-- java/lang/constant/Constable -/
def k2 : Class := { plain "java/lang/constant/Constable" (some 0) with
  accessFlags := 1537
  interfaces := #[]
  cf := some (fileOf pool2 1 #[] #[] 1537 3 #[] #[])
  fields := #[]
  methods := #[]
  instanceTypes := #[]
  staticTypes := #[]
  resolved := Array.replicate 11 none
  statics := none }

def pool3 : Array CpInfo := pool [(1, .class_ 2), (0, u "java/lang/Comparable"), (0, .class_ 4), (0, u "java/lang/Object")] 7

/-- java/lang/Comparable -/
def k3 : Class := { plain "java/lang/Comparable" (some 0) with
  accessFlags := 1537
  interfaces := #[]
  cf := some (fileOf pool3 1 #[] #[] 1537 3 #[] #[])
  fields := #[]
  methods := #[]
  instanceTypes := #[]
  staticTypes := #[]
  resolved := Array.replicate 12 none
  statics := none }

def pool4 : Array CpInfo := pool [(1, .class_ 2), (0, u "java/io/Serializable"), (0, .class_ 4), (0, u "java/lang/Object")] 2

/-- java/io/Serializable -/
def k4 : Class := { plain "java/io/Serializable" (some 0) with
  accessFlags := 1537
  interfaces := #[]
  cf := some (fileOf pool4 1 #[] #[] 1537 3 #[] #[])
  fields := #[]
  methods := #[]
  instanceTypes := #[]
  staticTypes := #[]
  resolved := Array.replicate 7 none
  statics := none }

def pool5 : Array CpInfo := pool [(2, .class_ 4), (1, u "java/lang/Enum"), (0, u "name"), (0, u "Ljava/lang/String;"), (2, u "ordinal"), (0, u "I"), (1, .class_ 14), (1, u "java/lang/Object"), (4, u "hash"), (86, .class_ 108), (1, u "java/lang/Enum$EnumDesc"), (2, .class_ 112), (0, u "java/lang/constant/Constable"), (0, .class_ 114), (0, u "java/lang/Comparable"), (0, .class_ 116), (0, u "java/io/Serializable")] 87

/-- java/lang/Enum -/
def k5 : Class := { plain "java/lang/Enum" (some 0) with
  accessFlags := 1057
  interfaces := #[2, 3, 4]
  cf := some (fileOf pool5 2 #[.nestMembers #[106]] #[] 1057 12 #[111, 113, 115] #[{ accessFlags := 18, nameIndex := 5, descriptorIndex := 6, attributes := #[] }, { accessFlags := 18, nameIndex := 9, descriptorIndex := 10, attributes := #[] }, { accessFlags := 2, nameIndex := 19, descriptorIndex := 10, attributes := #[] }])
  fields := #[{ name := "name", type := (.object "java/lang/String"), accessFlags := 18, slot := 0, constantValue := 0 }, { name := "ordinal", type := .int, accessFlags := 18, slot := 1, constantValue := 0 }, { name := "hash", type := .int, accessFlags := 2, slot := 2, constantValue := 0 }]
  methods := #[]
  instanceTypes := #[(.object "java/lang/String"), .int, .int]
  staticTypes := #[]
  resolved := Array.replicate 204 none
  statics := none }

def pool6 : Array CpInfo := pool [(1, .class_ 2), (0, u "com/example/ponderat/ponderat/Item"), (2, u "LOAN"), (0, u "Lcom/example/ponderat/ponderat/Item;"), (2, u "DEBT_SECURITY"), (2, u "DEPOSIT"), (2, u "MANDATORY_RESERVE"), (2, u "TRADE_FINANCE"), (2, u "VENTURE_CAPITAL"), (2, u "PRIVATE_EQUITY"), (2, u "ALTERNATIVE_INVESTMENT_FUND"), (2, u "SPECULATIVE_REAL_ESTATE"), (2, u "EQUITY"), (2, u "CIU_UNIT"), (2, u "SECURITISATION_POSITION"), (2, u "CASH"), (2, u "CASH_IN_COLLECTION"), (2, u "GOLD"), (2, u "TANGIBLE_ASSET"), (2, u "REPOSSESSED_ASSET"), (2, u "UNIDENTIFIED_PREPAYMENT"), (2, u "LEASE_RESIDUAL_VALUE"), (2, u "GUARANTEE"), (2, u "LETTER_OF_CREDIT"), (2, u "UNDRAWN_COMMITMENT"), (2, u "ACCEPTANCE"), (2, u "NOTE_ISSUANCE_FACILITY"), (2, u "FORWARD_PURCHASE"), (2, u "OTHER_OFF_BALANCE"), (2, u "$VALUES"), (0, u "[Lcom/example/ponderat/ponderat/Item;"), (6, .class_ 94), (1, u "java/lang/Enum"), (6, .fieldref 1 102), (0, .nameAndType 103 104), (0, u "kind"), (0, u "Lcom/example/ponderat/ponderat/Item$Kind;"), (1, .class_ 108), (1, u "com/example/ponderat/ponderat/Item$Kind"), (1, .fieldref 106 111), (0, .nameAndType 112 104), (0, u "OFF_BALANCE"), (44, u "()Z"), (1, u "isOffBalance")] 8

def k6c0 : Code := { maxStack := 2, maxLocals := 1, code := prog_13_method_5_code, exceptionTable := #[], attributes := #[] }
def k6m0 : Method := { name := "isOffBalance", desc := "()Z", sig := { parameters := [], returnType := some .boolean }, accessFlags := 1, code := some k6c0 }
/-- com/example/ponderat/ponderat/Item -/
def k6 : Class := { plain "com/example/ponderat/ponderat/Item" (some 5) with
  accessFlags := 16433
  interfaces := #[]
  cf := some (fileOf pool6 1 #[.nestMembers #[106]] #[{ accessFlags := 1, nameIndex := 159, descriptorIndex := 157, attributes := #[] }] 16433 92 #[] #[{ accessFlags := 16409, nameIndex := 5, descriptorIndex := 6, attributes := #[] }, { accessFlags := 16409, nameIndex := 9, descriptorIndex := 6, attributes := #[] }, { accessFlags := 16409, nameIndex := 12, descriptorIndex := 6, attributes := #[] }, { accessFlags := 16409, nameIndex := 15, descriptorIndex := 6, attributes := #[] }, { accessFlags := 16409, nameIndex := 18, descriptorIndex := 6, attributes := #[] }, { accessFlags := 16409, nameIndex := 21, descriptorIndex := 6, attributes := #[] }, { accessFlags := 16409, nameIndex := 24, descriptorIndex := 6, attributes := #[] }, { accessFlags := 16409, nameIndex := 27, descriptorIndex := 6, attributes := #[] }, { accessFlags := 16409, nameIndex := 30, descriptorIndex := 6, attributes := #[] }, { accessFlags := 16409, nameIndex := 33, descriptorIndex := 6, attributes := #[] }, { accessFlags := 16409, nameIndex := 36, descriptorIndex := 6, attributes := #[] }, { accessFlags := 16409, nameIndex := 39, descriptorIndex := 6, attributes := #[] }, { accessFlags := 16409, nameIndex := 42, descriptorIndex := 6, attributes := #[] }, { accessFlags := 16409, nameIndex := 45, descriptorIndex := 6, attributes := #[] }, { accessFlags := 16409, nameIndex := 48, descriptorIndex := 6, attributes := #[] }, { accessFlags := 16409, nameIndex := 51, descriptorIndex := 6, attributes := #[] }, { accessFlags := 16409, nameIndex := 54, descriptorIndex := 6, attributes := #[] }, { accessFlags := 16409, nameIndex := 57, descriptorIndex := 6, attributes := #[] }, { accessFlags := 16409, nameIndex := 60, descriptorIndex := 6, attributes := #[] }, { accessFlags := 16409, nameIndex := 63, descriptorIndex := 6, attributes := #[] }, { accessFlags := 16409, nameIndex := 66, descriptorIndex := 6, attributes := #[] }, { accessFlags := 16409, nameIndex := 69, descriptorIndex := 6, attributes := #[] }, { accessFlags := 16409, nameIndex := 72, descriptorIndex := 6, attributes := #[] }, { accessFlags := 16409, nameIndex := 75, descriptorIndex := 6, attributes := #[] }, { accessFlags := 16409, nameIndex := 78, descriptorIndex := 6, attributes := #[] }, { accessFlags := 16409, nameIndex := 81, descriptorIndex := 6, attributes := #[] }, { accessFlags := 18, nameIndex := 103, descriptorIndex := 104, attributes := #[] }, { accessFlags := 4122, nameIndex := 84, descriptorIndex := 85, attributes := #[] }])
  fields := #[{ name := "LOAN", type := (.object "com/example/ponderat/ponderat/Item"), accessFlags := 16409, slot := 0, constantValue := 0 }, { name := "DEBT_SECURITY", type := (.object "com/example/ponderat/ponderat/Item"), accessFlags := 16409, slot := 1, constantValue := 0 }, { name := "DEPOSIT", type := (.object "com/example/ponderat/ponderat/Item"), accessFlags := 16409, slot := 2, constantValue := 0 }, { name := "MANDATORY_RESERVE", type := (.object "com/example/ponderat/ponderat/Item"), accessFlags := 16409, slot := 3, constantValue := 0 }, { name := "TRADE_FINANCE", type := (.object "com/example/ponderat/ponderat/Item"), accessFlags := 16409, slot := 4, constantValue := 0 }, { name := "VENTURE_CAPITAL", type := (.object "com/example/ponderat/ponderat/Item"), accessFlags := 16409, slot := 5, constantValue := 0 }, { name := "PRIVATE_EQUITY", type := (.object "com/example/ponderat/ponderat/Item"), accessFlags := 16409, slot := 6, constantValue := 0 }, { name := "ALTERNATIVE_INVESTMENT_FUND", type := (.object "com/example/ponderat/ponderat/Item"), accessFlags := 16409, slot := 7, constantValue := 0 }, { name := "SPECULATIVE_REAL_ESTATE", type := (.object "com/example/ponderat/ponderat/Item"), accessFlags := 16409, slot := 8, constantValue := 0 }, { name := "EQUITY", type := (.object "com/example/ponderat/ponderat/Item"), accessFlags := 16409, slot := 9, constantValue := 0 }, { name := "CIU_UNIT", type := (.object "com/example/ponderat/ponderat/Item"), accessFlags := 16409, slot := 10, constantValue := 0 }, { name := "SECURITISATION_POSITION", type := (.object "com/example/ponderat/ponderat/Item"), accessFlags := 16409, slot := 11, constantValue := 0 }, { name := "CASH", type := (.object "com/example/ponderat/ponderat/Item"), accessFlags := 16409, slot := 12, constantValue := 0 }, { name := "CASH_IN_COLLECTION", type := (.object "com/example/ponderat/ponderat/Item"), accessFlags := 16409, slot := 13, constantValue := 0 }, { name := "GOLD", type := (.object "com/example/ponderat/ponderat/Item"), accessFlags := 16409, slot := 14, constantValue := 0 }, { name := "TANGIBLE_ASSET", type := (.object "com/example/ponderat/ponderat/Item"), accessFlags := 16409, slot := 15, constantValue := 0 }, { name := "REPOSSESSED_ASSET", type := (.object "com/example/ponderat/ponderat/Item"), accessFlags := 16409, slot := 16, constantValue := 0 }, { name := "UNIDENTIFIED_PREPAYMENT", type := (.object "com/example/ponderat/ponderat/Item"), accessFlags := 16409, slot := 17, constantValue := 0 }, { name := "LEASE_RESIDUAL_VALUE", type := (.object "com/example/ponderat/ponderat/Item"), accessFlags := 16409, slot := 18, constantValue := 0 }, { name := "GUARANTEE", type := (.object "com/example/ponderat/ponderat/Item"), accessFlags := 16409, slot := 19, constantValue := 0 }, { name := "LETTER_OF_CREDIT", type := (.object "com/example/ponderat/ponderat/Item"), accessFlags := 16409, slot := 20, constantValue := 0 }, { name := "UNDRAWN_COMMITMENT", type := (.object "com/example/ponderat/ponderat/Item"), accessFlags := 16409, slot := 21, constantValue := 0 }, { name := "ACCEPTANCE", type := (.object "com/example/ponderat/ponderat/Item"), accessFlags := 16409, slot := 22, constantValue := 0 }, { name := "NOTE_ISSUANCE_FACILITY", type := (.object "com/example/ponderat/ponderat/Item"), accessFlags := 16409, slot := 23, constantValue := 0 }, { name := "FORWARD_PURCHASE", type := (.object "com/example/ponderat/ponderat/Item"), accessFlags := 16409, slot := 24, constantValue := 0 }, { name := "OTHER_OFF_BALANCE", type := (.object "com/example/ponderat/ponderat/Item"), accessFlags := 16409, slot := 25, constantValue := 0 }, { name := "kind", type := (.object "com/example/ponderat/ponderat/Item$Kind"), accessFlags := 18, slot := 3, constantValue := 0 }, { name := "$VALUES", type := (.array (.object "com/example/ponderat/ponderat/Item")), accessFlags := 4122, slot := 26, constantValue := 0 }]
  methods := #[k6m0]
  instanceTypes := #[(.object "java/lang/String"), .int, .int, (.object "com/example/ponderat/ponderat/Item$Kind")]
  staticTypes := #[(.object "com/example/ponderat/ponderat/Item"), (.object "com/example/ponderat/ponderat/Item"), (.object "com/example/ponderat/ponderat/Item"), (.object "com/example/ponderat/ponderat/Item"), (.object "com/example/ponderat/ponderat/Item"), (.object "com/example/ponderat/ponderat/Item"), (.object "com/example/ponderat/ponderat/Item"), (.object "com/example/ponderat/ponderat/Item"), (.object "com/example/ponderat/ponderat/Item"), (.object "com/example/ponderat/ponderat/Item"), (.object "com/example/ponderat/ponderat/Item"), (.object "com/example/ponderat/ponderat/Item"), (.object "com/example/ponderat/ponderat/Item"), (.object "com/example/ponderat/ponderat/Item"), (.object "com/example/ponderat/ponderat/Item"), (.object "com/example/ponderat/ponderat/Item"), (.object "com/example/ponderat/ponderat/Item"), (.object "com/example/ponderat/ponderat/Item"), (.object "com/example/ponderat/ponderat/Item"), (.object "com/example/ponderat/ponderat/Item"), (.object "com/example/ponderat/ponderat/Item"), (.object "com/example/ponderat/ponderat/Item"), (.object "com/example/ponderat/ponderat/Item"), (.object "com/example/ponderat/ponderat/Item"), (.object "com/example/ponderat/ponderat/Item"), (.object "com/example/ponderat/ponderat/Item"), (.array (.object "com/example/ponderat/ponderat/Item"))]
  resolved := Array.replicate 168 none
  statics := some 0 }

def pool7 : Array CpInfo := pool [(1, .class_ 2), (0, u "com/example/ponderat/ponderat/Item$Kind"), (2, u "ON_BALANCE"), (0, u "Lcom/example/ponderat/ponderat/Item$Kind;"), (2, u "NO_COUNTERPARTY"), (2, u "OFF_BALANCE"), (2, u "$VALUES"), (0, u "[Lcom/example/ponderat/ponderat/Item$Kind;"), (6, .class_ 25), (1, u "java/lang/Enum"), (26, .class_ 53), (0, u "com/example/ponderat/ponderat/Item")] 2

/-- com/example/ponderat/ponderat/Item$Kind -/
def k7 : Class := { plain "com/example/ponderat/ponderat/Item$Kind" (some 5) with
  accessFlags := 16432
  interfaces := #[]
  cf := some (fileOf pool7 1 #[.nestHost 52] #[] 16432 23 #[] #[{ accessFlags := 16409, nameIndex := 5, descriptorIndex := 6, attributes := #[] }, { accessFlags := 16409, nameIndex := 9, descriptorIndex := 6, attributes := #[] }, { accessFlags := 16409, nameIndex := 12, descriptorIndex := 6, attributes := #[] }, { accessFlags := 4122, nameIndex := 15, descriptorIndex := 16, attributes := #[] }])
  fields := #[{ name := "ON_BALANCE", type := (.object "com/example/ponderat/ponderat/Item$Kind"), accessFlags := 16409, slot := 0, constantValue := 0 }, { name := "NO_COUNTERPARTY", type := (.object "com/example/ponderat/ponderat/Item$Kind"), accessFlags := 16409, slot := 1, constantValue := 0 }, { name := "OFF_BALANCE", type := (.object "com/example/ponderat/ponderat/Item$Kind"), accessFlags := 16409, slot := 2, constantValue := 0 }, { name := "$VALUES", type := (.array (.object "com/example/ponderat/ponderat/Item$Kind")), accessFlags := 4122, slot := 3, constantValue := 0 }]
  methods := #[]
  instanceTypes := #[(.object "java/lang/String"), .int, .int]
  staticTypes := #[(.object "com/example/ponderat/ponderat/Item$Kind"), (.object "com/example/ponderat/ponderat/Item$Kind"), (.object "com/example/ponderat/ponderat/Item$Kind"), (.array (.object "com/example/ponderat/ponderat/Item$Kind"))]
  resolved := Array.replicate 56 none
  statics := some 1 }

def pool8 : Array CpInfo := pool [(1, u "java/lang/Cloneable"), (0, .class_ 1), (0, u "java/lang/Object"), (0, .class_ 3)] 3

/-- java/lang/Cloneable -/
def k8 : Class := { plain "java/lang/Cloneable" (some 0) with
  accessFlags := 1537
  interfaces := #[]
  cf := some (fileOf pool8 2 #[] #[] 1537 4 #[] #[])
  fields := #[]
  methods := #[]
  instanceTypes := #[]
  staticTypes := #[]
  resolved := Array.replicate 8 none
  statics := none }

/-- the primitive byte -/
def k9 : Class := { plain "byte" none with kind := .primitive 'B', accessFlags := 0x411 }
/-- [B -/
def k10 : Class := { plain "[B" (some 0) with kind := .array 9 .byte, interfaces := #[8, 4], accessFlags := 1041 }

/-- the primitive int -/
def k11 : Class := { plain "int" none with kind := .primitive 'I', accessFlags := 0x411 }
/-- [I -/
def k12 : Class := { plain "[I" (some 0) with kind := .array 11 .int, interfaces := #[8, 4], accessFlags := 1041 }

/-- [Lcom/example/ponderat/ponderat/Item; -/
def k13 : Class := { plain "[Lcom/example/ponderat/ponderat/Item;" (some 0) with kind := .array 6 (.object "com/example/ponderat/ponderat/Item"), interfaces := #[8, 4], accessFlags := 1041 }

def heap : Heap := #[{ cls := 6, slots := #[.ref 2, .ref 3, .ref 4, .ref 5, .ref 6, .ref 7, .ref 8, .ref 9, .ref 10, .ref 11, .ref 12, .ref 13, .ref 14, .ref 15, .ref 16, .ref 17, .ref 18, .ref 19, .ref 20, .ref 21, .ref 22, .ref 23, .ref 24, .ref 25, .ref 26, .ref 27, .null], vm := .statics 6 },
  { cls := 7, slots := #[.ref 28, .ref 30, .ref 29, .null], vm := .statics 7 },
  { cls := 6, slots := #[.null, .int 0, .int 0, .ref 28], vm := .none },
  { cls := 6, slots := #[.null, .int 0, .int 0, .ref 28], vm := .none },
  { cls := 6, slots := #[.null, .int 0, .int 0, .ref 28], vm := .none },
  { cls := 6, slots := #[.null, .int 0, .int 0, .ref 28], vm := .none },
  { cls := 6, slots := #[.null, .int 0, .int 0, .ref 28], vm := .none },
  { cls := 6, slots := #[.null, .int 0, .int 0, .ref 28], vm := .none },
  { cls := 6, slots := #[.null, .int 0, .int 0, .ref 28], vm := .none },
  { cls := 6, slots := #[.null, .int 0, .int 0, .ref 28], vm := .none },
  { cls := 6, slots := #[.null, .int 0, .int 0, .ref 28], vm := .none },
  { cls := 6, slots := #[.null, .int 0, .int 0, .ref 28], vm := .none },
  { cls := 6, slots := #[.null, .int 0, .int 0, .ref 28], vm := .none },
  { cls := 6, slots := #[.null, .int 0, .int 0, .ref 28], vm := .none },
  { cls := 6, slots := #[.null, .int 0, .int 0, .ref 30], vm := .none },
  { cls := 6, slots := #[.null, .int 0, .int 0, .ref 30], vm := .none },
  { cls := 6, slots := #[.null, .int 0, .int 0, .ref 30], vm := .none },
  { cls := 6, slots := #[.null, .int 0, .int 0, .ref 30], vm := .none },
  { cls := 6, slots := #[.null, .int 0, .int 0, .ref 30], vm := .none },
  { cls := 6, slots := #[.null, .int 0, .int 0, .ref 30], vm := .none },
  { cls := 6, slots := #[.null, .int 0, .int 0, .ref 30], vm := .none },
  { cls := 6, slots := #[.null, .int 0, .int 0, .ref 29], vm := .none },
  { cls := 6, slots := #[.null, .int 0, .int 0, .ref 29], vm := .none },
  { cls := 6, slots := #[.null, .int 0, .int 0, .ref 29], vm := .none },
  { cls := 6, slots := #[.null, .int 0, .int 0, .ref 29], vm := .none },
  { cls := 6, slots := #[.null, .int 0, .int 0, .ref 29], vm := .none },
  { cls := 6, slots := #[.null, .int 0, .int 0, .ref 29], vm := .none },
  { cls := 6, slots := #[.null, .int 0, .int 0, .ref 29], vm := .none },
  { cls := 7, slots := #[.null, .int 0, .int 0], vm := .none },
  { cls := 7, slots := #[.null, .int 2, .int 0], vm := .none },
  { cls := 7, slots := #[.null, .int 1, .int 0], vm := .none }]
def classes : Array Class := #[k0, k1, k2, k3, k4, k5, k6, k7, k8, k9, k10, k11, k12, k13]
def interned : List (Array UInt16 × Addr) := []
def slotsUsed : Nat := 144
def theMethod : MethodId := ⟨1, 1⟩
def args0 : Array Value := #[.int 5]
def aboutOver (below : List Frame) : State where
  vm := { classes := classes, interned := interned.toArray }
  heap := heap
  slotsUsed := slotsUsed
  threads := #[{ frames := .invoking theMethod args0 :: below }]
def below0 : List Frame := [.native { method := ⟨0, 0⟩, args := #[] }]
def about1 : State := aboutOver below0
def p0 : Program := .bare "" "" ""
def e0 : Env := launch0.env 0 0 0
theorem w_frames : about1.frames = Frame.invoking theMethod args0 :: below0 := rfl
set_option maxRecDepth 65536 in
theorem w_args : argsFit about1.vm theMethod args0 = true := by decide +kernel
set_option maxRecDepth 65536 in
theorem w_heap : heapFits about1 = true := by decide +kernel
set_option maxRecDepth 65536 in
theorem w_runnable : about1.curStatus? = some .runnable := by decide +kernel
set_option maxRecDepth 65536 in
theorem w_alone : about1.alone = true := by decide +kernel
set_option maxRecDepth 65536 in
theorem w_named : about1.methodNamed? x = some theMethod := by decide +kernel
set_option maxRecDepth 65536 in
theorem w_hears : about1.hears theMethod below0 = true := by decide +kernel
set_option maxRecDepth 65536 in
theorem w_ripe : about1.ripe theMethod args0 below0 = true := by decide +kernel
theorem w_running : about1.status = .running := rfl
set_option maxRecDepth 65536 in
theorem w_room : about1.hasRoom e0.platform room_1 = true :=
  launch0.hasRoom_least _ room_1 (by decide +kernel) (by decide +kernel) (by decide +kernel) (by decide +kernel) (by decide +kernel) (by decide +kernel)
theorem allAtoms_all (ts : List Jvm.Cond) (a : Array Jvm.Value) (st : Jvm.State) : (allAtoms ts).before a st = ts.all (fun c => c.before a st) := by
  induction ts with
  | nil => rfl
  | cons c t ih =>
    show (Jvm.Cond.and c (allAtoms t)).before a st = _
    rw [Jvm.Cond.before_and, ih, List.all_cons]
def words1 : List Jvm.Cond := Jvm.Cond.code x code maxLocals ret :: tables_1
/-- a 'code' word, met by the world's own term for the bytes: nothing is compared byte by byte -/
theorem code_word {y : MethodName} {bytes : ByteArray} {mx : Nat} {rt : Option FieldType} {a : Array Value} {s : State} {m : MethodId} {meth : Method} {c : Code} (h1 : s.methodNamed? y = some m) (h2 : s.vm.method? m = some meth) (h3 : meth.code = some c) (h4 : c.code = bytes)
    (h5 : (c.maxLocals == mx && c.exceptionTable.isEmpty && decide (c.maxStack ≤ mostOperands) && decide (meth.sig.returnType = rt) && !meth.locks && decide (parseMethodDescriptor y.desc = some meth.sig)) = true) : (Jvm.Cond.code y bytes mx rt).before a s = true := by
  simp only [Bool.and_eq_true, beq_iff_eq, Bool.not_eq_true', decide_eq_true_eq] at h5
  obtain ⟨⟨⟨⟨⟨g1, g2⟩, g3⟩, g4⟩, g5⟩, g6⟩ := h5
  simp [Cond.before, Cond.holds, Cond.value, h1, h2, h3, h4, g1, g2, g3, g4, g5, g6]
def isCode : Jvm.Cond → Bool
  | .code _ _ _ _ => true
  | _ => false
theorem all_split {L : List Jvm.Cond} {P : Jvm.Cond → Bool} (h1 : L.all (fun c => isCode c || P c) = true) (h2 : ∀ c ∈ L.filter isCode, P c = true) : L.all P = true := by
  refine List.all_eq_true.mpr fun c hc => ?_
  have h := List.all_eq_true.mp h1 c hc
  rcases Bool.eq_false_or_eq_true (isCode c) with hi | hi
  · exact h2 c (List.mem_filter.mpr ⟨hc, hi⟩)
  · simpa [hi] using h
set_option maxRecDepth 65536 in
theorem w_c0 : (Jvm.Cond.code x code maxLocals ret).before args0 about1 = true := code_word (m := ⟨1, 1⟩) (meth := k1m1) (c := k1c1) (by decide +kernel) rfl rfl rfl (by decide +kernel)
set_option maxRecDepth 65536 in
theorem w_c1 : (Jvm.Cond.code ({ cls := "com/example/ponderat/ponderat/Item", name := "isOffBalance", desc := "()Z" } : Jvm.MethodName) prog_13_method_5_code (1 : Nat) (Option.some Jvm.ClassFile.FieldType.boolean)).before args0 about1 = true := code_word (m := ⟨6, 0⟩) (meth := k6m0) (c := k6c0) (by decide +kernel) rfl rfl rfl (by decide +kernel)
def codes1 : List Jvm.Cond := [Jvm.Cond.code x code maxLocals ret, Jvm.Cond.code ({ cls := "com/example/ponderat/ponderat/Item", name := "isOffBalance", desc := "()Z" } : Jvm.MethodName) prog_13_method_5_code (1 : Nat) (Option.some Jvm.ClassFile.FieldType.boolean)]
set_option maxRecDepth 65536 in
theorem codes_eq : words1.filter isCode = codes1 := rfl
theorem w_codes : ∀ c ∈ words1.filter isCode, c.before args0 about1 = true := by
  rw [codes_eq]
  intro c hc
  simp only [codes1, List.mem_cons, List.not_mem_nil, or_false] at hc
  rcases hc with rfl | rfl
  · exact w_c0
  · exact w_c1
set_option maxRecDepth 65536 in
theorem w_t1 : (words1.take 24).all (fun c => isCode c || c.before args0 about1) = true := by decide +kernel
set_option maxRecDepth 65536 in
theorem w_t2 : ((words1.drop 24).take 24).all (fun c => isCode c || c.before args0 about1) = true := by decide +kernel
set_option maxRecDepth 65536 in
theorem w_t3 : ((words1.drop 24).drop 24).all (fun c => isCode c || c.before args0 about1) = true := by decide +kernel
theorem w_tables : (allAtoms (Jvm.Cond.code x code maxLocals ret :: tables_1)).before args0 about1 = true := by
  rw [allAtoms_all]
  show words1.all (fun c => c.before args0 about1) = true
  refine all_split ?_ w_codes
  rw [← List.take_append_drop 24 words1, List.all_append, w_t1, ← List.take_append_drop 24 (words1.drop 24), List.all_append, w_t2, w_t3]
  rfl
set_option maxRecDepth 65536 in
theorem w_case : (Jvm.Cond.and given_1 narrow_1).before args0 about1 = true := by decide +kernel
theorem w_applies : (headSpec (Jvm.Cond.code x code maxLocals ret :: tables_1) room_1).applies x e0.platform about1 = true :=
  (Spec.applies_iff w_frames).mpr ⟨w_running, w_runnable, w_alone, w_named, w_hears, w_ripe, w_room, w_tables⟩
theorem atStart : AtStart classFile x code maxLocals ret World_1 tables_1 room_1 Calls_1 rest_1 Pre_1 launch0 p0 e0 about1 theMethod args0 below0 :=
  ⟨lists_1, trivial, launch0.admits_env _ _ _, launch0.least_env, fairChoices_fair.cas, fairChoices_fair.clock, w_frames, w_args, w_heap, w_applies, trivial, trivial, w_case⟩
end start1
theorem witness_1 : WitnessClaimed_1 := ⟨start1.p0, start1.e0, start1.about1, start1.theMethod, start1.args0, start1.below0, start1.atStart⟩
end Jvm.Pilot.@@N@@
