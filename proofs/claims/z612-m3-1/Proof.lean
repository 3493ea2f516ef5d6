import JvmDerived
import JvmDerived.Pilot.@@N@@Statement
import JvmDerived.Pilot.@@N@@Code
set_option linter.unusedVariables false
set_option linter.unusedSimpArgs false
namespace Jvm.RoadKit
open Sem ClassFile Op Lib Jvm.Stand Jvm.Free Jvm.LawKit
section New
variable {p : Program} {l : Launch} {e : Env} {R : Room} {s : State} {m : MethodId} {args : Array Value} {below : List Frame} {meth : Method} {c : Code} {T : State} {locs : List Loc} {cells slots : Nat}
theorem retI (X : Stand p l e R s m args below meth c T locs cells slots) (hx : p.tables.exec = Jvm.exec) {pc : Nat} {Ls : Array Slot} {z : Int32} {rest : List Value} (hret : meth.sig.returnType = some .int) (hd : decode c.code pc = .ok (.ireturn, 1)) {fs : List Frame}
    (hl : ∀ (f : JFrame) (acts : List Action), f.method = m → f.locked = none → f.entered = [] → (doReturn e (T.setTop f) acts (some (.int z))).1 = T.setFrames fs) : Steps p.tables e below (T.setTop (mkF m pc Ls (.int z :: rest))) (T.setFrames fs) := by
  have hm' : T.vm.method? m = some meth := X.method'
  have hn : narrow .int (.int z) = .int z := rfl
  show Steps p.tables e below (T.setTop { method := m, pc := pc, locals := Ls, stack := _ :: rest, locked := none }) _
  jvm_step X.here [X.here.top, hx, hd, hm', hret, hn]
  first | (intro acts; rw [hl _ acts rfl rfl rfl]) | rw [hl _ _ rfl rfl rfl]
  exact Steps.refl _
theorem retA (X : Stand p l e R s m args below meth c T locs cells slots) (hx : p.tables.exec = Jvm.exec) {pc : Nat} {Ls : Array Slot} {w : Value} {t : FieldType} {rest : List Value} (hret : meth.sig.returnType = some t) (ht : t.isReference = true) (hw : w.isRef = true) (hn : narrow t w = w) (hd : decode c.code pc = .ok (.areturn, 1)) {fs : List Frame}
    (hl : ∀ (f : JFrame) (acts : List Action), f.method = m → f.locked = none → f.entered = [] → (doReturn e (T.setTop f) acts (some w)).1 = T.setFrames fs) : Steps p.tables e below (T.setTop (mkF m pc Ls (w :: rest))) (T.setFrames fs) :=
  retOut X hx hret hn (Or.inr (Or.inr (Or.inr (Or.inr ⟨rfl, ht, hw⟩)))) hd hl
end New
/-- all that was there is there still: a write to a cell above -/
theorem own_ext_wr {h0 h h' : Heap} {a : Addr} {sl : Nat} {v : Value} (E : Ext h0 h) (W : Wr h h' a sl v) (q : h0.size ≤ a) : Ext h0 h' := by
  refine ⟨Nat.le_trans E.1 (Keep.of_wr W).1, fun x c hc => (Keep.of_wr W).2.1 x c (E.2 x c hc) fun hm => ?_⟩
  cases List.mem_singleton.mp hm
  exact absurd (Array.getElem?_eq_some_iff.mp hc).1 (Nat.not_lt.mpr q)
theorem own_ext_keep {h0 h h' : Heap} {ws : List Addr} (E : Ext h0 h) (K : Keep h h' ws) (q : ∀ x ∈ ws, h0.size ≤ x) : Ext h0 h' :=
  ⟨Nat.le_trans E.1 K.1, fun x c hc => K.2.1 x c (E.2 x c hc) fun hm => absurd (Array.getElem?_eq_some_iff.mp hc).1 (Nat.not_lt.mpr (q x hm))⟩
theorem own_ext_trans {h0 h h' : Heap} (E : Ext h0 h) (E' : Ext h h') : Ext h0 h' := ⟨Nat.le_trans E.1 E'.1, fun x c hc => E'.2 x c (E.2 x c hc)⟩
theorem own_ext_refl (h : Heap) : Ext h h := ⟨Nat.le_refl _, fun _ _ q => q⟩
/-- a static that holds an object of this very class -/
theorem own_sta {Z : State} {a0 : Array Value} {C n d K : String} (wi : (Cond.initialized C).before a0 Z = true) (wl : (Cond.laysStatic C n d).before a0 Z = true) (hx : (Cond.exactly (.static C n d) K).value a0 Z none Z [] = some true) :
    ∃ w, (Term.static C n d).eval a0 Z none [] Z = some (.ref w) ∧ Sta Z Z.heap C n d (.ref w) ∧ Exa Z Z.heap w K := by
  obtain ⟨w, ev⟩ := exa_v hx
  exact ⟨w, ev, Sta.start ev (Or.inr ⟨wi, wl⟩), Exa.start ev hx⟩
/-- a field of an object that a term names, by an 'eq' of ints -/
theorem own_fld {Z : State} {a0 : Array Value} {t : Term} {w : Addr} {C n d : String} {k : Int32} (ev : t.eval a0 Z none [] Z = some (.ref w)) (h : (Cond.eq (.field t C n d) (.int k)).value a0 Z none Z [] = some true) : Fld Z Z.heap w C n d (.int k) :=
  Fld.start ((fld_at ev).symm.trans (eqv_i (F := .int k) rfl h))
end Jvm.RoadKit
namespace Jvm.RoadKit
open Sem ClassFile Op Lib Jvm.Stand Jvm.Free Jvm.LawKit
theorem own_fldR {Z : State} {a0 : Array Value} {t u : Term} {w w' : Addr} {C n d : String} (ev : t.eval a0 Z none [] Z = some (.ref w)) (eu : u.eval a0 Z none [] Z = some (.ref w')) (h : (Cond.eq (.field t C n d) u).value a0 Z none Z [] = some true) : Fld Z Z.heap w C n d (.ref w') := by
  refine Fld.start ((fld_at ev).symm.trans ?_)
  obtain ⟨x, y, hx, hy, -, -⟩ := cmp_v (Or.inl h)
  cases eu.symm.trans hy
  simp only [Cond.value, hx, hy] at h
  cases x <;> simp at h
  rw [hx, h]
theorem own_staA {Z : State} {a0 : Array Value} {C n d : String} {ty : FieldType} (wi : (Cond.initialized C).before a0 Z = true) (wl : (Cond.laysStatic C n d).before a0 Z = true) (hx : (Cond.arrayOf (.static C n d) ty).value a0 Z none Z [] = some true) :
    ∃ w, (Term.static C n d).eval a0 Z none [] Z = some (.ref w) ∧ Sta Z Z.heap C n d (.ref w) ∧ ∃ c, Arr Z Z.heap w c ty := by
  obtain ⟨w, ev⟩ := arr_v hx
  exact ⟨w, ev, Sta.start ev (Or.inr ⟨wi, wl⟩), Arr.start ev hx⟩
theorem own_len {Z : State} {a0 : Array Value} {t : Term} {w : Addr} {c : Cell} {ty : FieldType} {k : Int32} {n : Nat} (ev : t.eval a0 Z none [] Z = some (.ref w)) (A : Arr Z Z.heap w c ty) (h : (Cond.eq (.length t) (.int k)).value a0 Z none Z [] = some true) (hk : k.toInt = n) : c.slots.size = n := by
  have e := eqv_i (F := .int k) rfl h
  have ha : Z.arrayAt? w = some c := Arr.fin (Vm.Alike.refl _) A
  simp only [Term.eval, ev, ha, Option.bind_eq_bind, Option.bind_some] at e
  split at e
  · rename_i hl
    have q : c.slots.size.toInt32 = k := by simpa using e
    have q2 := len_toInt hl
    rw [q, hk] at q2
    omega
  · cases e
theorem own_elem {Z : State} {a0 : Array Value} {t : Term} {w : Addr} {c : Cell} {ty : FieldType} {k : Int32} {n : Nat} {v : Value} (ev : t.eval a0 Z none [] Z = some (.ref w)) (A : Arr Z Z.heap w c ty) (h : (Term.elem t (.int k)).eval a0 Z none [] Z = some v) (hk : k.toNatClampNeg = n) : c.slots[n]? = some v := by
  have q := (elem_in h ev (j := k) rfl A.1).2
  rw [hk] at q; exact q
theorem own_elN {Z : State} {a0 : Array Value} {t : Term} {w : Addr} {c : Cell} {ty : FieldType} {k : Int32} {n : Nat} (ev : t.eval a0 Z none [] Z = some (.ref w)) (A : Arr Z Z.heap w c ty) (h : (Cond.eq (.elem t (.int k)) .null).value a0 Z none Z [] = some true) (hk : k.toNatClampNeg = n) : c.slots[n]? = some .null := own_elem ev A (null_v h) hk
theorem own_elI {Z : State} {a0 : Array Value} {t : Term} {w : Addr} {c : Cell} {ty : FieldType} {k i : Int32} {n : Nat} (ev : t.eval a0 Z none [] Z = some (.ref w)) (A : Arr Z Z.heap w c ty) (h : (Cond.eq (.elem t (.int k)) (.int i)).value a0 Z none Z [] = some true) (hk : k.toNatClampNeg = n) : c.slots[n]? = some (.int i) := own_elem ev A (eqv_i (F := .int i) rfl h) hk
theorem own_elR {Z : State} {a0 : Array Value} {t u : Term} {w w' : Addr} {c : Cell} {ty : FieldType} {k : Int32} {n : Nat} (ev : t.eval a0 Z none [] Z = some (.ref w)) (A : Arr Z Z.heap w c ty) (eu : u.eval a0 Z none [] Z = some (.ref w')) (h : (Cond.eq (.elem t (.int k)) u).value a0 Z none Z [] = some true) (hk : k.toNatClampNeg = n) : c.slots[n]? = some (.ref w') := by
  refine own_elem ev A ?_ hk
  obtain ⟨x, y, hx, hy, -, -⟩ := cmp_v (Or.inl h)
  cases eu.symm.trans hy
  simp only [Cond.value, hx, hy] at h
  cases x <;> simp at h
  rw [hx, h]
end Jvm.RoadKit
namespace Jvm.RoadKit
open Sem ClassFile Op Lib Jvm.Stand Jvm.Free Jvm.LawKit
/-- a constant is laid into a fresh array: what stood at the start stands, the array's list has it -/
theorem own_stR {p : Program} {l : Launch} {e : Env} {R : Room} {s : State} {m : MethodId} {args : Array Value} {below : List Frame} {meth : Method} {c : Code} {T : State} {locs : List Loc} {cells slots : Nat} {Z : State} {h0 h : Heap}
    (X : Stand p l e R s m args below meth c T locs cells slots) (hx : p.tables.exec = Jvm.exec) (hZ : Z.Warmed39 s.vm) (eT : T.heap = h) (O : Ext h0 h) {b : Addr} {k : ClassId} {C : String} {n : Int32} {vs : List Value} (A : Arv Z h b k (.object C) n vs .null) (Ov : Ovr Z k C) {w : Addr} (I : Ins Z h0 w C true) (hb : h0.size ≤ b)
    {j : Int32} {i : Nat} (hj : ¬ j < 0 ∧ j < n) (hi : j.toNatClampNeg = i) (hl : i < vs.length) {g : JFrame} (hg : g.method = m) {rest : List Value} (hs : g.stack = .ref w :: .int j :: .ref b :: rest) (hd : decode c.code g.pc = .ok (.aastore, 1)) :
    ∃ T' h', Stand p l e R s m args below meth c T' (locs ++ [⟨b, j.toNatClampNeg⟩]) cells slots ∧ T'.heap = h' ∧ Ext h0 h' ∧ Arv Z h' b k (.object C) n (vs.set i (.ref w)) .null ∧
      ∀ target, Steps p.tables e below (T'.setTop { g with pc := g.pc + 1, stack := rest }) target → Steps p.tables e below (T.setTop g) target := by
  obtain ⟨c, Ar, q1, S, N, H, G⟩ := A
  obtain ⟨T', h', X', e', W, st⟩ := stR X hx hZ eT Ar (inb_of S hj) rfl (Sto.ofV Ar q1 Ov (I.ext O)) hg hs hd
  exact ⟨T', h', X', e', own_ext_wr O W hb, Arv.set Ar q1 S N H G rfl W i hi hl, st⟩
/-- a remainder by a small number is one of the small numbers -/
theorem own_rem (x q : Int32) (d : Nat) (hq : q.toInt = d) (hd : 0 < d) : ∃ n : Nat, n < d ∧ (x &&& (2147483647 : Int32)) % q = n.toInt32 := by
  have h1 := c_mask x (2147483647 : Int32) 31 (by decide) (by decide)
  have h2 := (c_irem (x &&& (2147483647 : Int32)) q d hq).1 (by rw [h1]; omega)
  have hlo := (rng32 q).2
  have h3 : 0 ≤ ((x &&& (2147483647 : Int32)) % q).toInt ∧ ((x &&& (2147483647 : Int32)) % q).toInt < d := by
    rw [h2]; exact ⟨Int.emod_nonneg _ (by omega), Int.emod_lt_of_pos _ (by omega)⟩
  refine ⟨((x &&& (2147483647 : Int32)) % q).toInt.toNat, by omega, ?_⟩
  apply Int32.toInt_inj.mp
  rw [len_toInt (by omega)]
  omega
end Jvm.RoadKit
namespace Jvm.Pilot.@@N@@
open Jvm Jvm.ClassFile Sem Op Lib Jvm.Free Jvm.Stand Jvm.LawKit Jvm.RoadKit Bundle Jvm.Pilot.@@N@@.Jvm.D
theorem ef_1 (m : MethodId) (a : Addr) : entryFrame m #[(.ref a)] 1 = mkF m 0 #[.val (.ref a)] [] := by first | (simp [entryFrame, mkF, argsToLocals, Value.category]; done) | rfl
def Q_1 (Z : State) (a : Addr) (w_CLEAR : Addr) (w_ROAD : Addr) (h0 : Heap) (n0 : Nat) (v : Option Value) (h : Heap) (L : List Loc) : Prop := v = some (.int (if a = w_CLEAR then (1 : Int32) else (if a = w_ROAD then (1 : Int32) else (0 : Int32)))) ∧ Fr n0 L ∧ h = h0
theorem pn_0 : plainName "com/example/fissure/fissure/games/breakable/Terrain" = true := by first | (simp [plainName, overriddenIn]; done) | decide +kernel
theorem d1_0 : decode prog_29_method_4_code 0 = .ok (.aload_n 0, 1) := by decide +kernel
theorem d1_1 : decode prog_29_method_4_code 1 = .ok (.getstatic 3, 3) := by decide +kernel
theorem d1_4 : decode prog_29_method_4_code 4 = .ok (.if_acmp .eq 10, 3) := by decide +kernel
theorem d1_14 : decode prog_29_method_4_code 14 = .ok (.iconst 1, 1) := by decide +kernel
theorem d1_15 : decode prog_29_method_4_code 15 = .ok (.goto 4, 3) := by decide +kernel
theorem d1_19 : decode prog_29_method_4_code 19 = .ok (.ireturn, 1) := by decide +kernel
theorem d1_7 : decode prog_29_method_4_code 7 = .ok (.aload_n 0, 1) := by decide +kernel
theorem d1_8 : decode prog_29_method_4_code 8 = .ok (.getstatic 7, 3) := by decide +kernel
theorem d1_11 : decode prog_29_method_4_code 11 = .ok (.if_acmp .ne 7, 3) := by decide +kernel
theorem d1_18 : decode prog_29_method_4_code 18 = .ok (.iconst 0, 1) := by decide +kernel
set_option maxRecDepth 65536 in
set_option maxHeartbeats 40000000 in
theorem rm_1 (l : Launch) (Z : State) (a0 : Array Value) (hw : ∀ d ∈ tables_1, d.before a0 Z = true) (ws : List Jvm.Cond) (a : Addr) (w_CLEAR : Addr) (w_ROAD : Addr) (h0 : Heap) (n0 : Nat) (Z0 : n0 ≤ h0.size) (S_CLEAR : Sta Z h0 "com/example/fissure/fissure/games/breakable/Terrain" "CLEAR" "Lcom/example/fissure/fissure/games/breakable/Terrain;" (.ref w_CLEAR)) (S_ROAD : Sta Z h0 "com/example/fissure/fissure/games/breakable/Terrain" "ROAD" "Lcom/example/fissure/fissure/games/breakable/Terrain;" (.ref w_ROAD)) :
    MetFree l (⟨"com/example/fissure/fissure/games/breakable/Terrain", "isClear", "()Z"⟩ : MethodName) (head1 (Jvm.Cond.code (⟨"com/example/fissure/fissure/games/breakable/Terrain", "isClear", "()Z"⟩ : MethodName) prog_29_method_4_code 1 (some .boolean) :: ws) ({ frames := 0, cells := 0, slots := 0, locals := 0 } : Room)) (fun a_ U_ => a_ = #[(.ref a)] ∧ Z.Warmed39 U_.vm ∧ U_.heap = h0) (fun _ _ _ _ _ => True) (fun _ U_ o_ V_ => ∃ v_ L_, o_ = .returned v_ ∧ Q_1 Z a w_CLEAR w_ROAD h0 n0 v_ V_.heap L_ ∧ FrameEnd U_ o_ V_ L_ ({ frames := 0, cells := 0, slots := 0, locals := 0 } : Room).cells ({ frames := 0, cells := 0, slots := 0, locals := 0 } : Room).slots) := by
  refine MetFree.of_bodySF (plainFor_of_name pn_0) hisR ?_
  intro p e s m args below meth c s₁ Bd hml0 hP hK
  obtain ⟨rfl, hZ, hh⟩ := hP
  have hx := Bd.exec
  have hby := Bd.bytes
  have hml : c.maxLocals = 1 := hml0
  have hown : s.vm.findClass "com/example/fissure/fissure/games/breakable/Terrain" = some m.cls := findClass_of_methodNamed Bd.named
  have hnm := (name_of_methodNamed Bd.named Bd.method).1
  have X0 : Stand p l e ({ frames := 0, cells := 0, slots := 0, locals := 0 } : Room) s m #[(.ref a)] below meth c s₁ [] 0 0 := Stand.of_body Bd
  have e0 : s₁.heap = h0 := by rw [← hh, Bd.state]; rfl
  have N0 := Fr.nil n0
  have pre0 : ∀ t_, Steps p.tables e below (s₁.setTop (mkF m 0 #[.val (.ref a)] [])) t_ → Steps p.tables e below (s₁.setTop (entryFrame m #[(.ref a)] 1)) t_ := fun t_ k_ => castTop (ef_1 m a) k_
  obtain ⟨T1, X1, e1, st1⟩ := getS2 X0 hx hZ hown (host := "") (Or.inl (hw _ (List.mem_of_getElem? (i := 30) rfl))) Via.refl e0 S_CLEAR (g := (mkF m 1 #[.val (.ref a)] [(.ref a)])) rfl (hb hby d1_1)
  have pre2 : ∀ t_, Steps p.tables e below (T1.setTop (mkF m 4 #[.val (.ref a)] [(.ref w_CLEAR), (.ref a)])) t_ → Steps p.tables e below (s₁.setTop (entryFrame m #[(.ref a)] 1)) t_ := fun t_ k_ => pre0 t_ (by
    show Steps p.tables e below (s₁.setTop (mkF m 0 #[.val (.ref a)] [])) _
    refine XS.aloadN X0.here hx rfl (hb hby d1_0) rfl rfl ?_
    show Steps p.tables e below (s₁.setTop (mkF m 1 #[.val (.ref a)] [(.ref a)])) _
    refine st1 _ ?_
    show Steps p.tables e below (T1.setTop (mkF m 4 #[.val (.ref a)] [(.ref w_CLEAR), (.ref a)])) _
    exact k_)
  by_cases hc4_3 : a = w_CLEAR
  · have pre4 : ∀ t_, Steps p.tables e below (T1.setTop (mkF m 19 #[.val (.ref a)] [(.int (1 : Int32))])) t_ → Steps p.tables e below (s₁.setTop (entryFrame m #[(.ref a)] 1)) t_ := fun t_ k_ => pre2 t_ (by
      show Steps p.tables e below (T1.setTop (mkF m 4 #[.val (.ref a)] [(.ref w_CLEAR), (.ref a)])) _
      refine Jvm.RoadKit.acmp (g := (mkF m 4 #[.val (.ref a)] [(.ref w_CLEAR), (.ref a)])) X1 hx rfl rfl rfl (pc0 := 4) (pc' := 14) (same := true) rfl (hb hby d1_4) rfl (decide_eq_true (congrArg Value.ref hc4_3)) (by decide) (by decide) ?_
      show Steps p.tables e below (T1.setTop (mkF m 14 #[.val (.ref a)] [])) _
      refine XS.iconst X1.here hx rfl (hb hby d1_14) ?_
      show Steps p.tables e below (T1.setTop (mkF m 15 #[.val (.ref a)] [(.int (1 : Int32))])) _
      refine XS.goto X1.here hx rfl (pc0 := 15) (pc' := 19) rfl (hb hby d1_15) (by decide) (by decide) ?_
      show Steps p.tables e below (T1.setTop (mkF m 19 #[.val (.ref a)] [(.int (1 : Int32))])) _
      exact k_)
    obtain ⟨fs, hr, hrun, hended, hW, hsame⟩ := X1.leave (v := some (.int (1 : Int32))) (fun h => by rw [Bd.returns] at h; cases h)
    refine ⟨_, _, pre4 _ ?_, hrun, hended, _, _, rfl, ?_, ⟨_, rfl⟩, hW, hsame.mono (by decide) (by decide)⟩
    · show Steps p.tables e below (T1.setTop (mkF m 19 #[.val (.ref a)] [(.int (1 : Int32))])) _
      exact retN X1 hx (t := .boolean) Bd.returns (by simp) (hb hby d1_19) hr
    · show Q_1 Z a w_CLEAR w_ROAD h0 n0 _ T1.heap _
      rw [e1]
      exact ⟨by rw [if_pos hc4_3], N0, rfl⟩
  · obtain ⟨T5, X5, e5, st5⟩ := getS2 X1 hx hZ hown (host := "") (Or.inl (hw _ (List.mem_of_getElem? (i := 31) rfl))) Via.refl e1 S_ROAD (g := (mkF m 8 #[.val (.ref a)] [(.ref a)])) rfl (hb hby d1_8)
    have pre6 : ∀ t_, Steps p.tables e below (T5.setTop (mkF m 11 #[.val (.ref a)] [(.ref w_ROAD), (.ref a)])) t_ → Steps p.tables e below (s₁.setTop (entryFrame m #[(.ref a)] 1)) t_ := fun t_ k_ => pre2 t_ (by
      show Steps p.tables e below (T1.setTop (mkF m 4 #[.val (.ref a)] [(.ref w_CLEAR), (.ref a)])) _
      refine Jvm.RoadKit.acmp (g := (mkF m 4 #[.val (.ref a)] [(.ref w_CLEAR), (.ref a)])) X1 hx rfl rfl rfl (pc0 := 4) (pc' := 7) (same := false) rfl (hb hby d1_4) rfl (decide_eq_false fun q_ => hc4_3 (Value.ref.inj q_)) (by decide) (by decide) ?_
      show Steps p.tables e below (T1.setTop (mkF m 7 #[.val (.ref a)] [])) _
      refine XS.aloadN X1.here hx rfl (hb hby d1_7) rfl rfl ?_
      show Steps p.tables e below (T1.setTop (mkF m 8 #[.val (.ref a)] [(.ref a)])) _
      refine st5 _ ?_
      show Steps p.tables e below (T5.setTop (mkF m 11 #[.val (.ref a)] [(.ref w_ROAD), (.ref a)])) _
      exact k_)
    by_cases hc11_7 : a = w_ROAD
    · have pre8 : ∀ t_, Steps p.tables e below (T5.setTop (mkF m 19 #[.val (.ref a)] [(.int (1 : Int32))])) t_ → Steps p.tables e below (s₁.setTop (entryFrame m #[(.ref a)] 1)) t_ := fun t_ k_ => pre6 t_ (by
        show Steps p.tables e below (T5.setTop (mkF m 11 #[.val (.ref a)] [(.ref w_ROAD), (.ref a)])) _
        refine Jvm.RoadKit.acmp (g := (mkF m 11 #[.val (.ref a)] [(.ref w_ROAD), (.ref a)])) X5 hx rfl rfl rfl (pc0 := 11) (pc' := 14) (same := true) rfl (hb hby d1_11) rfl (decide_eq_true (congrArg Value.ref hc11_7)) (by decide) (by decide) ?_
        show Steps p.tables e below (T5.setTop (mkF m 14 #[.val (.ref a)] [])) _
        refine XS.iconst X5.here hx rfl (hb hby d1_14) ?_
        show Steps p.tables e below (T5.setTop (mkF m 15 #[.val (.ref a)] [(.int (1 : Int32))])) _
        refine XS.goto X5.here hx rfl (pc0 := 15) (pc' := 19) rfl (hb hby d1_15) (by decide) (by decide) ?_
        show Steps p.tables e below (T5.setTop (mkF m 19 #[.val (.ref a)] [(.int (1 : Int32))])) _
        exact k_)
      obtain ⟨fs, hr, hrun, hended, hW, hsame⟩ := X5.leave (v := some (.int (1 : Int32))) (fun h => by rw [Bd.returns] at h; cases h)
      refine ⟨_, _, pre8 _ ?_, hrun, hended, _, _, rfl, ?_, ⟨_, rfl⟩, hW, hsame.mono (by decide) (by decide)⟩
      · show Steps p.tables e below (T5.setTop (mkF m 19 #[.val (.ref a)] [(.int (1 : Int32))])) _
        exact retN X5 hx (t := .boolean) Bd.returns (by simp) (hb hby d1_19) hr
      · show Q_1 Z a w_CLEAR w_ROAD h0 n0 _ T5.heap _
        rw [e5]
        exact ⟨by rw [if_neg hc4_3, if_pos hc11_7], N0, rfl⟩
    · have pre9 : ∀ t_, Steps p.tables e below (T5.setTop (mkF m 19 #[.val (.ref a)] [(.int (0 : Int32))])) t_ → Steps p.tables e below (s₁.setTop (entryFrame m #[(.ref a)] 1)) t_ := fun t_ k_ => pre6 t_ (by
        show Steps p.tables e below (T5.setTop (mkF m 11 #[.val (.ref a)] [(.ref w_ROAD), (.ref a)])) _
        refine Jvm.RoadKit.acmp (g := (mkF m 11 #[.val (.ref a)] [(.ref w_ROAD), (.ref a)])) X5 hx rfl rfl rfl (pc0 := 11) (pc' := 18) (same := false) rfl (hb hby d1_11) rfl (decide_eq_false fun q_ => hc11_7 (Value.ref.inj q_)) (by decide) (by decide) ?_
        show Steps p.tables e below (T5.setTop (mkF m 18 #[.val (.ref a)] [])) _
        refine XS.iconst X5.here hx rfl (hb hby d1_18) ?_
        show Steps p.tables e below (T5.setTop (mkF m 19 #[.val (.ref a)] [(.int (0 : Int32))])) _
        exact k_)
      obtain ⟨fs, hr, hrun, hended, hW, hsame⟩ := X5.leave (v := some (.int (0 : Int32))) (fun h => by rw [Bd.returns] at h; cases h)
      refine ⟨_, _, pre9 _ ?_, hrun, hended, _, _, rfl, ?_, ⟨_, rfl⟩, hW, hsame.mono (by decide) (by decide)⟩
      · show Steps p.tables e below (T5.setTop (mkF m 19 #[.val (.ref a)] [(.int (0 : Int32))])) _
        exact retN X5 hx (t := .boolean) Bd.returns (by simp) (hb hby d1_19) hr
      · show Q_1 Z a w_CLEAR w_ROAD h0 n0 _ T5.heap _
        rw [e5]
        exact ⟨by rw [if_neg hc4_3, if_neg hc11_7], N0, rfl⟩
theorem ef_0 (m : MethodId) (k0 : Int32) : entryFrame m #[(.int k0)] maxLocals = mkF m 0 #[.val (.int k0), .unset, .unset, .unset] [] := by first | (simp [entryFrame, mkF, argsToLocals, Value.category, maxLocals]; done) | rfl
def Q_0 (Z : State) (k0 : Int32) (w_CLEAR : Addr) (w_ROAD : Addr) (w_CRATER : Addr) (w_HILL : Addr) (w_INDUSTRY : Addr) (w_LAKE : Addr) (w_ROUGH : Addr) (w_WOODS : Addr) (w_LAVA : Addr) (w_VOLCANO : Addr) (h0 : Heap) (n0 : Nat) (v : Option Value) (h : Heap) (L : List Loc) : Prop := v = some (.int (1 : Int32)) ∧ Fr n0 L
theorem pn_1 : plainName "com/example/fissure/fissure/games/breakable/TerrainIsClearPinLaw" = true := by first | (simp [plainName, overriddenIn]; done) | decide +kernel
theorem pd_0 : parseMethodDescriptor "()Z" = some ⟨[], some .boolean⟩ := by decide +kernel
set_option maxRecDepth 65536 in
set_option maxHeartbeats 40000000 in
theorem rm_0 (l : Launch) (Z : State) (a0 : Array Value) (hw : ∀ d ∈ tables_1, d.before a0 Z = true) (ws : List Jvm.Cond) (k0 : Int32) (w_CLEAR : Addr) (w_ROAD : Addr) (w_CRATER : Addr) (w_HILL : Addr) (w_INDUSTRY : Addr) (w_LAKE : Addr) (w_ROUGH : Addr) (w_WOODS : Addr) (w_LAVA : Addr) (w_VOLCANO : Addr) (h0 : Heap) (n0 : Nat) (Z0 : n0 ≤ h0.size) (S_CLEAR : Sta Z h0 "com/example/fissure/fissure/games/breakable/Terrain" "CLEAR" "Lcom/example/fissure/fissure/games/breakable/Terrain;" (.ref w_CLEAR)) (S_ROAD : Sta Z h0 "com/example/fissure/fissure/games/breakable/Terrain" "ROAD" "Lcom/example/fissure/fissure/games/breakable/Terrain;" (.ref w_ROAD)) (S_CRATER : Sta Z h0 "com/example/fissure/fissure/games/breakable/Terrain" "CRATER" "Lcom/example/fissure/fissure/games/breakable/Terrain;" (.ref w_CRATER)) (S_HILL : Sta Z h0 "com/example/fissure/fissure/games/breakable/Terrain" "HILL" "Lcom/example/fissure/fissure/games/breakable/Terrain;" (.ref w_HILL)) (S_INDUSTRY : Sta Z h0 "com/example/fissure/fissure/games/breakable/Terrain" "INDUSTRY" "Lcom/example/fissure/fissure/games/breakable/Terrain;" (.ref w_INDUSTRY)) (S_LAKE : Sta Z h0 "com/example/fissure/fissure/games/breakable/Terrain" "LAKE" "Lcom/example/fissure/fissure/games/breakable/Terrain;" (.ref w_LAKE)) (S_ROUGH : Sta Z h0 "com/example/fissure/fissure/games/breakable/Terrain" "ROUGH" "Lcom/example/fissure/fissure/games/breakable/Terrain;" (.ref w_ROUGH)) (S_WOODS : Sta Z h0 "com/example/fissure/fissure/games/breakable/Terrain" "WOODS" "Lcom/example/fissure/fissure/games/breakable/Terrain;" (.ref w_WOODS)) (S_LAVA : Sta Z h0 "com/example/fissure/fissure/games/breakable/Terrain" "LAVA" "Lcom/example/fissure/fissure/games/breakable/Terrain;" (.ref w_LAVA)) (S_VOLCANO : Sta Z h0 "com/example/fissure/fissure/games/breakable/Terrain" "VOLCANO" "Lcom/example/fissure/fissure/games/breakable/Terrain;" (.ref w_VOLCANO)) (E_CLEAR : Exa Z h0 w_CLEAR "com/example/fissure/fissure/games/breakable/Terrain") (E_ROAD : Exa Z h0 w_ROAD "com/example/fissure/fissure/games/breakable/Terrain") (E_CRATER : Exa Z h0 w_CRATER "com/example/fissure/fissure/games/breakable/Terrain") (E_HILL : Exa Z h0 w_HILL "com/example/fissure/fissure/games/breakable/Terrain") (E_INDUSTRY : Exa Z h0 w_INDUSTRY "com/example/fissure/fissure/games/breakable/Terrain") (E_LAKE : Exa Z h0 w_LAKE "com/example/fissure/fissure/games/breakable/Terrain") (E_ROUGH : Exa Z h0 w_ROUGH "com/example/fissure/fissure/games/breakable/Terrain") (E_WOODS : Exa Z h0 w_WOODS "com/example/fissure/fissure/games/breakable/Terrain") (E_LAVA : Exa Z h0 w_LAVA "com/example/fissure/fissure/games/breakable/Terrain") (E_VOLCANO : Exa Z h0 w_VOLCANO "com/example/fissure/fissure/games/breakable/Terrain") (n_ROAD_CLEAR : w_ROAD ≠ w_CLEAR) (n_CRATER_CLEAR : w_CRATER ≠ w_CLEAR) (n_CRATER_ROAD : w_CRATER ≠ w_ROAD) (n_HILL_CLEAR : w_HILL ≠ w_CLEAR) (n_HILL_ROAD : w_HILL ≠ w_ROAD) (n_INDUSTRY_CLEAR : w_INDUSTRY ≠ w_CLEAR) (n_INDUSTRY_ROAD : w_INDUSTRY ≠ w_ROAD) (n_LAKE_CLEAR : w_LAKE ≠ w_CLEAR) (n_LAKE_ROAD : w_LAKE ≠ w_ROAD) (n_ROUGH_CLEAR : w_ROUGH ≠ w_CLEAR) (n_ROUGH_ROAD : w_ROUGH ≠ w_ROAD) (n_WOODS_CLEAR : w_WOODS ≠ w_CLEAR) (n_WOODS_ROAD : w_WOODS ≠ w_ROAD) (n_LAVA_CLEAR : w_LAVA ≠ w_CLEAR) (n_LAVA_ROAD : w_LAVA ≠ w_ROAD) (n_VOLCANO_CLEAR : w_VOLCANO ≠ w_CLEAR) (n_VOLCANO_ROAD : w_VOLCANO ≠ w_ROAD) :
    MetFree l x (head1 (Jvm.Cond.code x code maxLocals ret :: ws) room_1) (fun a_ U_ => a_ = #[(.int k0)] ∧ Z.Warmed39 U_.vm ∧ U_.heap = h0) (fun _ _ _ _ _ => True) (fun _ U_ o_ V_ => ∃ v_ L_, o_ = .returned v_ ∧ Q_0 Z k0 w_CLEAR w_ROAD w_CRATER w_HILL w_INDUSTRY w_LAKE w_ROUGH w_WOODS w_LAVA w_VOLCANO h0 n0 v_ V_.heap L_ ∧ FrameEnd U_ o_ V_ L_ room_1.cells room_1.slots) := by
  refine MetFree.of_bodySF (plainFor_of_name pn_1) hisR ?_
  intro p e s m args below meth c s₁ Bd hml0 hP hK
  obtain ⟨rfl, hZ, hh⟩ := hP
  have hx := Bd.exec
  have hby := Bd.bytes
  have hml : c.maxLocals = 4 := hml0
  have hown : s.vm.findClass "com/example/fissure/fissure/games/breakable/TerrainIsClearPinLaw" = some m.cls := findClass_of_methodNamed Bd.named
  have hnm := (name_of_methodNamed Bd.named Bd.method).1
  have X0 : Stand p l e room_1 s m #[(.int k0)] below meth c s₁ [] 0 0 := Stand.of_body Bd
  have e0 : s₁.heap = h0 := by rw [← hh, Bd.state]; rfl
  have N0 := Fr.nil n0
  have pre0 : ∀ t_, Steps p.tables e below (s₁.setTop (mkF m 0 #[.val (.int k0), .unset, .unset, .unset] [])) t_ → Steps p.tables e below (s₁.setTop (entryFrame m #[(.int k0)] maxLocals)) t_ := fun t_ k_ => castTop (ef_0 m k0) k_
  obtain ⟨T10, h10, k10, X10, e10, E10, A10, O10, st10⟩ := newR X0 hx hZ hown (hw _ (List.mem_of_getElem? (i := 0) rfl)) (hw _ (List.mem_of_getElem? (i := 1) rfl)) e0 (g := (mkF m 2 #[.val (.int k0), .unset, .unset, .unset] [(.int (10 : Int32))])) rfl (hb hby at_2) rfl (by decide) (cap := 10) (by decide) (by decide) (by decide) (by decide)
  obtain ⟨b10, g10⟩ : ∃ z, z = h0.size := ⟨_, rfl⟩
  rw [← g10] at A10 st10
  have V10 : Arv Z h10 b10 k10 (.object "com/example/fissure/fissure/games/breakable/Terrain") (10 : Int32) [.null, .null, .null, .null, .null, .null, .null, .null, .null, .null] .null := (Arv.new A10 (by decide)).pad (pad_rep [] .null 10)
  have sz_b10 : h0.size ≤ b10 := Nat.le_of_eq g10.symm
  have gg_b10 : n0 ≤ b10 := Nat.le_trans Z0 sz_b10
  obtain ⟨T11, X11, e11, st11⟩ := getS2 X10 hx hZ hown (host := "") (Or.inl (hw _ (List.mem_of_getElem? (i := 2) rfl))) Via.refl e10 (S_CLEAR.ext E10) (g := (mkF m 7 #[.val (.int k0), .unset, .unset, .unset] [(.int (0 : Int32)), (.ref b10), (.ref b10)])) rfl (hb hby at_7)
  obtain ⟨T12, h12, X12, e12, O12, W12, st12⟩ := own_stR X11 hx hZ e11 E10 V10 O10 (Ins.self E_CLEAR) sz_b10 (j := (0 : Int32)) (i := 0) ⟨by decide, by decide⟩ (by decide) (Nat.le_of_ble_eq_true rfl) (g := (mkF m 10 #[.val (.int k0), .unset, .unset, .unset] [(.ref w_CLEAR), (.int (0 : Int32)), (.ref b10), (.ref b10)])) rfl rfl (hb hby at_10)
  have V12 : Arv Z h12 b10 k10 (.object "com/example/fissure/fissure/games/breakable/Terrain") (10 : Int32) [(.ref w_CLEAR), .null, .null, .null, .null, .null, .null, .null, .null, .null] .null := W12
  have N12 := Fr.snoc X12 N0 gg_b10
  obtain ⟨T13, X13, e13, st13⟩ := getS2 X12 hx hZ hown (host := "") (Or.inl (hw _ (List.mem_of_getElem? (i := 6) rfl))) Via.refl e12 (S_ROAD.ext O12) (g := (mkF m 13 #[.val (.int k0), .unset, .unset, .unset] [(.int (1 : Int32)), (.ref b10), (.ref b10)])) rfl (hb hby at_13)
  obtain ⟨T14, h14, X14, e14, O14, W14, st14⟩ := own_stR X13 hx hZ e13 O12 V12 O10 (Ins.self E_ROAD) sz_b10 (j := (1 : Int32)) (i := 1) ⟨by decide, by decide⟩ (by decide) (Nat.le_of_ble_eq_true rfl) (g := (mkF m 16 #[.val (.int k0), .unset, .unset, .unset] [(.ref w_ROAD), (.int (1 : Int32)), (.ref b10), (.ref b10)])) rfl rfl (hb hby at_16)
  have V14 : Arv Z h14 b10 k10 (.object "com/example/fissure/fissure/games/breakable/Terrain") (10 : Int32) [(.ref w_CLEAR), (.ref w_ROAD), .null, .null, .null, .null, .null, .null, .null, .null] .null := W14
  have N14 := Fr.snoc X14 N12 gg_b10
  obtain ⟨T15, X15, e15, st15⟩ := getS2 X14 hx hZ hown (host := "") (Or.inl (hw _ (List.mem_of_getElem? (i := 8) rfl))) Via.refl e14 (S_CRATER.ext O14) (g := (mkF m 19 #[.val (.int k0), .unset, .unset, .unset] [(.int (2 : Int32)), (.ref b10), (.ref b10)])) rfl (hb hby at_19)
  obtain ⟨T16, h16, X16, e16, O16, W16, st16⟩ := own_stR X15 hx hZ e15 O14 V14 O10 (Ins.self E_CRATER) sz_b10 (j := (2 : Int32)) (i := 2) ⟨by decide, by decide⟩ (by decide) (Nat.le_of_ble_eq_true rfl) (g := (mkF m 22 #[.val (.int k0), .unset, .unset, .unset] [(.ref w_CRATER), (.int (2 : Int32)), (.ref b10), (.ref b10)])) rfl rfl (hb hby at_22)
  have V16 : Arv Z h16 b10 k10 (.object "com/example/fissure/fissure/games/breakable/Terrain") (10 : Int32) [(.ref w_CLEAR), (.ref w_ROAD), (.ref w_CRATER), .null, .null, .null, .null, .null, .null, .null] .null := W16
  have N16 := Fr.snoc X16 N14 gg_b10
  obtain ⟨T17, X17, e17, st17⟩ := getS2 X16 hx hZ hown (host := "") (Or.inl (hw _ (List.mem_of_getElem? (i := 10) rfl))) Via.refl e16 (S_HILL.ext O16) (g := (mkF m 25 #[.val (.int k0), .unset, .unset, .unset] [(.int (3 : Int32)), (.ref b10), (.ref b10)])) rfl (hb hby at_25)
  obtain ⟨T18, h18, X18, e18, O18, W18, st18⟩ := own_stR X17 hx hZ e17 O16 V16 O10 (Ins.self E_HILL) sz_b10 (j := (3 : Int32)) (i := 3) ⟨by decide, by decide⟩ (by decide) (Nat.le_of_ble_eq_true rfl) (g := (mkF m 28 #[.val (.int k0), .unset, .unset, .unset] [(.ref w_HILL), (.int (3 : Int32)), (.ref b10), (.ref b10)])) rfl rfl (hb hby at_28)
  have V18 : Arv Z h18 b10 k10 (.object "com/example/fissure/fissure/games/breakable/Terrain") (10 : Int32) [(.ref w_CLEAR), (.ref w_ROAD), (.ref w_CRATER), (.ref w_HILL), .null, .null, .null, .null, .null, .null] .null := W18
  have N18 := Fr.snoc X18 N16 gg_b10
  obtain ⟨T19, X19, e19, st19⟩ := getS2 X18 hx hZ hown (host := "") (Or.inl (hw _ (List.mem_of_getElem? (i := 12) rfl))) Via.refl e18 (S_INDUSTRY.ext O18) (g := (mkF m 31 #[.val (.int k0), .unset, .unset, .unset] [(.int (4 : Int32)), (.ref b10), (.ref b10)])) rfl (hb hby at_31)
  obtain ⟨T20, h20, X20, e20, O20, W20, st20⟩ := own_stR X19 hx hZ e19 O18 V18 O10 (Ins.self E_INDUSTRY) sz_b10 (j := (4 : Int32)) (i := 4) ⟨by decide, by decide⟩ (by decide) (Nat.le_of_ble_eq_true rfl) (g := (mkF m 34 #[.val (.int k0), .unset, .unset, .unset] [(.ref w_INDUSTRY), (.int (4 : Int32)), (.ref b10), (.ref b10)])) rfl rfl (hb hby at_34)
  have V20 : Arv Z h20 b10 k10 (.object "com/example/fissure/fissure/games/breakable/Terrain") (10 : Int32) [(.ref w_CLEAR), (.ref w_ROAD), (.ref w_CRATER), (.ref w_HILL), (.ref w_INDUSTRY), .null, .null, .null, .null, .null] .null := W20
  have N20 := Fr.snoc X20 N18 gg_b10
  obtain ⟨T21, X21, e21, st21⟩ := getS2 X20 hx hZ hown (host := "") (Or.inl (hw _ (List.mem_of_getElem? (i := 14) rfl))) Via.refl e20 (S_LAKE.ext O20) (g := (mkF m 37 #[.val (.int k0), .unset, .unset, .unset] [(.int (5 : Int32)), (.ref b10), (.ref b10)])) rfl (hb hby at_37)
  obtain ⟨T22, h22, X22, e22, O22, W22, st22⟩ := own_stR X21 hx hZ e21 O20 V20 O10 (Ins.self E_LAKE) sz_b10 (j := (5 : Int32)) (i := 5) ⟨by decide, by decide⟩ (by decide) (Nat.le_of_ble_eq_true rfl) (g := (mkF m 40 #[.val (.int k0), .unset, .unset, .unset] [(.ref w_LAKE), (.int (5 : Int32)), (.ref b10), (.ref b10)])) rfl rfl (hb hby at_40)
  have V22 : Arv Z h22 b10 k10 (.object "com/example/fissure/fissure/games/breakable/Terrain") (10 : Int32) [(.ref w_CLEAR), (.ref w_ROAD), (.ref w_CRATER), (.ref w_HILL), (.ref w_INDUSTRY), (.ref w_LAKE), .null, .null, .null, .null] .null := W22
  have N22 := Fr.snoc X22 N20 gg_b10
  obtain ⟨T23, X23, e23, st23⟩ := getS2 X22 hx hZ hown (host := "") (Or.inl (hw _ (List.mem_of_getElem? (i := 16) rfl))) Via.refl e22 (S_ROUGH.ext O22) (g := (mkF m 44 #[.val (.int k0), .unset, .unset, .unset] [(.int (6 : Int32)), (.ref b10), (.ref b10)])) rfl (hb hby at_44)
  obtain ⟨T24, h24, X24, e24, O24, W24, st24⟩ := own_stR X23 hx hZ e23 O22 V22 O10 (Ins.self E_ROUGH) sz_b10 (j := (6 : Int32)) (i := 6) ⟨by decide, by decide⟩ (by decide) (Nat.le_of_ble_eq_true rfl) (g := (mkF m 47 #[.val (.int k0), .unset, .unset, .unset] [(.ref w_ROUGH), (.int (6 : Int32)), (.ref b10), (.ref b10)])) rfl rfl (hb hby at_47)
  have V24 : Arv Z h24 b10 k10 (.object "com/example/fissure/fissure/games/breakable/Terrain") (10 : Int32) [(.ref w_CLEAR), (.ref w_ROAD), (.ref w_CRATER), (.ref w_HILL), (.ref w_INDUSTRY), (.ref w_LAKE), (.ref w_ROUGH), .null, .null, .null] .null := W24
  have N24 := Fr.snoc X24 N22 gg_b10
  obtain ⟨T25, X25, e25, st25⟩ := getS2 X24 hx hZ hown (host := "") (Or.inl (hw _ (List.mem_of_getElem? (i := 18) rfl))) Via.refl e24 (S_WOODS.ext O24) (g := (mkF m 51 #[.val (.int k0), .unset, .unset, .unset] [(.int (7 : Int32)), (.ref b10), (.ref b10)])) rfl (hb hby at_51)
  obtain ⟨T26, h26, X26, e26, O26, W26, st26⟩ := own_stR X25 hx hZ e25 O24 V24 O10 (Ins.self E_WOODS) sz_b10 (j := (7 : Int32)) (i := 7) ⟨by decide, by decide⟩ (by decide) (Nat.le_of_ble_eq_true rfl) (g := (mkF m 54 #[.val (.int k0), .unset, .unset, .unset] [(.ref w_WOODS), (.int (7 : Int32)), (.ref b10), (.ref b10)])) rfl rfl (hb hby at_54)
  have V26 : Arv Z h26 b10 k10 (.object "com/example/fissure/fissure/games/breakable/Terrain") (10 : Int32) [(.ref w_CLEAR), (.ref w_ROAD), (.ref w_CRATER), (.ref w_HILL), (.ref w_INDUSTRY), (.ref w_LAKE), (.ref w_ROUGH), (.ref w_WOODS), .null, .null] .null := W26
  have N26 := Fr.snoc X26 N24 gg_b10
  obtain ⟨T27, X27, e27, st27⟩ := getS2 X26 hx hZ hown (host := "") (Or.inl (hw _ (List.mem_of_getElem? (i := 20) rfl))) Via.refl e26 (S_LAVA.ext O26) (g := (mkF m 58 #[.val (.int k0), .unset, .unset, .unset] [(.int (8 : Int32)), (.ref b10), (.ref b10)])) rfl (hb hby at_58)
  obtain ⟨T28, h28, X28, e28, O28, W28, st28⟩ := own_stR X27 hx hZ e27 O26 V26 O10 (Ins.self E_LAVA) sz_b10 (j := (8 : Int32)) (i := 8) ⟨by decide, by decide⟩ (by decide) (Nat.le_of_ble_eq_true rfl) (g := (mkF m 61 #[.val (.int k0), .unset, .unset, .unset] [(.ref w_LAVA), (.int (8 : Int32)), (.ref b10), (.ref b10)])) rfl rfl (hb hby at_61)
  have V28 : Arv Z h28 b10 k10 (.object "com/example/fissure/fissure/games/breakable/Terrain") (10 : Int32) [(.ref w_CLEAR), (.ref w_ROAD), (.ref w_CRATER), (.ref w_HILL), (.ref w_INDUSTRY), (.ref w_LAKE), (.ref w_ROUGH), (.ref w_WOODS), (.ref w_LAVA), .null] .null := W28
  have N28 := Fr.snoc X28 N26 gg_b10
  obtain ⟨T29, X29, e29, st29⟩ := getS2 X28 hx hZ hown (host := "") (Or.inl (hw _ (List.mem_of_getElem? (i := 22) rfl))) Via.refl e28 (S_VOLCANO.ext O28) (g := (mkF m 65 #[.val (.int k0), .unset, .unset, .unset] [(.int (9 : Int32)), (.ref b10), (.ref b10)])) rfl (hb hby at_65)
  obtain ⟨T30, h30, X30, e30, O30, W30, st30⟩ := own_stR X29 hx hZ e29 O28 V28 O10 (Ins.self E_VOLCANO) sz_b10 (j := (9 : Int32)) (i := 9) ⟨by decide, by decide⟩ (by decide) (Nat.le_of_ble_eq_true rfl) (g := (mkF m 68 #[.val (.int k0), .unset, .unset, .unset] [(.ref w_VOLCANO), (.int (9 : Int32)), (.ref b10), (.ref b10)])) rfl rfl (hb hby at_68)
  have V30 : Arv Z h30 b10 k10 (.object "com/example/fissure/fissure/games/breakable/Terrain") (10 : Int32) [(.ref w_CLEAR), (.ref w_ROAD), (.ref w_CRATER), (.ref w_HILL), (.ref w_INDUSTRY), (.ref w_LAKE), (.ref w_ROUGH), (.ref w_WOODS), (.ref w_LAVA), (.ref w_VOLCANO)] .null := W30
  have N30 := Fr.snoc X30 N28 gg_b10
  have pre31 : ∀ t_, Steps p.tables e below (T30.setTop (mkF m 78 #[.val (.int k0), .val (.ref b10), .val (.int ((k0 &&& (2147483647 : Int32)) % (10 : Int32))), .unset] [])) t_ → Steps p.tables e below (s₁.setTop (entryFrame m #[(.int k0)] maxLocals)) t_ := fun t_ k_ => pre0 t_ (by
    show Steps p.tables e below (s₁.setTop (mkF m 0 #[.val (.int k0), .unset, .unset, .unset] [])) _
    refine XS.bipush X0.here hx rfl (hb hby at_0) ?_
    show Steps p.tables e below (s₁.setTop (mkF m 2 #[.val (.int k0), .unset, .unset, .unset] [(.int (10 : Int32))])) _
    refine st10 _ ?_
    show Steps p.tables e below (T10.setTop (mkF m 5 #[.val (.int k0), .unset, .unset, .unset] [(.ref b10)])) _
    refine XS.dup X10.here hx rfl (hb hby at_5) rfl rfl ?_
    show Steps p.tables e below (T10.setTop (mkF m 6 #[.val (.int k0), .unset, .unset, .unset] [(.ref b10), (.ref b10)])) _
    refine XS.iconst X10.here hx rfl (hb hby at_6) ?_
    show Steps p.tables e below (T10.setTop (mkF m 7 #[.val (.int k0), .unset, .unset, .unset] [(.int (0 : Int32)), (.ref b10), (.ref b10)])) _
    refine st11 _ ?_
    show Steps p.tables e below (T11.setTop (mkF m 10 #[.val (.int k0), .unset, .unset, .unset] [(.ref w_CLEAR), (.int (0 : Int32)), (.ref b10), (.ref b10)])) _
    refine st12 _ ?_
    show Steps p.tables e below (T12.setTop (mkF m 11 #[.val (.int k0), .unset, .unset, .unset] [(.ref b10)])) _
    refine XS.dup X12.here hx rfl (hb hby at_11) rfl rfl ?_
    show Steps p.tables e below (T12.setTop (mkF m 12 #[.val (.int k0), .unset, .unset, .unset] [(.ref b10), (.ref b10)])) _
    refine XS.iconst X12.here hx rfl (hb hby at_12) ?_
    show Steps p.tables e below (T12.setTop (mkF m 13 #[.val (.int k0), .unset, .unset, .unset] [(.int (1 : Int32)), (.ref b10), (.ref b10)])) _
    refine st13 _ ?_
    show Steps p.tables e below (T13.setTop (mkF m 16 #[.val (.int k0), .unset, .unset, .unset] [(.ref w_ROAD), (.int (1 : Int32)), (.ref b10), (.ref b10)])) _
    refine st14 _ ?_
    show Steps p.tables e below (T14.setTop (mkF m 17 #[.val (.int k0), .unset, .unset, .unset] [(.ref b10)])) _
    refine XS.dup X14.here hx rfl (hb hby at_17) rfl rfl ?_
    show Steps p.tables e below (T14.setTop (mkF m 18 #[.val (.int k0), .unset, .unset, .unset] [(.ref b10), (.ref b10)])) _
    refine XS.iconst X14.here hx rfl (hb hby at_18) ?_
    show Steps p.tables e below (T14.setTop (mkF m 19 #[.val (.int k0), .unset, .unset, .unset] [(.int (2 : Int32)), (.ref b10), (.ref b10)])) _
    refine st15 _ ?_
    show Steps p.tables e below (T15.setTop (mkF m 22 #[.val (.int k0), .unset, .unset, .unset] [(.ref w_CRATER), (.int (2 : Int32)), (.ref b10), (.ref b10)])) _
    refine st16 _ ?_
    show Steps p.tables e below (T16.setTop (mkF m 23 #[.val (.int k0), .unset, .unset, .unset] [(.ref b10)])) _
    refine XS.dup X16.here hx rfl (hb hby at_23) rfl rfl ?_
    show Steps p.tables e below (T16.setTop (mkF m 24 #[.val (.int k0), .unset, .unset, .unset] [(.ref b10), (.ref b10)])) _
    refine XS.iconst X16.here hx rfl (hb hby at_24) ?_
    show Steps p.tables e below (T16.setTop (mkF m 25 #[.val (.int k0), .unset, .unset, .unset] [(.int (3 : Int32)), (.ref b10), (.ref b10)])) _
    refine st17 _ ?_
    show Steps p.tables e below (T17.setTop (mkF m 28 #[.val (.int k0), .unset, .unset, .unset] [(.ref w_HILL), (.int (3 : Int32)), (.ref b10), (.ref b10)])) _
    refine st18 _ ?_
    show Steps p.tables e below (T18.setTop (mkF m 29 #[.val (.int k0), .unset, .unset, .unset] [(.ref b10)])) _
    refine XS.dup X18.here hx rfl (hb hby at_29) rfl rfl ?_
    show Steps p.tables e below (T18.setTop (mkF m 30 #[.val (.int k0), .unset, .unset, .unset] [(.ref b10), (.ref b10)])) _
    refine XS.iconst X18.here hx rfl (hb hby at_30) ?_
    show Steps p.tables e below (T18.setTop (mkF m 31 #[.val (.int k0), .unset, .unset, .unset] [(.int (4 : Int32)), (.ref b10), (.ref b10)])) _
    refine st19 _ ?_
    show Steps p.tables e below (T19.setTop (mkF m 34 #[.val (.int k0), .unset, .unset, .unset] [(.ref w_INDUSTRY), (.int (4 : Int32)), (.ref b10), (.ref b10)])) _
    refine st20 _ ?_
    show Steps p.tables e below (T20.setTop (mkF m 35 #[.val (.int k0), .unset, .unset, .unset] [(.ref b10)])) _
    refine XS.dup X20.here hx rfl (hb hby at_35) rfl rfl ?_
    show Steps p.tables e below (T20.setTop (mkF m 36 #[.val (.int k0), .unset, .unset, .unset] [(.ref b10), (.ref b10)])) _
    refine XS.iconst X20.here hx rfl (hb hby at_36) ?_
    show Steps p.tables e below (T20.setTop (mkF m 37 #[.val (.int k0), .unset, .unset, .unset] [(.int (5 : Int32)), (.ref b10), (.ref b10)])) _
    refine st21 _ ?_
    show Steps p.tables e below (T21.setTop (mkF m 40 #[.val (.int k0), .unset, .unset, .unset] [(.ref w_LAKE), (.int (5 : Int32)), (.ref b10), (.ref b10)])) _
    refine st22 _ ?_
    show Steps p.tables e below (T22.setTop (mkF m 41 #[.val (.int k0), .unset, .unset, .unset] [(.ref b10)])) _
    refine XS.dup X22.here hx rfl (hb hby at_41) rfl rfl ?_
    show Steps p.tables e below (T22.setTop (mkF m 42 #[.val (.int k0), .unset, .unset, .unset] [(.ref b10), (.ref b10)])) _
    refine XS.bipush X22.here hx rfl (hb hby at_42) ?_
    show Steps p.tables e below (T22.setTop (mkF m 44 #[.val (.int k0), .unset, .unset, .unset] [(.int (6 : Int32)), (.ref b10), (.ref b10)])) _
    refine st23 _ ?_
    show Steps p.tables e below (T23.setTop (mkF m 47 #[.val (.int k0), .unset, .unset, .unset] [(.ref w_ROUGH), (.int (6 : Int32)), (.ref b10), (.ref b10)])) _
    refine st24 _ ?_
    show Steps p.tables e below (T24.setTop (mkF m 48 #[.val (.int k0), .unset, .unset, .unset] [(.ref b10)])) _
    refine XS.dup X24.here hx rfl (hb hby at_48) rfl rfl ?_
    show Steps p.tables e below (T24.setTop (mkF m 49 #[.val (.int k0), .unset, .unset, .unset] [(.ref b10), (.ref b10)])) _
    refine XS.bipush X24.here hx rfl (hb hby at_49) ?_
    show Steps p.tables e below (T24.setTop (mkF m 51 #[.val (.int k0), .unset, .unset, .unset] [(.int (7 : Int32)), (.ref b10), (.ref b10)])) _
    refine st25 _ ?_
    show Steps p.tables e below (T25.setTop (mkF m 54 #[.val (.int k0), .unset, .unset, .unset] [(.ref w_WOODS), (.int (7 : Int32)), (.ref b10), (.ref b10)])) _
    refine st26 _ ?_
    show Steps p.tables e below (T26.setTop (mkF m 55 #[.val (.int k0), .unset, .unset, .unset] [(.ref b10)])) _
    refine XS.dup X26.here hx rfl (hb hby at_55) rfl rfl ?_
    show Steps p.tables e below (T26.setTop (mkF m 56 #[.val (.int k0), .unset, .unset, .unset] [(.ref b10), (.ref b10)])) _
    refine XS.bipush X26.here hx rfl (hb hby at_56) ?_
    show Steps p.tables e below (T26.setTop (mkF m 58 #[.val (.int k0), .unset, .unset, .unset] [(.int (8 : Int32)), (.ref b10), (.ref b10)])) _
    refine st27 _ ?_
    show Steps p.tables e below (T27.setTop (mkF m 61 #[.val (.int k0), .unset, .unset, .unset] [(.ref w_LAVA), (.int (8 : Int32)), (.ref b10), (.ref b10)])) _
    refine st28 _ ?_
    show Steps p.tables e below (T28.setTop (mkF m 62 #[.val (.int k0), .unset, .unset, .unset] [(.ref b10)])) _
    refine XS.dup X28.here hx rfl (hb hby at_62) rfl rfl ?_
    show Steps p.tables e below (T28.setTop (mkF m 63 #[.val (.int k0), .unset, .unset, .unset] [(.ref b10), (.ref b10)])) _
    refine XS.bipush X28.here hx rfl (hb hby at_63) ?_
    show Steps p.tables e below (T28.setTop (mkF m 65 #[.val (.int k0), .unset, .unset, .unset] [(.int (9 : Int32)), (.ref b10), (.ref b10)])) _
    refine st29 _ ?_
    show Steps p.tables e below (T29.setTop (mkF m 68 #[.val (.int k0), .unset, .unset, .unset] [(.ref w_VOLCANO), (.int (9 : Int32)), (.ref b10), (.ref b10)])) _
    refine st30 _ ?_
    show Steps p.tables e below (T30.setTop (mkF m 69 #[.val (.int k0), .unset, .unset, .unset] [(.ref b10)])) _
    refine XS.astoreN X30.here hx rfl (hb hby at_69) rfl rfl (l' := #[.val (.int k0), .val (.ref b10), .unset, .unset]) rfl ?_
    show Steps p.tables e below (T30.setTop (mkF m 70 #[.val (.int k0), .val (.ref b10), .unset, .unset] [])) _
    refine XS.iloadN X30.here hx rfl (hb hby at_70) rfl ?_
    show Steps p.tables e below (T30.setTop (mkF m 71 #[.val (.int k0), .val (.ref b10), .unset, .unset] [(.int k0)])) _
    refine X30.ldcInt hx hown (mvT hZ (hw _ (List.mem_of_getElem? (i := 24) rfl))) (g := (mkF m 71 #[.val (.int k0), .val (.ref b10), .unset, .unset] [(.int k0)])) rfl (hb hby at_71) _ ?_
    show Steps p.tables e below (T30.setTop (mkF m 73 #[.val (.int k0), .val (.ref b10), .unset, .unset] [(.int (2147483647 : Int32)), (.int k0)])) _
    refine XS.iand X30.here hx rfl (hb hby at_73) rfl ?_
    show Steps p.tables e below (T30.setTop (mkF m 74 #[.val (.int k0), .val (.ref b10), .unset, .unset] [(.int (k0 &&& (2147483647 : Int32)))])) _
    refine XS.bipush X30.here hx rfl (hb hby at_74) ?_
    show Steps p.tables e below (T30.setTop (mkF m 76 #[.val (.int k0), .val (.ref b10), .unset, .unset] [(.int (10 : Int32)), (.int (k0 &&& (2147483647 : Int32)))])) _
    refine iremM X30 hx rfl (hb hby at_76) rfl (by decide) ?_
    show Steps p.tables e below (T30.setTop (mkF m 77 #[.val (.int k0), .val (.ref b10), .unset, .unset] [(.int ((k0 &&& (2147483647 : Int32)) % (10 : Int32)))])) _
    refine XS.istoreN X30.here hx rfl (hb hby at_77) rfl (l' := #[.val (.int k0), .val (.ref b10), .val (.int ((k0 &&& (2147483647 : Int32)) % (10 : Int32))), .unset]) rfl ?_
    show Steps p.tables e below (T30.setTop (mkF m 78 #[.val (.int k0), .val (.ref b10), .val (.int ((k0 &&& (2147483647 : Int32)) % (10 : Int32))), .unset] [])) _
    exact k_)
  obtain ⟨cl, Ar, -, Sz, -, Hs, -⟩ := V30
  obtain ⟨nn, hnn, hix⟩ := own_rem k0 (10 : Int32) 10 (by decide) (by decide)
  rw [hix] at pre31
  rcases (by omega : nn = 0 ∨ nn = 1 ∨ nn = 2 ∨ nn = 3 ∨ nn = 4 ∨ nn = 5 ∨ nn = 6 ∨ nn = 7 ∨ nn = 8 ∨ nn = 9) with rfl | rfl | rfl | rfl | rfl | rfl | rfl | rfl | rfl | rfl
  · obtain ⟨cq32, kq32, q32a, q32b, q32c⟩ := isOf hZ e30 (E_CLEAR.ext O30)
    obtain ⟨v32, _, ⟨T32, L32, k32, n32⟩, -, X32, ⟨Lc32, hQ32, l32, y32, z32⟩, st32⟩ := X30.virtualBack hx (y := (⟨"com/example/fissure/fissure/games/breakable/Terrain", "isClear", "()Z"⟩ : MethodName)) (z := (⟨"com/example/fissure/fissure/games/breakable/Terrain", "isClear", "()Z"⟩ : MethodName)) hown (mvT hZ (hw _ (List.mem_of_getElem? (i := 25) rfl))) (mvT hZ (hw _ (List.mem_of_getElem? (i := 26) rfl))) (notFace_of_selects (args := #[]) (mvT hZ (hw _ (List.mem_of_getElem? (i := 28) rfl)))) (mvT hZ (hw _ (List.mem_of_getElem? (i := 28) rfl))) (mvT hZ (hw _ (List.mem_of_getElem? (i := 27) rfl))) (by decide) (backOf (W := 0) (rm_1 l Z a0 hw [] w_CLEAR w_CLEAR w_ROAD h30 n0 (Nat.le_trans Z0 O30.1) (S_CLEAR.ext O30) (S_ROAD.ext O30)) hZ (hw _ (List.mem_of_getElem? (i := 29) rfl)) (hw _ (List.mem_of_getElem? (i := 3) rfl)) (by decide) (by decide)) q32a q32c (g := (mkF m 92 #[.val (.int k0), .val (.ref b10), .val (.int (0 : Int32)), .val (.int (1 : Int32))] [(.ref w_CLEAR)])) rfl (by rw [hml]; rfl) (Steps.refl _) (argsL := []) (rest := []) (lenOf pd_0 rfl) rfl (by show 2 * 0 + _ ≤ _; exact Nat.le_of_eq rfl) (hb hby at_92) (fun _ _ => ⟨rfl, e30, (by decide : 1 + 0 ≤ _), (by decide : 10 + 0 ≤ _)⟩)
    dsimp only [Pt.U, Pt.locs, Pt.cells, Pt.slots] at X32 l32 y32 z32 st32 hQ32
    subst l32 y32 z32
    obtain ⟨hv32, N32q, e32⟩ := hQ32
    have N32 := Fr.app N30 N32q
    have hw32 : v32 = some (.int (1 : Int32)) := hv32.trans (by rw [if_pos rfl])
    subst hw32
    have pre33 : ∀ t_, Steps p.tables e below (T32.setTop (mkF m 104 #[.val (.int k0), .val (.ref b10), .val (.int (0 : Int32)), .val (.int (1 : Int32))] [(.int (1 : Int32))])) t_ → Steps p.tables e below (s₁.setTop (entryFrame m #[(.int k0)] maxLocals)) t_ := fun t_ k_ => pre31 t_ (by
      show Steps p.tables e below (T30.setTop (mkF m 78 #[.val (.int k0), .val (.ref b10), .val (.int (0 : Int32)), .unset] [])) _
      refine XS.iloadN X30.here hx rfl (hb hby at_78) rfl ?_
      show Steps p.tables e below (T30.setTop (mkF m 79 #[.val (.int k0), .val (.ref b10), .val (.int (0 : Int32)), .unset] [(.int (0 : Int32))])) _
      refine XS.iconst X30.here hx rfl (hb hby at_79) ?_
      show Steps p.tables e below (T30.setTop (mkF m 80 #[.val (.int k0), .val (.ref b10), .val (.int (0 : Int32)), .unset] [(.int (2 : Int32)), (.int (0 : Int32))])) _
      refine XS.icmpNo X30.here hx rfl (hb hby at_80) rfl (tlt (by decide : (0 : Int32) < (2 : Int32))).2.1 ?_
      show Steps p.tables e below (T30.setTop (mkF m 83 #[.val (.int k0), .val (.ref b10), .val (.int (0 : Int32)), .unset] [])) _
      refine XS.iconst X30.here hx rfl (hb hby at_83) ?_
      show Steps p.tables e below (T30.setTop (mkF m 84 #[.val (.int k0), .val (.ref b10), .val (.int (0 : Int32)), .unset] [(.int (1 : Int32))])) _
      refine XS.goto X30.here hx rfl (pc0 := 84) (pc' := 88) rfl (hb hby at_84) (by decide) (by decide) ?_
      show Steps p.tables e below (T30.setTop (mkF m 88 #[.val (.int k0), .val (.ref b10), .val (.int (0 : Int32)), .unset] [(.int (1 : Int32))])) _
      refine XS.istoreN X30.here hx rfl (hb hby at_88) rfl (l' := #[.val (.int k0), .val (.ref b10), .val (.int (0 : Int32)), .val (.int (1 : Int32))]) rfl ?_
      show Steps p.tables e below (T30.setTop (mkF m 89 #[.val (.int k0), .val (.ref b10), .val (.int (0 : Int32)), .val (.int (1 : Int32))] [])) _
      refine XS.aloadN X30.here hx rfl (hb hby at_89) rfl rfl ?_
      show Steps p.tables e below (T30.setTop (mkF m 90 #[.val (.int k0), .val (.ref b10), .val (.int (0 : Int32)), .val (.int (1 : Int32))] [(.ref b10)])) _
      refine XS.iloadN X30.here hx rfl (hb hby at_90) rfl ?_
      show Steps p.tables e below (T30.setTop (mkF m 91 #[.val (.int k0), .val (.ref b10), .val (.int (0 : Int32)), .val (.int (1 : Int32))] [(.int (0 : Int32)), (.ref b10)])) _
      refine X30.aaload hx (j := (0 : Int32)) (v := (.ref w_CLEAR)) (by rw [e30]; exact Ar.1) (State.isArrayOf_alike hZ.alike Ar.2.1) rfl Ar.2.2 (inb_of Sz ⟨by decide, by decide⟩) (Has.at Hs (j := (0 : Int32)) (inb_of Sz ⟨by decide, by decide⟩) rfl) (g := (mkF m 91 #[.val (.int k0), .val (.ref b10), .val (.int (0 : Int32)), .val (.int (1 : Int32))] [(.int (0 : Int32)), (.ref b10)])) rfl rfl (hb hby at_91) _ ?_
      show Steps p.tables e below (T30.setTop (mkF m 92 #[.val (.int k0), .val (.ref b10), .val (.int (0 : Int32)), .val (.int (1 : Int32))] [(.ref w_CLEAR)])) _
      refine st32.trans ?_
      show Steps p.tables e below (T32.setTop (mkF m 95 #[.val (.int k0), .val (.ref b10), .val (.int (0 : Int32)), .val (.int (1 : Int32))] [(.int (1 : Int32))])) _
      refine XS.iloadN X32.here hx rfl (hb hby at_95) rfl ?_
      show Steps p.tables e below (T32.setTop (mkF m 96 #[.val (.int k0), .val (.ref b10), .val (.int (0 : Int32)), .val (.int (1 : Int32))] [(.int (1 : Int32)), (.int (1 : Int32))])) _
      refine XS.icmpNo X32.here hx rfl (hb hby at_96) rfl (teq (by decide : (1 : Int32) = (1 : Int32))).2 ?_
      show Steps p.tables e below (T32.setTop (mkF m 99 #[.val (.int k0), .val (.ref b10), .val (.int (0 : Int32)), .val (.int (1 : Int32))] [])) _
      refine XS.iconst X32.here hx rfl (hb hby at_99) ?_
      show Steps p.tables e below (T32.setTop (mkF m 100 #[.val (.int k0), .val (.ref b10), .val (.int (0 : Int32)), .val (.int (1 : Int32))] [(.int (1 : Int32))])) _
      refine XS.goto X32.here hx rfl (pc0 := 100) (pc' := 104) rfl (hb hby at_100) (by decide) (by decide) ?_
      show Steps p.tables e below (T32.setTop (mkF m 104 #[.val (.int k0), .val (.ref b10), .val (.int (0 : Int32)), .val (.int (1 : Int32))] [(.int (1 : Int32))])) _
      exact k_)
    obtain ⟨fs, hr, hrun, hended, hW, hsame⟩ := X32.leave (v := some (.int (1 : Int32))) (fun h => by rw [Bd.returns] at h; cases h)
    refine ⟨_, _, pre33 _ ?_, hrun, hended, _, _, rfl, ?_, ⟨_, rfl⟩, hW, hsame.mono (by decide) (by decide)⟩
    · show Steps p.tables e below (T32.setTop (mkF m 104 #[.val (.int k0), .val (.ref b10), .val (.int (0 : Int32)), .val (.int (1 : Int32))] [(.int (1 : Int32))])) _
      exact retN X32 hx (t := .boolean) Bd.returns (by simp) (hb hby at_104) hr
    · show Q_0 Z k0 w_CLEAR w_ROAD w_CRATER w_HILL w_INDUSTRY w_LAKE w_ROUGH w_WOODS w_LAVA w_VOLCANO h0 n0 _ T32.heap _
      rw [e32]
      exact ⟨rfl, N32⟩
  · obtain ⟨cq34, kq34, q34a, q34b, q34c⟩ := isOf hZ e30 (E_ROAD.ext O30)
    obtain ⟨v34, _, ⟨T34, L34, k34, n34⟩, -, X34, ⟨Lc34, hQ34, l34, y34, z34⟩, st34⟩ := X30.virtualBack hx (y := (⟨"com/example/fissure/fissure/games/breakable/Terrain", "isClear", "()Z"⟩ : MethodName)) (z := (⟨"com/example/fissure/fissure/games/breakable/Terrain", "isClear", "()Z"⟩ : MethodName)) hown (mvT hZ (hw _ (List.mem_of_getElem? (i := 25) rfl))) (mvT hZ (hw _ (List.mem_of_getElem? (i := 26) rfl))) (notFace_of_selects (args := #[]) (mvT hZ (hw _ (List.mem_of_getElem? (i := 28) rfl)))) (mvT hZ (hw _ (List.mem_of_getElem? (i := 28) rfl))) (mvT hZ (hw _ (List.mem_of_getElem? (i := 27) rfl))) (by decide) (backOf (W := 0) (rm_1 l Z a0 hw [] w_ROAD w_CLEAR w_ROAD h30 n0 (Nat.le_trans Z0 O30.1) (S_CLEAR.ext O30) (S_ROAD.ext O30)) hZ (hw _ (List.mem_of_getElem? (i := 29) rfl)) (hw _ (List.mem_of_getElem? (i := 3) rfl)) (by decide) (by decide)) q34a q34c (g := (mkF m 92 #[.val (.int k0), .val (.ref b10), .val (.int (1 : Int32)), .val (.int (1 : Int32))] [(.ref w_ROAD)])) rfl (by rw [hml]; rfl) (Steps.refl _) (argsL := []) (rest := []) (lenOf pd_0 rfl) rfl (by show 2 * 0 + _ ≤ _; exact Nat.le_of_eq rfl) (hb hby at_92) (fun _ _ => ⟨rfl, e30, (by decide : 1 + 0 ≤ _), (by decide : 10 + 0 ≤ _)⟩)
    dsimp only [Pt.U, Pt.locs, Pt.cells, Pt.slots] at X34 l34 y34 z34 st34 hQ34
    subst l34 y34 z34
    obtain ⟨hv34, N34q, e34⟩ := hQ34
    have N34 := Fr.app N30 N34q
    have hw34 : v34 = some (.int (1 : Int32)) := hv34.trans (by rw [if_neg n_ROAD_CLEAR, if_pos rfl])
    subst hw34
    have pre35 : ∀ t_, Steps p.tables e below (T34.setTop (mkF m 104 #[.val (.int k0), .val (.ref b10), .val (.int (1 : Int32)), .val (.int (1 : Int32))] [(.int (1 : Int32))])) t_ → Steps p.tables e below (s₁.setTop (entryFrame m #[(.int k0)] maxLocals)) t_ := fun t_ k_ => pre31 t_ (by
      show Steps p.tables e below (T30.setTop (mkF m 78 #[.val (.int k0), .val (.ref b10), .val (.int (1 : Int32)), .unset] [])) _
      refine XS.iloadN X30.here hx rfl (hb hby at_78) rfl ?_
      show Steps p.tables e below (T30.setTop (mkF m 79 #[.val (.int k0), .val (.ref b10), .val (.int (1 : Int32)), .unset] [(.int (1 : Int32))])) _
      refine XS.iconst X30.here hx rfl (hb hby at_79) ?_
      show Steps p.tables e below (T30.setTop (mkF m 80 #[.val (.int k0), .val (.ref b10), .val (.int (1 : Int32)), .unset] [(.int (2 : Int32)), (.int (1 : Int32))])) _
      refine XS.icmpNo X30.here hx rfl (hb hby at_80) rfl (tlt (by decide : (1 : Int32) < (2 : Int32))).2.1 ?_
      show Steps p.tables e below (T30.setTop (mkF m 83 #[.val (.int k0), .val (.ref b10), .val (.int (1 : Int32)), .unset] [])) _
      refine XS.iconst X30.here hx rfl (hb hby at_83) ?_
      show Steps p.tables e below (T30.setTop (mkF m 84 #[.val (.int k0), .val (.ref b10), .val (.int (1 : Int32)), .unset] [(.int (1 : Int32))])) _
      refine XS.goto X30.here hx rfl (pc0 := 84) (pc' := 88) rfl (hb hby at_84) (by decide) (by decide) ?_
      show Steps p.tables e below (T30.setTop (mkF m 88 #[.val (.int k0), .val (.ref b10), .val (.int (1 : Int32)), .unset] [(.int (1 : Int32))])) _
      refine XS.istoreN X30.here hx rfl (hb hby at_88) rfl (l' := #[.val (.int k0), .val (.ref b10), .val (.int (1 : Int32)), .val (.int (1 : Int32))]) rfl ?_
      show Steps p.tables e below (T30.setTop (mkF m 89 #[.val (.int k0), .val (.ref b10), .val (.int (1 : Int32)), .val (.int (1 : Int32))] [])) _
      refine XS.aloadN X30.here hx rfl (hb hby at_89) rfl rfl ?_
      show Steps p.tables e below (T30.setTop (mkF m 90 #[.val (.int k0), .val (.ref b10), .val (.int (1 : Int32)), .val (.int (1 : Int32))] [(.ref b10)])) _
      refine XS.iloadN X30.here hx rfl (hb hby at_90) rfl ?_
      show Steps p.tables e below (T30.setTop (mkF m 91 #[.val (.int k0), .val (.ref b10), .val (.int (1 : Int32)), .val (.int (1 : Int32))] [(.int (1 : Int32)), (.ref b10)])) _
      refine X30.aaload hx (j := (1 : Int32)) (v := (.ref w_ROAD)) (by rw [e30]; exact Ar.1) (State.isArrayOf_alike hZ.alike Ar.2.1) rfl Ar.2.2 (inb_of Sz ⟨by decide, by decide⟩) (Has.at Hs (j := (1 : Int32)) (inb_of Sz ⟨by decide, by decide⟩) rfl) (g := (mkF m 91 #[.val (.int k0), .val (.ref b10), .val (.int (1 : Int32)), .val (.int (1 : Int32))] [(.int (1 : Int32)), (.ref b10)])) rfl rfl (hb hby at_91) _ ?_
      show Steps p.tables e below (T30.setTop (mkF m 92 #[.val (.int k0), .val (.ref b10), .val (.int (1 : Int32)), .val (.int (1 : Int32))] [(.ref w_ROAD)])) _
      refine st34.trans ?_
      show Steps p.tables e below (T34.setTop (mkF m 95 #[.val (.int k0), .val (.ref b10), .val (.int (1 : Int32)), .val (.int (1 : Int32))] [(.int (1 : Int32))])) _
      refine XS.iloadN X34.here hx rfl (hb hby at_95) rfl ?_
      show Steps p.tables e below (T34.setTop (mkF m 96 #[.val (.int k0), .val (.ref b10), .val (.int (1 : Int32)), .val (.int (1 : Int32))] [(.int (1 : Int32)), (.int (1 : Int32))])) _
      refine XS.icmpNo X34.here hx rfl (hb hby at_96) rfl (teq (by decide : (1 : Int32) = (1 : Int32))).2 ?_
      show Steps p.tables e below (T34.setTop (mkF m 99 #[.val (.int k0), .val (.ref b10), .val (.int (1 : Int32)), .val (.int (1 : Int32))] [])) _
      refine XS.iconst X34.here hx rfl (hb hby at_99) ?_
      show Steps p.tables e below (T34.setTop (mkF m 100 #[.val (.int k0), .val (.ref b10), .val (.int (1 : Int32)), .val (.int (1 : Int32))] [(.int (1 : Int32))])) _
      refine XS.goto X34.here hx rfl (pc0 := 100) (pc' := 104) rfl (hb hby at_100) (by decide) (by decide) ?_
      show Steps p.tables e below (T34.setTop (mkF m 104 #[.val (.int k0), .val (.ref b10), .val (.int (1 : Int32)), .val (.int (1 : Int32))] [(.int (1 : Int32))])) _
      exact k_)
    obtain ⟨fs, hr, hrun, hended, hW, hsame⟩ := X34.leave (v := some (.int (1 : Int32))) (fun h => by rw [Bd.returns] at h; cases h)
    refine ⟨_, _, pre35 _ ?_, hrun, hended, _, _, rfl, ?_, ⟨_, rfl⟩, hW, hsame.mono (by decide) (by decide)⟩
    · show Steps p.tables e below (T34.setTop (mkF m 104 #[.val (.int k0), .val (.ref b10), .val (.int (1 : Int32)), .val (.int (1 : Int32))] [(.int (1 : Int32))])) _
      exact retN X34 hx (t := .boolean) Bd.returns (by simp) (hb hby at_104) hr
    · show Q_0 Z k0 w_CLEAR w_ROAD w_CRATER w_HILL w_INDUSTRY w_LAKE w_ROUGH w_WOODS w_LAVA w_VOLCANO h0 n0 _ T34.heap _
      rw [e34]
      exact ⟨rfl, N34⟩
  · obtain ⟨cq36, kq36, q36a, q36b, q36c⟩ := isOf hZ e30 (E_CRATER.ext O30)
    obtain ⟨v36, _, ⟨T36, L36, k36, n36⟩, -, X36, ⟨Lc36, hQ36, l36, y36, z36⟩, st36⟩ := X30.virtualBack hx (y := (⟨"com/example/fissure/fissure/games/breakable/Terrain", "isClear", "()Z"⟩ : MethodName)) (z := (⟨"com/example/fissure/fissure/games/breakable/Terrain", "isClear", "()Z"⟩ : MethodName)) hown (mvT hZ (hw _ (List.mem_of_getElem? (i := 25) rfl))) (mvT hZ (hw _ (List.mem_of_getElem? (i := 26) rfl))) (notFace_of_selects (args := #[]) (mvT hZ (hw _ (List.mem_of_getElem? (i := 28) rfl)))) (mvT hZ (hw _ (List.mem_of_getElem? (i := 28) rfl))) (mvT hZ (hw _ (List.mem_of_getElem? (i := 27) rfl))) (by decide) (backOf (W := 0) (rm_1 l Z a0 hw [] w_CRATER w_CLEAR w_ROAD h30 n0 (Nat.le_trans Z0 O30.1) (S_CLEAR.ext O30) (S_ROAD.ext O30)) hZ (hw _ (List.mem_of_getElem? (i := 29) rfl)) (hw _ (List.mem_of_getElem? (i := 3) rfl)) (by decide) (by decide)) q36a q36c (g := (mkF m 92 #[.val (.int k0), .val (.ref b10), .val (.int (2 : Int32)), .val (.int (0 : Int32))] [(.ref w_CRATER)])) rfl (by rw [hml]; rfl) (Steps.refl _) (argsL := []) (rest := []) (lenOf pd_0 rfl) rfl (by show 2 * 0 + _ ≤ _; exact Nat.le_of_eq rfl) (hb hby at_92) (fun _ _ => ⟨rfl, e30, (by decide : 1 + 0 ≤ _), (by decide : 10 + 0 ≤ _)⟩)
    dsimp only [Pt.U, Pt.locs, Pt.cells, Pt.slots] at X36 l36 y36 z36 st36 hQ36
    subst l36 y36 z36
    obtain ⟨hv36, N36q, e36⟩ := hQ36
    have N36 := Fr.app N30 N36q
    have hw36 : v36 = some (.int (0 : Int32)) := hv36.trans (by rw [if_neg n_CRATER_CLEAR, if_neg n_CRATER_ROAD])
    subst hw36
    have pre37 : ∀ t_, Steps p.tables e below (T36.setTop (mkF m 104 #[.val (.int k0), .val (.ref b10), .val (.int (2 : Int32)), .val (.int (0 : Int32))] [(.int (1 : Int32))])) t_ → Steps p.tables e below (s₁.setTop (entryFrame m #[(.int k0)] maxLocals)) t_ := fun t_ k_ => pre31 t_ (by
      show Steps p.tables e below (T30.setTop (mkF m 78 #[.val (.int k0), .val (.ref b10), .val (.int (2 : Int32)), .unset] [])) _
      refine XS.iloadN X30.here hx rfl (hb hby at_78) rfl ?_
      show Steps p.tables e below (T30.setTop (mkF m 79 #[.val (.int k0), .val (.ref b10), .val (.int (2 : Int32)), .unset] [(.int (2 : Int32))])) _
      refine XS.iconst X30.here hx rfl (hb hby at_79) ?_
      show Steps p.tables e below (T30.setTop (mkF m 80 #[.val (.int k0), .val (.ref b10), .val (.int (2 : Int32)), .unset] [(.int (2 : Int32)), (.int (2 : Int32))])) _
      refine XS.icmpYes X30.here hx rfl (pc0 := 80) (pc' := 87) rfl (hb hby at_80) rfl (flt (by decide : ¬ ((2 : Int32) < (2 : Int32)))).2.1 (by decide) (by decide) ?_
      show Steps p.tables e below (T30.setTop (mkF m 87 #[.val (.int k0), .val (.ref b10), .val (.int (2 : Int32)), .unset] [])) _
      refine XS.iconst X30.here hx rfl (hb hby at_87) ?_
      show Steps p.tables e below (T30.setTop (mkF m 88 #[.val (.int k0), .val (.ref b10), .val (.int (2 : Int32)), .unset] [(.int (0 : Int32))])) _
      refine XS.istoreN X30.here hx rfl (hb hby at_88) rfl (l' := #[.val (.int k0), .val (.ref b10), .val (.int (2 : Int32)), .val (.int (0 : Int32))]) rfl ?_
      show Steps p.tables e below (T30.setTop (mkF m 89 #[.val (.int k0), .val (.ref b10), .val (.int (2 : Int32)), .val (.int (0 : Int32))] [])) _
      refine XS.aloadN X30.here hx rfl (hb hby at_89) rfl rfl ?_
      show Steps p.tables e below (T30.setTop (mkF m 90 #[.val (.int k0), .val (.ref b10), .val (.int (2 : Int32)), .val (.int (0 : Int32))] [(.ref b10)])) _
      refine XS.iloadN X30.here hx rfl (hb hby at_90) rfl ?_
      show Steps p.tables e below (T30.setTop (mkF m 91 #[.val (.int k0), .val (.ref b10), .val (.int (2 : Int32)), .val (.int (0 : Int32))] [(.int (2 : Int32)), (.ref b10)])) _
      refine X30.aaload hx (j := (2 : Int32)) (v := (.ref w_CRATER)) (by rw [e30]; exact Ar.1) (State.isArrayOf_alike hZ.alike Ar.2.1) rfl Ar.2.2 (inb_of Sz ⟨by decide, by decide⟩) (Has.at Hs (j := (2 : Int32)) (inb_of Sz ⟨by decide, by decide⟩) rfl) (g := (mkF m 91 #[.val (.int k0), .val (.ref b10), .val (.int (2 : Int32)), .val (.int (0 : Int32))] [(.int (2 : Int32)), (.ref b10)])) rfl rfl (hb hby at_91) _ ?_
      show Steps p.tables e below (T30.setTop (mkF m 92 #[.val (.int k0), .val (.ref b10), .val (.int (2 : Int32)), .val (.int (0 : Int32))] [(.ref w_CRATER)])) _
      refine st36.trans ?_
      show Steps p.tables e below (T36.setTop (mkF m 95 #[.val (.int k0), .val (.ref b10), .val (.int (2 : Int32)), .val (.int (0 : Int32))] [(.int (0 : Int32))])) _
      refine XS.iloadN X36.here hx rfl (hb hby at_95) rfl ?_
      show Steps p.tables e below (T36.setTop (mkF m 96 #[.val (.int k0), .val (.ref b10), .val (.int (2 : Int32)), .val (.int (0 : Int32))] [(.int (0 : Int32)), (.int (0 : Int32))])) _
      refine XS.icmpNo X36.here hx rfl (hb hby at_96) rfl (teq (by decide : (0 : Int32) = (0 : Int32))).2 ?_
      show Steps p.tables e below (T36.setTop (mkF m 99 #[.val (.int k0), .val (.ref b10), .val (.int (2 : Int32)), .val (.int (0 : Int32))] [])) _
      refine XS.iconst X36.here hx rfl (hb hby at_99) ?_
      show Steps p.tables e below (T36.setTop (mkF m 100 #[.val (.int k0), .val (.ref b10), .val (.int (2 : Int32)), .val (.int (0 : Int32))] [(.int (1 : Int32))])) _
      refine XS.goto X36.here hx rfl (pc0 := 100) (pc' := 104) rfl (hb hby at_100) (by decide) (by decide) ?_
      show Steps p.tables e below (T36.setTop (mkF m 104 #[.val (.int k0), .val (.ref b10), .val (.int (2 : Int32)), .val (.int (0 : Int32))] [(.int (1 : Int32))])) _
      exact k_)
    obtain ⟨fs, hr, hrun, hended, hW, hsame⟩ := X36.leave (v := some (.int (1 : Int32))) (fun h => by rw [Bd.returns] at h; cases h)
    refine ⟨_, _, pre37 _ ?_, hrun, hended, _, _, rfl, ?_, ⟨_, rfl⟩, hW, hsame.mono (by decide) (by decide)⟩
    · show Steps p.tables e below (T36.setTop (mkF m 104 #[.val (.int k0), .val (.ref b10), .val (.int (2 : Int32)), .val (.int (0 : Int32))] [(.int (1 : Int32))])) _
      exact retN X36 hx (t := .boolean) Bd.returns (by simp) (hb hby at_104) hr
    · show Q_0 Z k0 w_CLEAR w_ROAD w_CRATER w_HILL w_INDUSTRY w_LAKE w_ROUGH w_WOODS w_LAVA w_VOLCANO h0 n0 _ T36.heap _
      rw [e36]
      exact ⟨rfl, N36⟩
  · obtain ⟨cq38, kq38, q38a, q38b, q38c⟩ := isOf hZ e30 (E_HILL.ext O30)
    obtain ⟨v38, _, ⟨T38, L38, k38, n38⟩, -, X38, ⟨Lc38, hQ38, l38, y38, z38⟩, st38⟩ := X30.virtualBack hx (y := (⟨"com/example/fissure/fissure/games/breakable/Terrain", "isClear", "()Z"⟩ : MethodName)) (z := (⟨"com/example/fissure/fissure/games/breakable/Terrain", "isClear", "()Z"⟩ : MethodName)) hown (mvT hZ (hw _ (List.mem_of_getElem? (i := 25) rfl))) (mvT hZ (hw _ (List.mem_of_getElem? (i := 26) rfl))) (notFace_of_selects (args := #[]) (mvT hZ (hw _ (List.mem_of_getElem? (i := 28) rfl)))) (mvT hZ (hw _ (List.mem_of_getElem? (i := 28) rfl))) (mvT hZ (hw _ (List.mem_of_getElem? (i := 27) rfl))) (by decide) (backOf (W := 0) (rm_1 l Z a0 hw [] w_HILL w_CLEAR w_ROAD h30 n0 (Nat.le_trans Z0 O30.1) (S_CLEAR.ext O30) (S_ROAD.ext O30)) hZ (hw _ (List.mem_of_getElem? (i := 29) rfl)) (hw _ (List.mem_of_getElem? (i := 3) rfl)) (by decide) (by decide)) q38a q38c (g := (mkF m 92 #[.val (.int k0), .val (.ref b10), .val (.int (3 : Int32)), .val (.int (0 : Int32))] [(.ref w_HILL)])) rfl (by rw [hml]; rfl) (Steps.refl _) (argsL := []) (rest := []) (lenOf pd_0 rfl) rfl (by show 2 * 0 + _ ≤ _; exact Nat.le_of_eq rfl) (hb hby at_92) (fun _ _ => ⟨rfl, e30, (by decide : 1 + 0 ≤ _), (by decide : 10 + 0 ≤ _)⟩)
    dsimp only [Pt.U, Pt.locs, Pt.cells, Pt.slots] at X38 l38 y38 z38 st38 hQ38
    subst l38 y38 z38
    obtain ⟨hv38, N38q, e38⟩ := hQ38
    have N38 := Fr.app N30 N38q
    have hw38 : v38 = some (.int (0 : Int32)) := hv38.trans (by rw [if_neg n_HILL_CLEAR, if_neg n_HILL_ROAD])
    subst hw38
    have pre39 : ∀ t_, Steps p.tables e below (T38.setTop (mkF m 104 #[.val (.int k0), .val (.ref b10), .val (.int (3 : Int32)), .val (.int (0 : Int32))] [(.int (1 : Int32))])) t_ → Steps p.tables e below (s₁.setTop (entryFrame m #[(.int k0)] maxLocals)) t_ := fun t_ k_ => pre31 t_ (by
      show Steps p.tables e below (T30.setTop (mkF m 78 #[.val (.int k0), .val (.ref b10), .val (.int (3 : Int32)), .unset] [])) _
      refine XS.iloadN X30.here hx rfl (hb hby at_78) rfl ?_
      show Steps p.tables e below (T30.setTop (mkF m 79 #[.val (.int k0), .val (.ref b10), .val (.int (3 : Int32)), .unset] [(.int (3 : Int32))])) _
      refine XS.iconst X30.here hx rfl (hb hby at_79) ?_
      show Steps p.tables e below (T30.setTop (mkF m 80 #[.val (.int k0), .val (.ref b10), .val (.int (3 : Int32)), .unset] [(.int (2 : Int32)), (.int (3 : Int32))])) _
      refine XS.icmpYes X30.here hx rfl (pc0 := 80) (pc' := 87) rfl (hb hby at_80) rfl (flt (by decide : ¬ ((3 : Int32) < (2 : Int32)))).2.1 (by decide) (by decide) ?_
      show Steps p.tables e below (T30.setTop (mkF m 87 #[.val (.int k0), .val (.ref b10), .val (.int (3 : Int32)), .unset] [])) _
      refine XS.iconst X30.here hx rfl (hb hby at_87) ?_
      show Steps p.tables e below (T30.setTop (mkF m 88 #[.val (.int k0), .val (.ref b10), .val (.int (3 : Int32)), .unset] [(.int (0 : Int32))])) _
      refine XS.istoreN X30.here hx rfl (hb hby at_88) rfl (l' := #[.val (.int k0), .val (.ref b10), .val (.int (3 : Int32)), .val (.int (0 : Int32))]) rfl ?_
      show Steps p.tables e below (T30.setTop (mkF m 89 #[.val (.int k0), .val (.ref b10), .val (.int (3 : Int32)), .val (.int (0 : Int32))] [])) _
      refine XS.aloadN X30.here hx rfl (hb hby at_89) rfl rfl ?_
      show Steps p.tables e below (T30.setTop (mkF m 90 #[.val (.int k0), .val (.ref b10), .val (.int (3 : Int32)), .val (.int (0 : Int32))] [(.ref b10)])) _
      refine XS.iloadN X30.here hx rfl (hb hby at_90) rfl ?_
      show Steps p.tables e below (T30.setTop (mkF m 91 #[.val (.int k0), .val (.ref b10), .val (.int (3 : Int32)), .val (.int (0 : Int32))] [(.int (3 : Int32)), (.ref b10)])) _
      refine X30.aaload hx (j := (3 : Int32)) (v := (.ref w_HILL)) (by rw [e30]; exact Ar.1) (State.isArrayOf_alike hZ.alike Ar.2.1) rfl Ar.2.2 (inb_of Sz ⟨by decide, by decide⟩) (Has.at Hs (j := (3 : Int32)) (inb_of Sz ⟨by decide, by decide⟩) rfl) (g := (mkF m 91 #[.val (.int k0), .val (.ref b10), .val (.int (3 : Int32)), .val (.int (0 : Int32))] [(.int (3 : Int32)), (.ref b10)])) rfl rfl (hb hby at_91) _ ?_
      show Steps p.tables e below (T30.setTop (mkF m 92 #[.val (.int k0), .val (.ref b10), .val (.int (3 : Int32)), .val (.int (0 : Int32))] [(.ref w_HILL)])) _
      refine st38.trans ?_
      show Steps p.tables e below (T38.setTop (mkF m 95 #[.val (.int k0), .val (.ref b10), .val (.int (3 : Int32)), .val (.int (0 : Int32))] [(.int (0 : Int32))])) _
      refine XS.iloadN X38.here hx rfl (hb hby at_95) rfl ?_
      show Steps p.tables e below (T38.setTop (mkF m 96 #[.val (.int k0), .val (.ref b10), .val (.int (3 : Int32)), .val (.int (0 : Int32))] [(.int (0 : Int32)), (.int (0 : Int32))])) _
      refine XS.icmpNo X38.here hx rfl (hb hby at_96) rfl (teq (by decide : (0 : Int32) = (0 : Int32))).2 ?_
      show Steps p.tables e below (T38.setTop (mkF m 99 #[.val (.int k0), .val (.ref b10), .val (.int (3 : Int32)), .val (.int (0 : Int32))] [])) _
      refine XS.iconst X38.here hx rfl (hb hby at_99) ?_
      show Steps p.tables e below (T38.setTop (mkF m 100 #[.val (.int k0), .val (.ref b10), .val (.int (3 : Int32)), .val (.int (0 : Int32))] [(.int (1 : Int32))])) _
      refine XS.goto X38.here hx rfl (pc0 := 100) (pc' := 104) rfl (hb hby at_100) (by decide) (by decide) ?_
      show Steps p.tables e below (T38.setTop (mkF m 104 #[.val (.int k0), .val (.ref b10), .val (.int (3 : Int32)), .val (.int (0 : Int32))] [(.int (1 : Int32))])) _
      exact k_)
    obtain ⟨fs, hr, hrun, hended, hW, hsame⟩ := X38.leave (v := some (.int (1 : Int32))) (fun h => by rw [Bd.returns] at h; cases h)
    refine ⟨_, _, pre39 _ ?_, hrun, hended, _, _, rfl, ?_, ⟨_, rfl⟩, hW, hsame.mono (by decide) (by decide)⟩
    · show Steps p.tables e below (T38.setTop (mkF m 104 #[.val (.int k0), .val (.ref b10), .val (.int (3 : Int32)), .val (.int (0 : Int32))] [(.int (1 : Int32))])) _
      exact retN X38 hx (t := .boolean) Bd.returns (by simp) (hb hby at_104) hr
    · show Q_0 Z k0 w_CLEAR w_ROAD w_CRATER w_HILL w_INDUSTRY w_LAKE w_ROUGH w_WOODS w_LAVA w_VOLCANO h0 n0 _ T38.heap _
      rw [e38]
      exact ⟨rfl, N38⟩
  · obtain ⟨cq40, kq40, q40a, q40b, q40c⟩ := isOf hZ e30 (E_INDUSTRY.ext O30)
    obtain ⟨v40, _, ⟨T40, L40, k40, n40⟩, -, X40, ⟨Lc40, hQ40, l40, y40, z40⟩, st40⟩ := X30.virtualBack hx (y := (⟨"com/example/fissure/fissure/games/breakable/Terrain", "isClear", "()Z"⟩ : MethodName)) (z := (⟨"com/example/fissure/fissure/games/breakable/Terrain", "isClear", "()Z"⟩ : MethodName)) hown (mvT hZ (hw _ (List.mem_of_getElem? (i := 25) rfl))) (mvT hZ (hw _ (List.mem_of_getElem? (i := 26) rfl))) (notFace_of_selects (args := #[]) (mvT hZ (hw _ (List.mem_of_getElem? (i := 28) rfl)))) (mvT hZ (hw _ (List.mem_of_getElem? (i := 28) rfl))) (mvT hZ (hw _ (List.mem_of_getElem? (i := 27) rfl))) (by decide) (backOf (W := 0) (rm_1 l Z a0 hw [] w_INDUSTRY w_CLEAR w_ROAD h30 n0 (Nat.le_trans Z0 O30.1) (S_CLEAR.ext O30) (S_ROAD.ext O30)) hZ (hw _ (List.mem_of_getElem? (i := 29) rfl)) (hw _ (List.mem_of_getElem? (i := 3) rfl)) (by decide) (by decide)) q40a q40c (g := (mkF m 92 #[.val (.int k0), .val (.ref b10), .val (.int (4 : Int32)), .val (.int (0 : Int32))] [(.ref w_INDUSTRY)])) rfl (by rw [hml]; rfl) (Steps.refl _) (argsL := []) (rest := []) (lenOf pd_0 rfl) rfl (by show 2 * 0 + _ ≤ _; exact Nat.le_of_eq rfl) (hb hby at_92) (fun _ _ => ⟨rfl, e30, (by decide : 1 + 0 ≤ _), (by decide : 10 + 0 ≤ _)⟩)
    dsimp only [Pt.U, Pt.locs, Pt.cells, Pt.slots] at X40 l40 y40 z40 st40 hQ40
    subst l40 y40 z40
    obtain ⟨hv40, N40q, e40⟩ := hQ40
    have N40 := Fr.app N30 N40q
    have hw40 : v40 = some (.int (0 : Int32)) := hv40.trans (by rw [if_neg n_INDUSTRY_CLEAR, if_neg n_INDUSTRY_ROAD])
    subst hw40
    have pre41 : ∀ t_, Steps p.tables e below (T40.setTop (mkF m 104 #[.val (.int k0), .val (.ref b10), .val (.int (4 : Int32)), .val (.int (0 : Int32))] [(.int (1 : Int32))])) t_ → Steps p.tables e below (s₁.setTop (entryFrame m #[(.int k0)] maxLocals)) t_ := fun t_ k_ => pre31 t_ (by
      show Steps p.tables e below (T30.setTop (mkF m 78 #[.val (.int k0), .val (.ref b10), .val (.int (4 : Int32)), .unset] [])) _
      refine XS.iloadN X30.here hx rfl (hb hby at_78) rfl ?_
      show Steps p.tables e below (T30.setTop (mkF m 79 #[.val (.int k0), .val (.ref b10), .val (.int (4 : Int32)), .unset] [(.int (4 : Int32))])) _
      refine XS.iconst X30.here hx rfl (hb hby at_79) ?_
      show Steps p.tables e below (T30.setTop (mkF m 80 #[.val (.int k0), .val (.ref b10), .val (.int (4 : Int32)), .unset] [(.int (2 : Int32)), (.int (4 : Int32))])) _
      refine XS.icmpYes X30.here hx rfl (pc0 := 80) (pc' := 87) rfl (hb hby at_80) rfl (flt (by decide : ¬ ((4 : Int32) < (2 : Int32)))).2.1 (by decide) (by decide) ?_
      show Steps p.tables e below (T30.setTop (mkF m 87 #[.val (.int k0), .val (.ref b10), .val (.int (4 : Int32)), .unset] [])) _
      refine XS.iconst X30.here hx rfl (hb hby at_87) ?_
      show Steps p.tables e below (T30.setTop (mkF m 88 #[.val (.int k0), .val (.ref b10), .val (.int (4 : Int32)), .unset] [(.int (0 : Int32))])) _
      refine XS.istoreN X30.here hx rfl (hb hby at_88) rfl (l' := #[.val (.int k0), .val (.ref b10), .val (.int (4 : Int32)), .val (.int (0 : Int32))]) rfl ?_
      show Steps p.tables e below (T30.setTop (mkF m 89 #[.val (.int k0), .val (.ref b10), .val (.int (4 : Int32)), .val (.int (0 : Int32))] [])) _
      refine XS.aloadN X30.here hx rfl (hb hby at_89) rfl rfl ?_
      show Steps p.tables e below (T30.setTop (mkF m 90 #[.val (.int k0), .val (.ref b10), .val (.int (4 : Int32)), .val (.int (0 : Int32))] [(.ref b10)])) _
      refine XS.iloadN X30.here hx rfl (hb hby at_90) rfl ?_
      show Steps p.tables e below (T30.setTop (mkF m 91 #[.val (.int k0), .val (.ref b10), .val (.int (4 : Int32)), .val (.int (0 : Int32))] [(.int (4 : Int32)), (.ref b10)])) _
      refine X30.aaload hx (j := (4 : Int32)) (v := (.ref w_INDUSTRY)) (by rw [e30]; exact Ar.1) (State.isArrayOf_alike hZ.alike Ar.2.1) rfl Ar.2.2 (inb_of Sz ⟨by decide, by decide⟩) (Has.at Hs (j := (4 : Int32)) (inb_of Sz ⟨by decide, by decide⟩) rfl) (g := (mkF m 91 #[.val (.int k0), .val (.ref b10), .val (.int (4 : Int32)), .val (.int (0 : Int32))] [(.int (4 : Int32)), (.ref b10)])) rfl rfl (hb hby at_91) _ ?_
      show Steps p.tables e below (T30.setTop (mkF m 92 #[.val (.int k0), .val (.ref b10), .val (.int (4 : Int32)), .val (.int (0 : Int32))] [(.ref w_INDUSTRY)])) _
      refine st40.trans ?_
      show Steps p.tables e below (T40.setTop (mkF m 95 #[.val (.int k0), .val (.ref b10), .val (.int (4 : Int32)), .val (.int (0 : Int32))] [(.int (0 : Int32))])) _
      refine XS.iloadN X40.here hx rfl (hb hby at_95) rfl ?_
      show Steps p.tables e below (T40.setTop (mkF m 96 #[.val (.int k0), .val (.ref b10), .val (.int (4 : Int32)), .val (.int (0 : Int32))] [(.int (0 : Int32)), (.int (0 : Int32))])) _
      refine XS.icmpNo X40.here hx rfl (hb hby at_96) rfl (teq (by decide : (0 : Int32) = (0 : Int32))).2 ?_
      show Steps p.tables e below (T40.setTop (mkF m 99 #[.val (.int k0), .val (.ref b10), .val (.int (4 : Int32)), .val (.int (0 : Int32))] [])) _
      refine XS.iconst X40.here hx rfl (hb hby at_99) ?_
      show Steps p.tables e below (T40.setTop (mkF m 100 #[.val (.int k0), .val (.ref b10), .val (.int (4 : Int32)), .val (.int (0 : Int32))] [(.int (1 : Int32))])) _
      refine XS.goto X40.here hx rfl (pc0 := 100) (pc' := 104) rfl (hb hby at_100) (by decide) (by decide) ?_
      show Steps p.tables e below (T40.setTop (mkF m 104 #[.val (.int k0), .val (.ref b10), .val (.int (4 : Int32)), .val (.int (0 : Int32))] [(.int (1 : Int32))])) _
      exact k_)
    obtain ⟨fs, hr, hrun, hended, hW, hsame⟩ := X40.leave (v := some (.int (1 : Int32))) (fun h => by rw [Bd.returns] at h; cases h)
    refine ⟨_, _, pre41 _ ?_, hrun, hended, _, _, rfl, ?_, ⟨_, rfl⟩, hW, hsame.mono (by decide) (by decide)⟩
    · show Steps p.tables e below (T40.setTop (mkF m 104 #[.val (.int k0), .val (.ref b10), .val (.int (4 : Int32)), .val (.int (0 : Int32))] [(.int (1 : Int32))])) _
      exact retN X40 hx (t := .boolean) Bd.returns (by simp) (hb hby at_104) hr
    · show Q_0 Z k0 w_CLEAR w_ROAD w_CRATER w_HILL w_INDUSTRY w_LAKE w_ROUGH w_WOODS w_LAVA w_VOLCANO h0 n0 _ T40.heap _
      rw [e40]
      exact ⟨rfl, N40⟩
  · obtain ⟨cq42, kq42, q42a, q42b, q42c⟩ := isOf hZ e30 (E_LAKE.ext O30)
    obtain ⟨v42, _, ⟨T42, L42, k42, n42⟩, -, X42, ⟨Lc42, hQ42, l42, y42, z42⟩, st42⟩ := X30.virtualBack hx (y := (⟨"com/example/fissure/fissure/games/breakable/Terrain", "isClear", "()Z"⟩ : MethodName)) (z := (⟨"com/example/fissure/fissure/games/breakable/Terrain", "isClear", "()Z"⟩ : MethodName)) hown (mvT hZ (hw _ (List.mem_of_getElem? (i := 25) rfl))) (mvT hZ (hw _ (List.mem_of_getElem? (i := 26) rfl))) (notFace_of_selects (args := #[]) (mvT hZ (hw _ (List.mem_of_getElem? (i := 28) rfl)))) (mvT hZ (hw _ (List.mem_of_getElem? (i := 28) rfl))) (mvT hZ (hw _ (List.mem_of_getElem? (i := 27) rfl))) (by decide) (backOf (W := 0) (rm_1 l Z a0 hw [] w_LAKE w_CLEAR w_ROAD h30 n0 (Nat.le_trans Z0 O30.1) (S_CLEAR.ext O30) (S_ROAD.ext O30)) hZ (hw _ (List.mem_of_getElem? (i := 29) rfl)) (hw _ (List.mem_of_getElem? (i := 3) rfl)) (by decide) (by decide)) q42a q42c (g := (mkF m 92 #[.val (.int k0), .val (.ref b10), .val (.int (5 : Int32)), .val (.int (0 : Int32))] [(.ref w_LAKE)])) rfl (by rw [hml]; rfl) (Steps.refl _) (argsL := []) (rest := []) (lenOf pd_0 rfl) rfl (by show 2 * 0 + _ ≤ _; exact Nat.le_of_eq rfl) (hb hby at_92) (fun _ _ => ⟨rfl, e30, (by decide : 1 + 0 ≤ _), (by decide : 10 + 0 ≤ _)⟩)
    dsimp only [Pt.U, Pt.locs, Pt.cells, Pt.slots] at X42 l42 y42 z42 st42 hQ42
    subst l42 y42 z42
    obtain ⟨hv42, N42q, e42⟩ := hQ42
    have N42 := Fr.app N30 N42q
    have hw42 : v42 = some (.int (0 : Int32)) := hv42.trans (by rw [if_neg n_LAKE_CLEAR, if_neg n_LAKE_ROAD])
    subst hw42
    have pre43 : ∀ t_, Steps p.tables e below (T42.setTop (mkF m 104 #[.val (.int k0), .val (.ref b10), .val (.int (5 : Int32)), .val (.int (0 : Int32))] [(.int (1 : Int32))])) t_ → Steps p.tables e below (s₁.setTop (entryFrame m #[(.int k0)] maxLocals)) t_ := fun t_ k_ => pre31 t_ (by
      show Steps p.tables e below (T30.setTop (mkF m 78 #[.val (.int k0), .val (.ref b10), .val (.int (5 : Int32)), .unset] [])) _
      refine XS.iloadN X30.here hx rfl (hb hby at_78) rfl ?_
      show Steps p.tables e below (T30.setTop (mkF m 79 #[.val (.int k0), .val (.ref b10), .val (.int (5 : Int32)), .unset] [(.int (5 : Int32))])) _
      refine XS.iconst X30.here hx rfl (hb hby at_79) ?_
      show Steps p.tables e below (T30.setTop (mkF m 80 #[.val (.int k0), .val (.ref b10), .val (.int (5 : Int32)), .unset] [(.int (2 : Int32)), (.int (5 : Int32))])) _
      refine XS.icmpYes X30.here hx rfl (pc0 := 80) (pc' := 87) rfl (hb hby at_80) rfl (flt (by decide : ¬ ((5 : Int32) < (2 : Int32)))).2.1 (by decide) (by decide) ?_
      show Steps p.tables e below (T30.setTop (mkF m 87 #[.val (.int k0), .val (.ref b10), .val (.int (5 : Int32)), .unset] [])) _
      refine XS.iconst X30.here hx rfl (hb hby at_87) ?_
      show Steps p.tables e below (T30.setTop (mkF m 88 #[.val (.int k0), .val (.ref b10), .val (.int (5 : Int32)), .unset] [(.int (0 : Int32))])) _
      refine XS.istoreN X30.here hx rfl (hb hby at_88) rfl (l' := #[.val (.int k0), .val (.ref b10), .val (.int (5 : Int32)), .val (.int (0 : Int32))]) rfl ?_
      show Steps p.tables e below (T30.setTop (mkF m 89 #[.val (.int k0), .val (.ref b10), .val (.int (5 : Int32)), .val (.int (0 : Int32))] [])) _
      refine XS.aloadN X30.here hx rfl (hb hby at_89) rfl rfl ?_
      show Steps p.tables e below (T30.setTop (mkF m 90 #[.val (.int k0), .val (.ref b10), .val (.int (5 : Int32)), .val (.int (0 : Int32))] [(.ref b10)])) _
      refine XS.iloadN X30.here hx rfl (hb hby at_90) rfl ?_
      show Steps p.tables e below (T30.setTop (mkF m 91 #[.val (.int k0), .val (.ref b10), .val (.int (5 : Int32)), .val (.int (0 : Int32))] [(.int (5 : Int32)), (.ref b10)])) _
      refine X30.aaload hx (j := (5 : Int32)) (v := (.ref w_LAKE)) (by rw [e30]; exact Ar.1) (State.isArrayOf_alike hZ.alike Ar.2.1) rfl Ar.2.2 (inb_of Sz ⟨by decide, by decide⟩) (Has.at Hs (j := (5 : Int32)) (inb_of Sz ⟨by decide, by decide⟩) rfl) (g := (mkF m 91 #[.val (.int k0), .val (.ref b10), .val (.int (5 : Int32)), .val (.int (0 : Int32))] [(.int (5 : Int32)), (.ref b10)])) rfl rfl (hb hby at_91) _ ?_
      show Steps p.tables e below (T30.setTop (mkF m 92 #[.val (.int k0), .val (.ref b10), .val (.int (5 : Int32)), .val (.int (0 : Int32))] [(.ref w_LAKE)])) _
      refine st42.trans ?_
      show Steps p.tables e below (T42.setTop (mkF m 95 #[.val (.int k0), .val (.ref b10), .val (.int (5 : Int32)), .val (.int (0 : Int32))] [(.int (0 : Int32))])) _
      refine XS.iloadN X42.here hx rfl (hb hby at_95) rfl ?_
      show Steps p.tables e below (T42.setTop (mkF m 96 #[.val (.int k0), .val (.ref b10), .val (.int (5 : Int32)), .val (.int (0 : Int32))] [(.int (0 : Int32)), (.int (0 : Int32))])) _
      refine XS.icmpNo X42.here hx rfl (hb hby at_96) rfl (teq (by decide : (0 : Int32) = (0 : Int32))).2 ?_
      show Steps p.tables e below (T42.setTop (mkF m 99 #[.val (.int k0), .val (.ref b10), .val (.int (5 : Int32)), .val (.int (0 : Int32))] [])) _
      refine XS.iconst X42.here hx rfl (hb hby at_99) ?_
      show Steps p.tables e below (T42.setTop (mkF m 100 #[.val (.int k0), .val (.ref b10), .val (.int (5 : Int32)), .val (.int (0 : Int32))] [(.int (1 : Int32))])) _
      refine XS.goto X42.here hx rfl (pc0 := 100) (pc' := 104) rfl (hb hby at_100) (by decide) (by decide) ?_
      show Steps p.tables e below (T42.setTop (mkF m 104 #[.val (.int k0), .val (.ref b10), .val (.int (5 : Int32)), .val (.int (0 : Int32))] [(.int (1 : Int32))])) _
      exact k_)
    obtain ⟨fs, hr, hrun, hended, hW, hsame⟩ := X42.leave (v := some (.int (1 : Int32))) (fun h => by rw [Bd.returns] at h; cases h)
    refine ⟨_, _, pre43 _ ?_, hrun, hended, _, _, rfl, ?_, ⟨_, rfl⟩, hW, hsame.mono (by decide) (by decide)⟩
    · show Steps p.tables e below (T42.setTop (mkF m 104 #[.val (.int k0), .val (.ref b10), .val (.int (5 : Int32)), .val (.int (0 : Int32))] [(.int (1 : Int32))])) _
      exact retN X42 hx (t := .boolean) Bd.returns (by simp) (hb hby at_104) hr
    · show Q_0 Z k0 w_CLEAR w_ROAD w_CRATER w_HILL w_INDUSTRY w_LAKE w_ROUGH w_WOODS w_LAVA w_VOLCANO h0 n0 _ T42.heap _
      rw [e42]
      exact ⟨rfl, N42⟩
  · obtain ⟨cq44, kq44, q44a, q44b, q44c⟩ := isOf hZ e30 (E_ROUGH.ext O30)
    obtain ⟨v44, _, ⟨T44, L44, k44, n44⟩, -, X44, ⟨Lc44, hQ44, l44, y44, z44⟩, st44⟩ := X30.virtualBack hx (y := (⟨"com/example/fissure/fissure/games/breakable/Terrain", "isClear", "()Z"⟩ : MethodName)) (z := (⟨"com/example/fissure/fissure/games/breakable/Terrain", "isClear", "()Z"⟩ : MethodName)) hown (mvT hZ (hw _ (List.mem_of_getElem? (i := 25) rfl))) (mvT hZ (hw _ (List.mem_of_getElem? (i := 26) rfl))) (notFace_of_selects (args := #[]) (mvT hZ (hw _ (List.mem_of_getElem? (i := 28) rfl)))) (mvT hZ (hw _ (List.mem_of_getElem? (i := 28) rfl))) (mvT hZ (hw _ (List.mem_of_getElem? (i := 27) rfl))) (by decide) (backOf (W := 0) (rm_1 l Z a0 hw [] w_ROUGH w_CLEAR w_ROAD h30 n0 (Nat.le_trans Z0 O30.1) (S_CLEAR.ext O30) (S_ROAD.ext O30)) hZ (hw _ (List.mem_of_getElem? (i := 29) rfl)) (hw _ (List.mem_of_getElem? (i := 3) rfl)) (by decide) (by decide)) q44a q44c (g := (mkF m 92 #[.val (.int k0), .val (.ref b10), .val (.int (6 : Int32)), .val (.int (0 : Int32))] [(.ref w_ROUGH)])) rfl (by rw [hml]; rfl) (Steps.refl _) (argsL := []) (rest := []) (lenOf pd_0 rfl) rfl (by show 2 * 0 + _ ≤ _; exact Nat.le_of_eq rfl) (hb hby at_92) (fun _ _ => ⟨rfl, e30, (by decide : 1 + 0 ≤ _), (by decide : 10 + 0 ≤ _)⟩)
    dsimp only [Pt.U, Pt.locs, Pt.cells, Pt.slots] at X44 l44 y44 z44 st44 hQ44
    subst l44 y44 z44
    obtain ⟨hv44, N44q, e44⟩ := hQ44
    have N44 := Fr.app N30 N44q
    have hw44 : v44 = some (.int (0 : Int32)) := hv44.trans (by rw [if_neg n_ROUGH_CLEAR, if_neg n_ROUGH_ROAD])
    subst hw44
    have pre45 : ∀ t_, Steps p.tables e below (T44.setTop (mkF m 104 #[.val (.int k0), .val (.ref b10), .val (.int (6 : Int32)), .val (.int (0 : Int32))] [(.int (1 : Int32))])) t_ → Steps p.tables e below (s₁.setTop (entryFrame m #[(.int k0)] maxLocals)) t_ := fun t_ k_ => pre31 t_ (by
      show Steps p.tables e below (T30.setTop (mkF m 78 #[.val (.int k0), .val (.ref b10), .val (.int (6 : Int32)), .unset] [])) _
      refine XS.iloadN X30.here hx rfl (hb hby at_78) rfl ?_
      show Steps p.tables e below (T30.setTop (mkF m 79 #[.val (.int k0), .val (.ref b10), .val (.int (6 : Int32)), .unset] [(.int (6 : Int32))])) _
      refine XS.iconst X30.here hx rfl (hb hby at_79) ?_
      show Steps p.tables e below (T30.setTop (mkF m 80 #[.val (.int k0), .val (.ref b10), .val (.int (6 : Int32)), .unset] [(.int (2 : Int32)), (.int (6 : Int32))])) _
      refine XS.icmpYes X30.here hx rfl (pc0 := 80) (pc' := 87) rfl (hb hby at_80) rfl (flt (by decide : ¬ ((6 : Int32) < (2 : Int32)))).2.1 (by decide) (by decide) ?_
      show Steps p.tables e below (T30.setTop (mkF m 87 #[.val (.int k0), .val (.ref b10), .val (.int (6 : Int32)), .unset] [])) _
      refine XS.iconst X30.here hx rfl (hb hby at_87) ?_
      show Steps p.tables e below (T30.setTop (mkF m 88 #[.val (.int k0), .val (.ref b10), .val (.int (6 : Int32)), .unset] [(.int (0 : Int32))])) _
      refine XS.istoreN X30.here hx rfl (hb hby at_88) rfl (l' := #[.val (.int k0), .val (.ref b10), .val (.int (6 : Int32)), .val (.int (0 : Int32))]) rfl ?_
      show Steps p.tables e below (T30.setTop (mkF m 89 #[.val (.int k0), .val (.ref b10), .val (.int (6 : Int32)), .val (.int (0 : Int32))] [])) _
      refine XS.aloadN X30.here hx rfl (hb hby at_89) rfl rfl ?_
      show Steps p.tables e below (T30.setTop (mkF m 90 #[.val (.int k0), .val (.ref b10), .val (.int (6 : Int32)), .val (.int (0 : Int32))] [(.ref b10)])) _
      refine XS.iloadN X30.here hx rfl (hb hby at_90) rfl ?_
      show Steps p.tables e below (T30.setTop (mkF m 91 #[.val (.int k0), .val (.ref b10), .val (.int (6 : Int32)), .val (.int (0 : Int32))] [(.int (6 : Int32)), (.ref b10)])) _
      refine X30.aaload hx (j := (6 : Int32)) (v := (.ref w_ROUGH)) (by rw [e30]; exact Ar.1) (State.isArrayOf_alike hZ.alike Ar.2.1) rfl Ar.2.2 (inb_of Sz ⟨by decide, by decide⟩) (Has.at Hs (j := (6 : Int32)) (inb_of Sz ⟨by decide, by decide⟩) rfl) (g := (mkF m 91 #[.val (.int k0), .val (.ref b10), .val (.int (6 : Int32)), .val (.int (0 : Int32))] [(.int (6 : Int32)), (.ref b10)])) rfl rfl (hb hby at_91) _ ?_
      show Steps p.tables e below (T30.setTop (mkF m 92 #[.val (.int k0), .val (.ref b10), .val (.int (6 : Int32)), .val (.int (0 : Int32))] [(.ref w_ROUGH)])) _
      refine st44.trans ?_
      show Steps p.tables e below (T44.setTop (mkF m 95 #[.val (.int k0), .val (.ref b10), .val (.int (6 : Int32)), .val (.int (0 : Int32))] [(.int (0 : Int32))])) _
      refine XS.iloadN X44.here hx rfl (hb hby at_95) rfl ?_
      show Steps p.tables e below (T44.setTop (mkF m 96 #[.val (.int k0), .val (.ref b10), .val (.int (6 : Int32)), .val (.int (0 : Int32))] [(.int (0 : Int32)), (.int (0 : Int32))])) _
      refine XS.icmpNo X44.here hx rfl (hb hby at_96) rfl (teq (by decide : (0 : Int32) = (0 : Int32))).2 ?_
      show Steps p.tables e below (T44.setTop (mkF m 99 #[.val (.int k0), .val (.ref b10), .val (.int (6 : Int32)), .val (.int (0 : Int32))] [])) _
      refine XS.iconst X44.here hx rfl (hb hby at_99) ?_
      show Steps p.tables e below (T44.setTop (mkF m 100 #[.val (.int k0), .val (.ref b10), .val (.int (6 : Int32)), .val (.int (0 : Int32))] [(.int (1 : Int32))])) _
      refine XS.goto X44.here hx rfl (pc0 := 100) (pc' := 104) rfl (hb hby at_100) (by decide) (by decide) ?_
      show Steps p.tables e below (T44.setTop (mkF m 104 #[.val (.int k0), .val (.ref b10), .val (.int (6 : Int32)), .val (.int (0 : Int32))] [(.int (1 : Int32))])) _
      exact k_)
    obtain ⟨fs, hr, hrun, hended, hW, hsame⟩ := X44.leave (v := some (.int (1 : Int32))) (fun h => by rw [Bd.returns] at h; cases h)
    refine ⟨_, _, pre45 _ ?_, hrun, hended, _, _, rfl, ?_, ⟨_, rfl⟩, hW, hsame.mono (by decide) (by decide)⟩
    · show Steps p.tables e below (T44.setTop (mkF m 104 #[.val (.int k0), .val (.ref b10), .val (.int (6 : Int32)), .val (.int (0 : Int32))] [(.int (1 : Int32))])) _
      exact retN X44 hx (t := .boolean) Bd.returns (by simp) (hb hby at_104) hr
    · show Q_0 Z k0 w_CLEAR w_ROAD w_CRATER w_HILL w_INDUSTRY w_LAKE w_ROUGH w_WOODS w_LAVA w_VOLCANO h0 n0 _ T44.heap _
      rw [e44]
      exact ⟨rfl, N44⟩
  · obtain ⟨cq46, kq46, q46a, q46b, q46c⟩ := isOf hZ e30 (E_WOODS.ext O30)
    obtain ⟨v46, _, ⟨T46, L46, k46, n46⟩, -, X46, ⟨Lc46, hQ46, l46, y46, z46⟩, st46⟩ := X30.virtualBack hx (y := (⟨"com/example/fissure/fissure/games/breakable/Terrain", "isClear", "()Z"⟩ : MethodName)) (z := (⟨"com/example/fissure/fissure/games/breakable/Terrain", "isClear", "()Z"⟩ : MethodName)) hown (mvT hZ (hw _ (List.mem_of_getElem? (i := 25) rfl))) (mvT hZ (hw _ (List.mem_of_getElem? (i := 26) rfl))) (notFace_of_selects (args := #[]) (mvT hZ (hw _ (List.mem_of_getElem? (i := 28) rfl)))) (mvT hZ (hw _ (List.mem_of_getElem? (i := 28) rfl))) (mvT hZ (hw _ (List.mem_of_getElem? (i := 27) rfl))) (by decide) (backOf (W := 0) (rm_1 l Z a0 hw [] w_WOODS w_CLEAR w_ROAD h30 n0 (Nat.le_trans Z0 O30.1) (S_CLEAR.ext O30) (S_ROAD.ext O30)) hZ (hw _ (List.mem_of_getElem? (i := 29) rfl)) (hw _ (List.mem_of_getElem? (i := 3) rfl)) (by decide) (by decide)) q46a q46c (g := (mkF m 92 #[.val (.int k0), .val (.ref b10), .val (.int (7 : Int32)), .val (.int (0 : Int32))] [(.ref w_WOODS)])) rfl (by rw [hml]; rfl) (Steps.refl _) (argsL := []) (rest := []) (lenOf pd_0 rfl) rfl (by show 2 * 0 + _ ≤ _; exact Nat.le_of_eq rfl) (hb hby at_92) (fun _ _ => ⟨rfl, e30, (by decide : 1 + 0 ≤ _), (by decide : 10 + 0 ≤ _)⟩)
    dsimp only [Pt.U, Pt.locs, Pt.cells, Pt.slots] at X46 l46 y46 z46 st46 hQ46
    subst l46 y46 z46
    obtain ⟨hv46, N46q, e46⟩ := hQ46
    have N46 := Fr.app N30 N46q
    have hw46 : v46 = some (.int (0 : Int32)) := hv46.trans (by rw [if_neg n_WOODS_CLEAR, if_neg n_WOODS_ROAD])
    subst hw46
    have pre47 : ∀ t_, Steps p.tables e below (T46.setTop (mkF m 104 #[.val (.int k0), .val (.ref b10), .val (.int (7 : Int32)), .val (.int (0 : Int32))] [(.int (1 : Int32))])) t_ → Steps p.tables e below (s₁.setTop (entryFrame m #[(.int k0)] maxLocals)) t_ := fun t_ k_ => pre31 t_ (by
      show Steps p.tables e below (T30.setTop (mkF m 78 #[.val (.int k0), .val (.ref b10), .val (.int (7 : Int32)), .unset] [])) _
      refine XS.iloadN X30.here hx rfl (hb hby at_78) rfl ?_
      show Steps p.tables e below (T30.setTop (mkF m 79 #[.val (.int k0), .val (.ref b10), .val (.int (7 : Int32)), .unset] [(.int (7 : Int32))])) _
      refine XS.iconst X30.here hx rfl (hb hby at_79) ?_
      show Steps p.tables e below (T30.setTop (mkF m 80 #[.val (.int k0), .val (.ref b10), .val (.int (7 : Int32)), .unset] [(.int (2 : Int32)), (.int (7 : Int32))])) _
      refine XS.icmpYes X30.here hx rfl (pc0 := 80) (pc' := 87) rfl (hb hby at_80) rfl (flt (by decide : ¬ ((7 : Int32) < (2 : Int32)))).2.1 (by decide) (by decide) ?_
      show Steps p.tables e below (T30.setTop (mkF m 87 #[.val (.int k0), .val (.ref b10), .val (.int (7 : Int32)), .unset] [])) _
      refine XS.iconst X30.here hx rfl (hb hby at_87) ?_
      show Steps p.tables e below (T30.setTop (mkF m 88 #[.val (.int k0), .val (.ref b10), .val (.int (7 : Int32)), .unset] [(.int (0 : Int32))])) _
      refine XS.istoreN X30.here hx rfl (hb hby at_88) rfl (l' := #[.val (.int k0), .val (.ref b10), .val (.int (7 : Int32)), .val (.int (0 : Int32))]) rfl ?_
      show Steps p.tables e below (T30.setTop (mkF m 89 #[.val (.int k0), .val (.ref b10), .val (.int (7 : Int32)), .val (.int (0 : Int32))] [])) _
      refine XS.aloadN X30.here hx rfl (hb hby at_89) rfl rfl ?_
      show Steps p.tables e below (T30.setTop (mkF m 90 #[.val (.int k0), .val (.ref b10), .val (.int (7 : Int32)), .val (.int (0 : Int32))] [(.ref b10)])) _
      refine XS.iloadN X30.here hx rfl (hb hby at_90) rfl ?_
      show Steps p.tables e below (T30.setTop (mkF m 91 #[.val (.int k0), .val (.ref b10), .val (.int (7 : Int32)), .val (.int (0 : Int32))] [(.int (7 : Int32)), (.ref b10)])) _
      refine X30.aaload hx (j := (7 : Int32)) (v := (.ref w_WOODS)) (by rw [e30]; exact Ar.1) (State.isArrayOf_alike hZ.alike Ar.2.1) rfl Ar.2.2 (inb_of Sz ⟨by decide, by decide⟩) (Has.at Hs (j := (7 : Int32)) (inb_of Sz ⟨by decide, by decide⟩) rfl) (g := (mkF m 91 #[.val (.int k0), .val (.ref b10), .val (.int (7 : Int32)), .val (.int (0 : Int32))] [(.int (7 : Int32)), (.ref b10)])) rfl rfl (hb hby at_91) _ ?_
      show Steps p.tables e below (T30.setTop (mkF m 92 #[.val (.int k0), .val (.ref b10), .val (.int (7 : Int32)), .val (.int (0 : Int32))] [(.ref w_WOODS)])) _
      refine st46.trans ?_
      show Steps p.tables e below (T46.setTop (mkF m 95 #[.val (.int k0), .val (.ref b10), .val (.int (7 : Int32)), .val (.int (0 : Int32))] [(.int (0 : Int32))])) _
      refine XS.iloadN X46.here hx rfl (hb hby at_95) rfl ?_
      show Steps p.tables e below (T46.setTop (mkF m 96 #[.val (.int k0), .val (.ref b10), .val (.int (7 : Int32)), .val (.int (0 : Int32))] [(.int (0 : Int32)), (.int (0 : Int32))])) _
      refine XS.icmpNo X46.here hx rfl (hb hby at_96) rfl (teq (by decide : (0 : Int32) = (0 : Int32))).2 ?_
      show Steps p.tables e below (T46.setTop (mkF m 99 #[.val (.int k0), .val (.ref b10), .val (.int (7 : Int32)), .val (.int (0 : Int32))] [])) _
      refine XS.iconst X46.here hx rfl (hb hby at_99) ?_
      show Steps p.tables e below (T46.setTop (mkF m 100 #[.val (.int k0), .val (.ref b10), .val (.int (7 : Int32)), .val (.int (0 : Int32))] [(.int (1 : Int32))])) _
      refine XS.goto X46.here hx rfl (pc0 := 100) (pc' := 104) rfl (hb hby at_100) (by decide) (by decide) ?_
      show Steps p.tables e below (T46.setTop (mkF m 104 #[.val (.int k0), .val (.ref b10), .val (.int (7 : Int32)), .val (.int (0 : Int32))] [(.int (1 : Int32))])) _
      exact k_)
    obtain ⟨fs, hr, hrun, hended, hW, hsame⟩ := X46.leave (v := some (.int (1 : Int32))) (fun h => by rw [Bd.returns] at h; cases h)
    refine ⟨_, _, pre47 _ ?_, hrun, hended, _, _, rfl, ?_, ⟨_, rfl⟩, hW, hsame.mono (by decide) (by decide)⟩
    · show Steps p.tables e below (T46.setTop (mkF m 104 #[.val (.int k0), .val (.ref b10), .val (.int (7 : Int32)), .val (.int (0 : Int32))] [(.int (1 : Int32))])) _
      exact retN X46 hx (t := .boolean) Bd.returns (by simp) (hb hby at_104) hr
    · show Q_0 Z k0 w_CLEAR w_ROAD w_CRATER w_HILL w_INDUSTRY w_LAKE w_ROUGH w_WOODS w_LAVA w_VOLCANO h0 n0 _ T46.heap _
      rw [e46]
      exact ⟨rfl, N46⟩
  · obtain ⟨cq48, kq48, q48a, q48b, q48c⟩ := isOf hZ e30 (E_LAVA.ext O30)
    obtain ⟨v48, _, ⟨T48, L48, k48, n48⟩, -, X48, ⟨Lc48, hQ48, l48, y48, z48⟩, st48⟩ := X30.virtualBack hx (y := (⟨"com/example/fissure/fissure/games/breakable/Terrain", "isClear", "()Z"⟩ : MethodName)) (z := (⟨"com/example/fissure/fissure/games/breakable/Terrain", "isClear", "()Z"⟩ : MethodName)) hown (mvT hZ (hw _ (List.mem_of_getElem? (i := 25) rfl))) (mvT hZ (hw _ (List.mem_of_getElem? (i := 26) rfl))) (notFace_of_selects (args := #[]) (mvT hZ (hw _ (List.mem_of_getElem? (i := 28) rfl)))) (mvT hZ (hw _ (List.mem_of_getElem? (i := 28) rfl))) (mvT hZ (hw _ (List.mem_of_getElem? (i := 27) rfl))) (by decide) (backOf (W := 0) (rm_1 l Z a0 hw [] w_LAVA w_CLEAR w_ROAD h30 n0 (Nat.le_trans Z0 O30.1) (S_CLEAR.ext O30) (S_ROAD.ext O30)) hZ (hw _ (List.mem_of_getElem? (i := 29) rfl)) (hw _ (List.mem_of_getElem? (i := 3) rfl)) (by decide) (by decide)) q48a q48c (g := (mkF m 92 #[.val (.int k0), .val (.ref b10), .val (.int (8 : Int32)), .val (.int (0 : Int32))] [(.ref w_LAVA)])) rfl (by rw [hml]; rfl) (Steps.refl _) (argsL := []) (rest := []) (lenOf pd_0 rfl) rfl (by show 2 * 0 + _ ≤ _; exact Nat.le_of_eq rfl) (hb hby at_92) (fun _ _ => ⟨rfl, e30, (by decide : 1 + 0 ≤ _), (by decide : 10 + 0 ≤ _)⟩)
    dsimp only [Pt.U, Pt.locs, Pt.cells, Pt.slots] at X48 l48 y48 z48 st48 hQ48
    subst l48 y48 z48
    obtain ⟨hv48, N48q, e48⟩ := hQ48
    have N48 := Fr.app N30 N48q
    have hw48 : v48 = some (.int (0 : Int32)) := hv48.trans (by rw [if_neg n_LAVA_CLEAR, if_neg n_LAVA_ROAD])
    subst hw48
    have pre49 : ∀ t_, Steps p.tables e below (T48.setTop (mkF m 104 #[.val (.int k0), .val (.ref b10), .val (.int (8 : Int32)), .val (.int (0 : Int32))] [(.int (1 : Int32))])) t_ → Steps p.tables e below (s₁.setTop (entryFrame m #[(.int k0)] maxLocals)) t_ := fun t_ k_ => pre31 t_ (by
      show Steps p.tables e below (T30.setTop (mkF m 78 #[.val (.int k0), .val (.ref b10), .val (.int (8 : Int32)), .unset] [])) _
      refine XS.iloadN X30.here hx rfl (hb hby at_78) rfl ?_
      show Steps p.tables e below (T30.setTop (mkF m 79 #[.val (.int k0), .val (.ref b10), .val (.int (8 : Int32)), .unset] [(.int (8 : Int32))])) _
      refine XS.iconst X30.here hx rfl (hb hby at_79) ?_
      show Steps p.tables e below (T30.setTop (mkF m 80 #[.val (.int k0), .val (.ref b10), .val (.int (8 : Int32)), .unset] [(.int (2 : Int32)), (.int (8 : Int32))])) _
      refine XS.icmpYes X30.here hx rfl (pc0 := 80) (pc' := 87) rfl (hb hby at_80) rfl (flt (by decide : ¬ ((8 : Int32) < (2 : Int32)))).2.1 (by decide) (by decide) ?_
      show Steps p.tables e below (T30.setTop (mkF m 87 #[.val (.int k0), .val (.ref b10), .val (.int (8 : Int32)), .unset] [])) _
      refine XS.iconst X30.here hx rfl (hb hby at_87) ?_
      show Steps p.tables e below (T30.setTop (mkF m 88 #[.val (.int k0), .val (.ref b10), .val (.int (8 : Int32)), .unset] [(.int (0 : Int32))])) _
      refine XS.istoreN X30.here hx rfl (hb hby at_88) rfl (l' := #[.val (.int k0), .val (.ref b10), .val (.int (8 : Int32)), .val (.int (0 : Int32))]) rfl ?_
      show Steps p.tables e below (T30.setTop (mkF m 89 #[.val (.int k0), .val (.ref b10), .val (.int (8 : Int32)), .val (.int (0 : Int32))] [])) _
      refine XS.aloadN X30.here hx rfl (hb hby at_89) rfl rfl ?_
      show Steps p.tables e below (T30.setTop (mkF m 90 #[.val (.int k0), .val (.ref b10), .val (.int (8 : Int32)), .val (.int (0 : Int32))] [(.ref b10)])) _
      refine XS.iloadN X30.here hx rfl (hb hby at_90) rfl ?_
      show Steps p.tables e below (T30.setTop (mkF m 91 #[.val (.int k0), .val (.ref b10), .val (.int (8 : Int32)), .val (.int (0 : Int32))] [(.int (8 : Int32)), (.ref b10)])) _
      refine X30.aaload hx (j := (8 : Int32)) (v := (.ref w_LAVA)) (by rw [e30]; exact Ar.1) (State.isArrayOf_alike hZ.alike Ar.2.1) rfl Ar.2.2 (inb_of Sz ⟨by decide, by decide⟩) (Has.at Hs (j := (8 : Int32)) (inb_of Sz ⟨by decide, by decide⟩) rfl) (g := (mkF m 91 #[.val (.int k0), .val (.ref b10), .val (.int (8 : Int32)), .val (.int (0 : Int32))] [(.int (8 : Int32)), (.ref b10)])) rfl rfl (hb hby at_91) _ ?_
      show Steps p.tables e below (T30.setTop (mkF m 92 #[.val (.int k0), .val (.ref b10), .val (.int (8 : Int32)), .val (.int (0 : Int32))] [(.ref w_LAVA)])) _
      refine st48.trans ?_
      show Steps p.tables e below (T48.setTop (mkF m 95 #[.val (.int k0), .val (.ref b10), .val (.int (8 : Int32)), .val (.int (0 : Int32))] [(.int (0 : Int32))])) _
      refine XS.iloadN X48.here hx rfl (hb hby at_95) rfl ?_
      show Steps p.tables e below (T48.setTop (mkF m 96 #[.val (.int k0), .val (.ref b10), .val (.int (8 : Int32)), .val (.int (0 : Int32))] [(.int (0 : Int32)), (.int (0 : Int32))])) _
      refine XS.icmpNo X48.here hx rfl (hb hby at_96) rfl (teq (by decide : (0 : Int32) = (0 : Int32))).2 ?_
      show Steps p.tables e below (T48.setTop (mkF m 99 #[.val (.int k0), .val (.ref b10), .val (.int (8 : Int32)), .val (.int (0 : Int32))] [])) _
      refine XS.iconst X48.here hx rfl (hb hby at_99) ?_
      show Steps p.tables e below (T48.setTop (mkF m 100 #[.val (.int k0), .val (.ref b10), .val (.int (8 : Int32)), .val (.int (0 : Int32))] [(.int (1 : Int32))])) _
      refine XS.goto X48.here hx rfl (pc0 := 100) (pc' := 104) rfl (hb hby at_100) (by decide) (by decide) ?_
      show Steps p.tables e below (T48.setTop (mkF m 104 #[.val (.int k0), .val (.ref b10), .val (.int (8 : Int32)), .val (.int (0 : Int32))] [(.int (1 : Int32))])) _
      exact k_)
    obtain ⟨fs, hr, hrun, hended, hW, hsame⟩ := X48.leave (v := some (.int (1 : Int32))) (fun h => by rw [Bd.returns] at h; cases h)
    refine ⟨_, _, pre49 _ ?_, hrun, hended, _, _, rfl, ?_, ⟨_, rfl⟩, hW, hsame.mono (by decide) (by decide)⟩
    · show Steps p.tables e below (T48.setTop (mkF m 104 #[.val (.int k0), .val (.ref b10), .val (.int (8 : Int32)), .val (.int (0 : Int32))] [(.int (1 : Int32))])) _
      exact retN X48 hx (t := .boolean) Bd.returns (by simp) (hb hby at_104) hr
    · show Q_0 Z k0 w_CLEAR w_ROAD w_CRATER w_HILL w_INDUSTRY w_LAKE w_ROUGH w_WOODS w_LAVA w_VOLCANO h0 n0 _ T48.heap _
      rw [e48]
      exact ⟨rfl, N48⟩
  · obtain ⟨cq50, kq50, q50a, q50b, q50c⟩ := isOf hZ e30 (E_VOLCANO.ext O30)
    obtain ⟨v50, _, ⟨T50, L50, k50, n50⟩, -, X50, ⟨Lc50, hQ50, l50, y50, z50⟩, st50⟩ := X30.virtualBack hx (y := (⟨"com/example/fissure/fissure/games/breakable/Terrain", "isClear", "()Z"⟩ : MethodName)) (z := (⟨"com/example/fissure/fissure/games/breakable/Terrain", "isClear", "()Z"⟩ : MethodName)) hown (mvT hZ (hw _ (List.mem_of_getElem? (i := 25) rfl))) (mvT hZ (hw _ (List.mem_of_getElem? (i := 26) rfl))) (notFace_of_selects (args := #[]) (mvT hZ (hw _ (List.mem_of_getElem? (i := 28) rfl)))) (mvT hZ (hw _ (List.mem_of_getElem? (i := 28) rfl))) (mvT hZ (hw _ (List.mem_of_getElem? (i := 27) rfl))) (by decide) (backOf (W := 0) (rm_1 l Z a0 hw [] w_VOLCANO w_CLEAR w_ROAD h30 n0 (Nat.le_trans Z0 O30.1) (S_CLEAR.ext O30) (S_ROAD.ext O30)) hZ (hw _ (List.mem_of_getElem? (i := 29) rfl)) (hw _ (List.mem_of_getElem? (i := 3) rfl)) (by decide) (by decide)) q50a q50c (g := (mkF m 92 #[.val (.int k0), .val (.ref b10), .val (.int (9 : Int32)), .val (.int (0 : Int32))] [(.ref w_VOLCANO)])) rfl (by rw [hml]; rfl) (Steps.refl _) (argsL := []) (rest := []) (lenOf pd_0 rfl) rfl (by show 2 * 0 + _ ≤ _; exact Nat.le_of_eq rfl) (hb hby at_92) (fun _ _ => ⟨rfl, e30, (by decide : 1 + 0 ≤ _), (by decide : 10 + 0 ≤ _)⟩)
    dsimp only [Pt.U, Pt.locs, Pt.cells, Pt.slots] at X50 l50 y50 z50 st50 hQ50
    subst l50 y50 z50
    obtain ⟨hv50, N50q, e50⟩ := hQ50
    have N50 := Fr.app N30 N50q
    have hw50 : v50 = some (.int (0 : Int32)) := hv50.trans (by rw [if_neg n_VOLCANO_CLEAR, if_neg n_VOLCANO_ROAD])
    subst hw50
    have pre51 : ∀ t_, Steps p.tables e below (T50.setTop (mkF m 104 #[.val (.int k0), .val (.ref b10), .val (.int (9 : Int32)), .val (.int (0 : Int32))] [(.int (1 : Int32))])) t_ → Steps p.tables e below (s₁.setTop (entryFrame m #[(.int k0)] maxLocals)) t_ := fun t_ k_ => pre31 t_ (by
      show Steps p.tables e below (T30.setTop (mkF m 78 #[.val (.int k0), .val (.ref b10), .val (.int (9 : Int32)), .unset] [])) _
      refine XS.iloadN X30.here hx rfl (hb hby at_78) rfl ?_
      show Steps p.tables e below (T30.setTop (mkF m 79 #[.val (.int k0), .val (.ref b10), .val (.int (9 : Int32)), .unset] [(.int (9 : Int32))])) _
      refine XS.iconst X30.here hx rfl (hb hby at_79) ?_
      show Steps p.tables e below (T30.setTop (mkF m 80 #[.val (.int k0), .val (.ref b10), .val (.int (9 : Int32)), .unset] [(.int (2 : Int32)), (.int (9 : Int32))])) _
      refine XS.icmpYes X30.here hx rfl (pc0 := 80) (pc' := 87) rfl (hb hby at_80) rfl (flt (by decide : ¬ ((9 : Int32) < (2 : Int32)))).2.1 (by decide) (by decide) ?_
      show Steps p.tables e below (T30.setTop (mkF m 87 #[.val (.int k0), .val (.ref b10), .val (.int (9 : Int32)), .unset] [])) _
      refine XS.iconst X30.here hx rfl (hb hby at_87) ?_
      show Steps p.tables e below (T30.setTop (mkF m 88 #[.val (.int k0), .val (.ref b10), .val (.int (9 : Int32)), .unset] [(.int (0 : Int32))])) _
      refine XS.istoreN X30.here hx rfl (hb hby at_88) rfl (l' := #[.val (.int k0), .val (.ref b10), .val (.int (9 : Int32)), .val (.int (0 : Int32))]) rfl ?_
      show Steps p.tables e below (T30.setTop (mkF m 89 #[.val (.int k0), .val (.ref b10), .val (.int (9 : Int32)), .val (.int (0 : Int32))] [])) _
      refine XS.aloadN X30.here hx rfl (hb hby at_89) rfl rfl ?_
      show Steps p.tables e below (T30.setTop (mkF m 90 #[.val (.int k0), .val (.ref b10), .val (.int (9 : Int32)), .val (.int (0 : Int32))] [(.ref b10)])) _
      refine XS.iloadN X30.here hx rfl (hb hby at_90) rfl ?_
      show Steps p.tables e below (T30.setTop (mkF m 91 #[.val (.int k0), .val (.ref b10), .val (.int (9 : Int32)), .val (.int (0 : Int32))] [(.int (9 : Int32)), (.ref b10)])) _
      refine X30.aaload hx (j := (9 : Int32)) (v := (.ref w_VOLCANO)) (by rw [e30]; exact Ar.1) (State.isArrayOf_alike hZ.alike Ar.2.1) rfl Ar.2.2 (inb_of Sz ⟨by decide, by decide⟩) (Has.at Hs (j := (9 : Int32)) (inb_of Sz ⟨by decide, by decide⟩) rfl) (g := (mkF m 91 #[.val (.int k0), .val (.ref b10), .val (.int (9 : Int32)), .val (.int (0 : Int32))] [(.int (9 : Int32)), (.ref b10)])) rfl rfl (hb hby at_91) _ ?_
      show Steps p.tables e below (T30.setTop (mkF m 92 #[.val (.int k0), .val (.ref b10), .val (.int (9 : Int32)), .val (.int (0 : Int32))] [(.ref w_VOLCANO)])) _
      refine st50.trans ?_
      show Steps p.tables e below (T50.setTop (mkF m 95 #[.val (.int k0), .val (.ref b10), .val (.int (9 : Int32)), .val (.int (0 : Int32))] [(.int (0 : Int32))])) _
      refine XS.iloadN X50.here hx rfl (hb hby at_95) rfl ?_
      show Steps p.tables e below (T50.setTop (mkF m 96 #[.val (.int k0), .val (.ref b10), .val (.int (9 : Int32)), .val (.int (0 : Int32))] [(.int (0 : Int32)), (.int (0 : Int32))])) _
      refine XS.icmpNo X50.here hx rfl (hb hby at_96) rfl (teq (by decide : (0 : Int32) = (0 : Int32))).2 ?_
      show Steps p.tables e below (T50.setTop (mkF m 99 #[.val (.int k0), .val (.ref b10), .val (.int (9 : Int32)), .val (.int (0 : Int32))] [])) _
      refine XS.iconst X50.here hx rfl (hb hby at_99) ?_
      show Steps p.tables e below (T50.setTop (mkF m 100 #[.val (.int k0), .val (.ref b10), .val (.int (9 : Int32)), .val (.int (0 : Int32))] [(.int (1 : Int32))])) _
      refine XS.goto X50.here hx rfl (pc0 := 100) (pc' := 104) rfl (hb hby at_100) (by decide) (by decide) ?_
      show Steps p.tables e below (T50.setTop (mkF m 104 #[.val (.int k0), .val (.ref b10), .val (.int (9 : Int32)), .val (.int (0 : Int32))] [(.int (1 : Int32))])) _
      exact k_)
    obtain ⟨fs, hr, hrun, hended, hW, hsame⟩ := X50.leave (v := some (.int (1 : Int32))) (fun h => by rw [Bd.returns] at h; cases h)
    refine ⟨_, _, pre51 _ ?_, hrun, hended, _, _, rfl, ?_, ⟨_, rfl⟩, hW, hsame.mono (by decide) (by decide)⟩
    · show Steps p.tables e below (T50.setTop (mkF m 104 #[.val (.int k0), .val (.ref b10), .val (.int (9 : Int32)), .val (.int (0 : Int32))] [(.int (1 : Int32))])) _
      exact retN X50 hx (t := .boolean) Bd.returns (by simp) (hb hby at_104) hr
    · show Q_0 Z k0 w_CLEAR w_ROAD w_CRATER w_HILL w_INDUSTRY w_LAKE w_ROUGH w_WOODS w_LAVA w_VOLCANO h0 n0 _ T50.heap _
      rw [e50]
      exact ⟨rfl, N50⟩
set_option maxRecDepth 65536 in
set_option maxHeartbeats 40000000 in
theorem comes_1 {Post : Tables → Env → Array Value → State → Outcome → State → Prop} (hpost : ∀ tb e args s v u, (limb_1_1.after args s (.returned v) u = true ∧ limb_1_2.after args s (.returned v) u = true ∧ True) → FrameEnd s (.returned v) u (Jvm.fieldLocs frame_1_writes args s ++ Jvm.arrayLocs frame_1_arrays args s ++ Jvm.staticLocs frame_1_statics s) 16 128 → Post tb e args s (.returned v) u) :
    ArmFor flags0 classFile x code maxLocals ret World_1 tables_1 room_1 Calls_1 rest_1 Pre_1 Post := by
  intro l hfl _ _ p e ha hc hk s m args below hf hA hF happ hP
  obtain ⟨hcalls, hrest, hpre⟩ := hP
  obtain ⟨-, -, -, hnamed, -, -, -, hat⟩ := (Spec.applies_iff hf).mp happ
  obtain ⟨hg, hn⟩ := and_e (Cond.before_iff.mp (show (Jvm.Cond.and given_1 narrow_1).before args s = true from hpre))
  obtain ⟨hcount, hg0⟩ := and_e hg
  obtain ⟨w0, rfl⟩ : ∃ w0 : Value, args = #[w0] := by
    have hs : args.size = 1 := by simpa [Cond.value, given_1] using hcount
    obtain ⟨L⟩ := args
    match L, hs with
    | [w0], _ => exact ⟨w0, rfl⟩
  have hw := fun d (hd : d ∈ tables_1) => atoms_spec (ws := Jvm.Cond.code x code maxLocals ret :: tables_1) hat d (List.mem_cons_of_mem _ hd)
  have hfit : Fit s := fun {y c} hc i hi => by
    obtain ⟨ha, rfl⟩ := Array.getElem?_eq_some_iff.mp hc
    have q := List.all_eq_true.mp ((Array.all_eq_true_iff_forall_mem.mp hF) _ (Array.getElem_mem ha)) i (List.mem_range.mpr hi)
    simpa [Array.getElem?_eq_getElem hi] using q
  obtain ⟨i0, ei0⟩ := is_v hg0
  obtain rfl : w0 = (.int i0) := Option.some.inj ei0
  obtain ⟨g0, hn_0⟩ := and_e hn
  obtain ⟨g1, hn_1⟩ := and_e hn_0
  obtain ⟨g2, hn_2⟩ := and_e hn_1
  obtain ⟨g3, hn_3⟩ := and_e hn_2
  obtain ⟨g4, hn_4⟩ := and_e hn_3
  obtain ⟨g5, hn_5⟩ := and_e hn_4
  obtain ⟨g6, hn_6⟩ := and_e hn_5
  obtain ⟨g7, hn_7⟩ := and_e hn_6
  obtain ⟨g8, hn_8⟩ := and_e hn_7
  obtain ⟨g9, hn_9⟩ := and_e hn_8
  obtain ⟨g10, hn_10⟩ := and_e hn_9
  obtain ⟨g11, hn_11⟩ := and_e hn_10
  obtain ⟨g12, hn_12⟩ := and_e hn_11
  obtain ⟨g13, hn_13⟩ := and_e hn_12
  obtain ⟨g14, hn_14⟩ := and_e hn_13
  obtain ⟨g15, hn_15⟩ := and_e hn_14
  obtain ⟨g16, hn_16⟩ := and_e hn_15
  obtain ⟨g17, hn_17⟩ := and_e hn_16
  obtain ⟨g18, hn_18⟩ := and_e hn_17
  have g19 := hn_18
  obtain ⟨w_CLEAR, ev_CLEAR, S_CLEAR, E_CLEAR⟩ := own_sta (hw _ (List.mem_of_getElem? (i := 3) rfl)) (hw _ (List.mem_of_getElem? (i := 4) rfl)) g0
  obtain ⟨w_ROAD, ev_ROAD, S_ROAD, E_ROAD⟩ := own_sta (hw _ (List.mem_of_getElem? (i := 3) rfl)) (hw _ (List.mem_of_getElem? (i := 7) rfl)) g1
  obtain ⟨w_CRATER, ev_CRATER, S_CRATER, E_CRATER⟩ := own_sta (hw _ (List.mem_of_getElem? (i := 3) rfl)) (hw _ (List.mem_of_getElem? (i := 9) rfl)) g2
  obtain ⟨w_HILL, ev_HILL, S_HILL, E_HILL⟩ := own_sta (hw _ (List.mem_of_getElem? (i := 3) rfl)) (hw _ (List.mem_of_getElem? (i := 11) rfl)) g3
  obtain ⟨w_INDUSTRY, ev_INDUSTRY, S_INDUSTRY, E_INDUSTRY⟩ := own_sta (hw _ (List.mem_of_getElem? (i := 3) rfl)) (hw _ (List.mem_of_getElem? (i := 13) rfl)) g4
  obtain ⟨w_LAKE, ev_LAKE, S_LAKE, E_LAKE⟩ := own_sta (hw _ (List.mem_of_getElem? (i := 3) rfl)) (hw _ (List.mem_of_getElem? (i := 15) rfl)) g5
  obtain ⟨w_ROUGH, ev_ROUGH, S_ROUGH, E_ROUGH⟩ := own_sta (hw _ (List.mem_of_getElem? (i := 3) rfl)) (hw _ (List.mem_of_getElem? (i := 17) rfl)) g6
  obtain ⟨w_WOODS, ev_WOODS, S_WOODS, E_WOODS⟩ := own_sta (hw _ (List.mem_of_getElem? (i := 3) rfl)) (hw _ (List.mem_of_getElem? (i := 19) rfl)) g7
  obtain ⟨w_LAVA, ev_LAVA, S_LAVA, E_LAVA⟩ := own_sta (hw _ (List.mem_of_getElem? (i := 3) rfl)) (hw _ (List.mem_of_getElem? (i := 21) rfl)) g8
  obtain ⟨w_VOLCANO, ev_VOLCANO, S_VOLCANO, E_VOLCANO⟩ := own_sta (hw _ (List.mem_of_getElem? (i := 3) rfl)) (hw _ (List.mem_of_getElem? (i := 23) rfl)) g9
  have F_HILL_ordinal : Fld s s.heap w_HILL "java/lang/Enum" "ordinal" "I" (.int (3 : Int32)) := own_fld ev_HILL g10
  have F_CLEAR_ordinal : Fld s s.heap w_CLEAR "java/lang/Enum" "ordinal" "I" (.int (0 : Int32)) := own_fld ev_CLEAR g11
  have F_ROAD_ordinal : Fld s s.heap w_ROAD "java/lang/Enum" "ordinal" "I" (.int (1 : Int32)) := own_fld ev_ROAD g12
  have F_INDUSTRY_ordinal : Fld s s.heap w_INDUSTRY "java/lang/Enum" "ordinal" "I" (.int (4 : Int32)) := own_fld ev_INDUSTRY g13
  have F_WOODS_ordinal : Fld s s.heap w_WOODS "java/lang/Enum" "ordinal" "I" (.int (7 : Int32)) := own_fld ev_WOODS g14
  have F_CRATER_ordinal : Fld s s.heap w_CRATER "java/lang/Enum" "ordinal" "I" (.int (2 : Int32)) := own_fld ev_CRATER g15
  have F_LAVA_ordinal : Fld s s.heap w_LAVA "java/lang/Enum" "ordinal" "I" (.int (8 : Int32)) := own_fld ev_LAVA g16
  have F_VOLCANO_ordinal : Fld s s.heap w_VOLCANO "java/lang/Enum" "ordinal" "I" (.int (9 : Int32)) := own_fld ev_VOLCANO g17
  have F_LAKE_ordinal : Fld s s.heap w_LAKE "java/lang/Enum" "ordinal" "I" (.int (5 : Int32)) := own_fld ev_LAKE g18
  have F_ROUGH_ordinal : Fld s s.heap w_ROUGH "java/lang/Enum" "ordinal" "I" (.int (6 : Int32)) := own_fld ev_ROUGH g19
  obtain ⟨n, o, h1, h2, h3, _, L, rfl, ⟨rfl, N⟩, hq⟩ := rm_0 l s _ hw tables_1 i0 w_CLEAR w_ROAD w_CRATER w_HILL w_INDUSTRY w_LAKE w_ROUGH w_WOODS w_LAVA w_VOLCANO s.heap s.heap.size (Nat.le_refl _) S_CLEAR S_ROAD S_CRATER S_HILL S_INDUSTRY S_LAKE S_ROUGH S_WOODS S_LAVA S_VOLCANO E_CLEAR E_ROAD E_CRATER E_HILL E_INDUSTRY E_LAKE E_ROUGH E_WOODS E_LAVA E_VOLCANO (Fld.ne F_ROAD_ordinal F_CLEAR_ordinal (by decide)) (Fld.ne F_CRATER_ordinal F_CLEAR_ordinal (by decide)) (Fld.ne F_CRATER_ordinal F_ROAD_ordinal (by decide)) (Fld.ne F_HILL_ordinal F_CLEAR_ordinal (by decide)) (Fld.ne F_HILL_ordinal F_ROAD_ordinal (by decide)) (Fld.ne F_INDUSTRY_ordinal F_CLEAR_ordinal (by decide)) (Fld.ne F_INDUSTRY_ordinal F_ROAD_ordinal (by decide)) (Fld.ne F_LAKE_ordinal F_CLEAR_ordinal (by decide)) (Fld.ne F_LAKE_ordinal F_ROAD_ordinal (by decide)) (Fld.ne F_ROUGH_ordinal F_CLEAR_ordinal (by decide)) (Fld.ne F_ROUGH_ordinal F_ROAD_ordinal (by decide)) (Fld.ne F_WOODS_ordinal F_CLEAR_ordinal (by decide)) (Fld.ne F_WOODS_ordinal F_ROAD_ordinal (by decide)) (Fld.ne F_LAVA_ordinal F_CLEAR_ordinal (by decide)) (Fld.ne F_LAVA_ordinal F_ROAD_ordinal (by decide)) (Fld.ne F_VOLCANO_ordinal F_CLEAR_ordinal (by decide)) (Fld.ne F_VOLCANO_ordinal F_ROAD_ordinal (by decide)) p e ha hc hk s m _ below hf ((Spec.applies_iff_loose hf).mp happ).1 ⟨rfl, State.Warmed39.refl s, rfl⟩ trivial
  refine ⟨n, _, h1, h2, h3, hpost _ _ _ _ _ _ ⟨Cond.after_iff.mpr rfl, Cond.after_iff.mpr (eq_i res_at (Term.int_eval (1)) rfl), trivial⟩ ⟨hq.1, hq.2.1, (hq.2.2.sift fun y hy => Or.inr (N y hy)).mono (by decide) (by decide)⟩⟩
theorem main_1_1 : Claimed_1_1 := comes_1 fun _ _ _ _ _ _ h hF => ⟨h.1, hF⟩
theorem main_1_2 : Claimed_1_2 := comes_1 fun _ _ _ _ _ _ h hF => ⟨h.2.1, hF⟩
end Jvm.Pilot.@@N@@
namespace Jvm.Pilot.@@N@@
open Jvm Jvm.ClassFile Sem Op Lib Jvm.Free Jvm.Stand Jvm.Pilot.@@N@@.Jvm.D
/-! MADE BY PROGRAM (witnessworld.py) out of the Statement's table words and the real class files: 13 classes; the members and pool entries that the words name. The judged class is class 1, her method 1. -/
namespace start1
open Jvm.ClassFile
def u (s : String) : CpInfo := .utf8 (stringToUtf16 s)
/-- a pool by its gaps: so many unusable entries, then the entry; so many at the end -/
def gap : Nat → List CpInfo → List CpInfo
  | 0, r => r
  | n + 1, r => .unusable :: gap n r
def poolList (es : List (Nat × CpInfo)) (last : Nat) : List CpInfo := es.foldr (fun e r => gap e.1 (e.2 :: r)) (gap last [])
def pool (es : List (Nat × CpInfo)) (last : Nat) : Array CpInfo := ⟨poolList es last⟩
def fileOf (pool : Array CpInfo) (this : Nat) (attrs : Array Attribute := #[]) (ms : Array MethodInfo := #[]) (fl : Nat := 33) (sup : Nat := 0) (ifs : Array Nat := #[]) (fds : Array FieldInfo := #[]) : ClassFile where
  minorVersion := 0
  majorVersion := 65
  constantPool := pool
  accessFlags := fl
  thisClass := this
  superClass := sup
  interfaces := ifs
  fields := fds
  methods := ms
  attributes := attrs
def plain (name : String) (sup : Option ClassId) : Class where
  name := name
  kind := .ordinary
  loader := none
  accessFlags := 33
  super := sup
  interfaces := #[]
  cf := none
  fields := #[]
  methods := #[]
  instanceTypes := #[]
  staticTypes := #[]
  resolved := #[]
  callSites := []
  init := .initialized
  statics := none
  mirror := none

def pool0 : Array CpInfo := pool [(5, u "<init>"), (0, u "()V"), (1, .class_ 10), (1, u "java/lang/Object")] 113

def k0m0 : Method := { name := "<init>", desc := "()V", sig := { parameters := [], returnType := none }, accessFlags := 1, code := none }
/-- java/lang/Object -/
def k0 : Class := { plain "java/lang/Object" none with
  accessFlags := 33
  interfaces := #[]
  cf := some (fileOf pool0 8 #[] #[{ accessFlags := 1, nameIndex := 5, descriptorIndex := 6, attributes := #[] }] 33 0 #[] #[])
  fields := #[]
  methods := #[k0m0]
  instanceTypes := #[]
  staticTypes := #[]
  resolved := Array.replicate 124 none
  statics := none }

def pool1 : Array CpInfo := pool [(2, .class_ 4), (1, u "java/lang/Object"), (0, u "<init>"), (0, u "()V"), (0, .class_ 8), (0, u "com/example/fissure/fissure/games/breakable/Terrain"), (0, .fieldref 7 10), (0, .nameAndType 11 12), (0, u "CLEAR"), (0, u "Lcom/example/fissure/fissure/games/breakable/Terrain;"), (0, .fieldref 7 14), (0, .nameAndType 15 12), (0, u "ROAD"), (0, .fieldref 7 17), (0, .nameAndType 18 12), (0, u "CRATER"), (0, .fieldref 7 20), (0, .nameAndType 21 12), (0, u "HILL"), (0, .fieldref 7 23), (0, .nameAndType 24 12), (0, u "INDUSTRY"), (0, .fieldref 7 26), (0, .nameAndType 27 12), (0, u "LAKE"), (0, .fieldref 7 29), (0, .nameAndType 30 12), (0, u "ROUGH"), (0, .fieldref 7 32), (0, .nameAndType 33 12), (0, u "WOODS"), (0, .fieldref 7 35), (0, .nameAndType 36 12), (0, u "LAVA"), (0, .fieldref 7 38), (0, .nameAndType 39 12), (0, u "VOLCANO"), (0, .integer 2147483647), (0, .methodref 7 42), (0, .nameAndType 43 44), (0, u "isClear"), (0, u "()Z"), (0, .class_ 46), (0, u "com/example/fissure/fissure/games/breakable/TerrainIsClearPinLaw"), (2, u "law"), (0, u "(I)Z")] 5

def k1m0 : Method := { name := "<init>", desc := "()V", sig := { parameters := [], returnType := none }, accessFlags := 1, code := none }
def k1c1 : Code := { maxStack := 4, maxLocals := 4, code := code, exceptionTable := #[], attributes := #[] }
def k1m1 : Method := { name := "law", desc := "(I)Z", sig := { parameters := [.int], returnType := some .boolean }, accessFlags := 9, code := some k1c1 }
/-- com/example/fissure/fissure/games/breakable/TerrainIsClearPinLaw -/
def k1 : Class := { plain "com/example/fissure/fissure/games/breakable/TerrainIsClearPinLaw" (some 0) with
  accessFlags := 49
  interfaces := #[]
  cf := some (fileOf pool1 45 #[] #[{ accessFlags := 1, nameIndex := 5, descriptorIndex := 6, attributes := #[] }, { accessFlags := 9, nameIndex := 49, descriptorIndex := 50, attributes := #[] }] 49 2 #[] #[])
  fields := #[]
  methods := #[k1m0, k1m1]
  instanceTypes := #[]
  staticTypes := #[]
  resolved := Array.replicate 56 none
  statics := none }

def pool2 : Array CpInfo := pool [(1, .class_ 2), (0, u "java/lang/constant/Constable"), (0, .class_ 4), (0, u "java/lang/Object")] 6

/-- java/lang/constant/Constable -/
def k2 : Class := { plain "java/lang/constant/Constable" (some 0) with
  accessFlags := 1537
  interfaces := #[]
  cf := some (fileOf pool2 1 #[] #[] 1537 3 #[] #[])
  fields := #[]
  methods := #[]
  instanceTypes := #[]
  staticTypes := #[]
  resolved := Array.replicate 11 none
  statics := none }

def pool3 : Array CpInfo := pool [(1, .class_ 2), (0, u "java/lang/Comparable"), (0, .class_ 4), (0, u "java/lang/Object")] 7

/-- java/lang/Comparable -/
def k3 : Class := { plain "java/lang/Comparable" (some 0) with
  accessFlags := 1537
  interfaces := #[]
  cf := some (fileOf pool3 1 #[] #[] 1537 3 #[] #[])
  fields := #[]
  methods := #[]
  instanceTypes := #[]
  staticTypes := #[]
  resolved := Array.replicate 12 none
  statics := none }

def pool4 : Array CpInfo := pool [(1, .class_ 2), (0, u "java/io/Serializable"), (0, .class_ 4), (0, u "java/lang/Object")] 2

/-- java/io/Serializable -/
def k4 : Class := { plain "java/io/Serializable" (some 0) with
  accessFlags := 1537
  interfaces := #[]
  cf := some (fileOf pool4 1 #[] #[] 1537 3 #[] #[])
  fields := #[]
  methods := #[]
  instanceTypes := #[]
  staticTypes := #[]
  resolved := Array.replicate 7 none
  statics := none }

def pool5 : Array CpInfo := pool [(2, .class_ 4), (1, u "java/lang/Enum"), (0, u "name"), (0, u "Ljava/lang/String;"), (2, u "ordinal"), (0, u "I"), (1, .class_ 14), (1, u "java/lang/Object"), (4, u "hash"), (86, .class_ 108), (1, u "java/lang/Enum$EnumDesc"), (2, .class_ 112), (0, u "java/lang/constant/Constable"), (0, .class_ 114), (0, u "java/lang/Comparable"), (0, .class_ 116), (0, u "java/io/Serializable")] 87

/-- java/lang/Enum -/
def k5 : Class := { plain "java/lang/Enum" (some 0) with
  accessFlags := 1057
  interfaces := #[2, 3, 4]
  cf := some (fileOf pool5 2 #[.nestMembers #[106]] #[] 1057 12 #[111, 113, 115] #[{ accessFlags := 18, nameIndex := 5, descriptorIndex := 6, attributes := #[] }, { accessFlags := 18, nameIndex := 9, descriptorIndex := 10, attributes := #[] }, { accessFlags := 2, nameIndex := 19, descriptorIndex := 10, attributes := #[] }])
  fields := #[{ name := "name", type := (.object "java/lang/String"), accessFlags := 18, slot := 0, constantValue := 0 }, { name := "ordinal", type := .int, accessFlags := 18, slot := 1, constantValue := 0 }, { name := "hash", type := .int, accessFlags := 2, slot := 2, constantValue := 0 }]
  methods := #[]
  instanceTypes := #[(.object "java/lang/String"), .int, .int]
  staticTypes := #[]
  resolved := Array.replicate 204 none
  statics := none }

def pool6 : Array CpInfo := pool [(1, .class_ 2), (0, u "com/example/fissure/fissure/games/breakable/Terrain"), (0, .fieldref 1 4), (0, .nameAndType 5 6), (0, u "CLEAR"), (0, u "Lcom/example/fissure/fissure/games/breakable/Terrain;"), (0, .fieldref 1 8), (0, .nameAndType 9 6), (0, u "ROAD"), (2, u "CRATER"), (2, u "HILL"), (2, u "INDUSTRY"), (2, u "LAKE"), (2, u "ROUGH"), (2, u "WOODS"), (2, u "LAVA"), (2, u "VOLCANO"), (2, u "$VALUES"), (0, u "[Lcom/example/fissure/fissure/games/breakable/Terrain;"), (6, .class_ 46), (1, u "java/lang/Enum"), (38, u "isClear"), (0, u "()Z")] 9

def k6c0 : Code := { maxStack := 2, maxLocals := 1, code := prog_29_method_4_code, exceptionTable := #[], attributes := #[] }
def k6m0 : Method := { name := "isClear", desc := "()Z", sig := { parameters := [], returnType := some .boolean }, accessFlags := 0, code := some k6c0 }
/-- com/example/fissure/fissure/games/breakable/Terrain -/
def k6 : Class := { plain "com/example/fissure/fissure/games/breakable/Terrain" (some 5) with
  accessFlags := 16432
  interfaces := #[]
  cf := some (fileOf pool6 1 #[] #[{ accessFlags := 0, nameIndex := 85, descriptorIndex := 86, attributes := #[] }] 16432 44 #[] #[{ accessFlags := 16409, nameIndex := 5, descriptorIndex := 6, attributes := #[] }, { accessFlags := 16409, nameIndex := 9, descriptorIndex := 6, attributes := #[] }, { accessFlags := 16409, nameIndex := 12, descriptorIndex := 6, attributes := #[] }, { accessFlags := 16409, nameIndex := 15, descriptorIndex := 6, attributes := #[] }, { accessFlags := 16409, nameIndex := 18, descriptorIndex := 6, attributes := #[] }, { accessFlags := 16409, nameIndex := 21, descriptorIndex := 6, attributes := #[] }, { accessFlags := 16409, nameIndex := 24, descriptorIndex := 6, attributes := #[] }, { accessFlags := 16409, nameIndex := 27, descriptorIndex := 6, attributes := #[] }, { accessFlags := 16409, nameIndex := 30, descriptorIndex := 6, attributes := #[] }, { accessFlags := 16409, nameIndex := 33, descriptorIndex := 6, attributes := #[] }, { accessFlags := 4122, nameIndex := 36, descriptorIndex := 37, attributes := #[] }])
  fields := #[{ name := "CLEAR", type := (.object "com/example/fissure/fissure/games/breakable/Terrain"), accessFlags := 16409, slot := 0, constantValue := 0 }, { name := "ROAD", type := (.object "com/example/fissure/fissure/games/breakable/Terrain"), accessFlags := 16409, slot := 1, constantValue := 0 }, { name := "CRATER", type := (.object "com/example/fissure/fissure/games/breakable/Terrain"), accessFlags := 16409, slot := 2, constantValue := 0 }, { name := "HILL", type := (.object "com/example/fissure/fissure/games/breakable/Terrain"), accessFlags := 16409, slot := 3, constantValue := 0 }, { name := "INDUSTRY", type := (.object "com/example/fissure/fissure/games/breakable/Terrain"), accessFlags := 16409, slot := 4, constantValue := 0 }, { name := "LAKE", type := (.object "com/example/fissure/fissure/games/breakable/Terrain"), accessFlags := 16409, slot := 5, constantValue := 0 }, { name := "ROUGH", type := (.object "com/example/fissure/fissure/games/breakable/Terrain"), accessFlags := 16409, slot := 6, constantValue := 0 }, { name := "WOODS", type := (.object "com/example/fissure/fissure/games/breakable/Terrain"), accessFlags := 16409, slot := 7, constantValue := 0 }, { name := "LAVA", type := (.object "com/example/fissure/fissure/games/breakable/Terrain"), accessFlags := 16409, slot := 8, constantValue := 0 }, { name := "VOLCANO", type := (.object "com/example/fissure/fissure/games/breakable/Terrain"), accessFlags := 16409, slot := 9, constantValue := 0 }, { name := "$VALUES", type := (.array (.object "com/example/fissure/fissure/games/breakable/Terrain")), accessFlags := 4122, slot := 10, constantValue := 0 }]
  methods := #[k6m0]
  instanceTypes := #[(.object "java/lang/String"), .int, .int]
  staticTypes := #[(.object "com/example/fissure/fissure/games/breakable/Terrain"), (.object "com/example/fissure/fissure/games/breakable/Terrain"), (.object "com/example/fissure/fissure/games/breakable/Terrain"), (.object "com/example/fissure/fissure/games/breakable/Terrain"), (.object "com/example/fissure/fissure/games/breakable/Terrain"), (.object "com/example/fissure/fissure/games/breakable/Terrain"), (.object "com/example/fissure/fissure/games/breakable/Terrain"), (.object "com/example/fissure/fissure/games/breakable/Terrain"), (.object "com/example/fissure/fissure/games/breakable/Terrain"), (.object "com/example/fissure/fissure/games/breakable/Terrain"), (.array (.object "com/example/fissure/fissure/games/breakable/Terrain"))]
  resolved := Array.replicate 96 none
  statics := some 0 }

def pool7 : Array CpInfo := pool [(1, u "java/lang/Cloneable"), (0, .class_ 1), (0, u "java/lang/Object"), (0, .class_ 3)] 3

/-- java/lang/Cloneable -/
def k7 : Class := { plain "java/lang/Cloneable" (some 0) with
  accessFlags := 1537
  interfaces := #[]
  cf := some (fileOf pool7 2 #[] #[] 1537 4 #[] #[])
  fields := #[]
  methods := #[]
  instanceTypes := #[]
  staticTypes := #[]
  resolved := Array.replicate 8 none
  statics := none }

/-- the primitive byte -/
def k8 : Class := { plain "byte" none with kind := .primitive 'B', accessFlags := 0x411 }
/-- [B -/
def k9 : Class := { plain "[B" (some 0) with kind := .array 8 .byte, interfaces := #[7, 4], accessFlags := 1041 }

/-- the primitive int -/
def k10 : Class := { plain "int" none with kind := .primitive 'I', accessFlags := 0x411 }
/-- [I -/
def k11 : Class := { plain "[I" (some 0) with kind := .array 10 .int, interfaces := #[7, 4], accessFlags := 1041 }

/-- [Lcom/example/fissure/fissure/games/breakable/Terrain; -/
def k12 : Class := { plain "[Lcom/example/fissure/fissure/games/breakable/Terrain;" (some 0) with kind := .array 6 (.object "com/example/fissure/fissure/games/breakable/Terrain"), interfaces := #[7, 4], accessFlags := 1041 }

def heap : Heap := #[{ cls := 6, slots := #[.ref 1, .ref 2, .ref 3, .ref 4, .ref 5, .ref 6, .ref 7, .ref 8, .ref 9, .ref 10, .null], vm := .statics 6 },
  { cls := 6, slots := #[.null, .int 0, .int 0], vm := .none },
  { cls := 6, slots := #[.null, .int 1, .int 0], vm := .none },
  { cls := 6, slots := #[.null, .int 2, .int 0], vm := .none },
  { cls := 6, slots := #[.null, .int 3, .int 0], vm := .none },
  { cls := 6, slots := #[.null, .int 4, .int 0], vm := .none },
  { cls := 6, slots := #[.null, .int 5, .int 0], vm := .none },
  { cls := 6, slots := #[.null, .int 6, .int 0], vm := .none },
  { cls := 6, slots := #[.null, .int 7, .int 0], vm := .none },
  { cls := 6, slots := #[.null, .int 8, .int 0], vm := .none },
  { cls := 6, slots := #[.null, .int 9, .int 0], vm := .none }]
def classes : Array Class := #[k0, k1, k2, k3, k4, k5, k6, k7, k8, k9, k10, k11, k12]
def interned : List (Array UInt16 × Addr) := []
def slotsUsed : Nat := 41
def theMethod : MethodId := ⟨1, 1⟩
def args0 : Array Value := #[.int 5]
def aboutOver (below : List Frame) : State where
  vm := { classes := classes, interned := interned.toArray }
  heap := heap
  slotsUsed := slotsUsed
  threads := #[{ frames := .invoking theMethod args0 :: below }]
def below0 : List Frame := [.native { method := ⟨0, 0⟩, args := #[] }]
def about1 : State := aboutOver below0
def p0 : Program := .bare "" "" ""
def e0 : Env := launch0.env 0 0 0
theorem w_frames : about1.frames = Frame.invoking theMethod args0 :: below0 := rfl
set_option maxRecDepth 65536 in
theorem w_args : argsFit about1.vm theMethod args0 = true := by decide +kernel
set_option maxRecDepth 65536 in
theorem w_heap : heapFits about1 = true := by decide +kernel
set_option maxRecDepth 65536 in
theorem w_runnable : about1.curStatus? = some .runnable := by decide +kernel
set_option maxRecDepth 65536 in
theorem w_alone : about1.alone = true := by decide +kernel
set_option maxRecDepth 65536 in
theorem w_named : about1.methodNamed? x = some theMethod := by decide +kernel
set_option maxRecDepth 65536 in
theorem w_hears : about1.hears theMethod below0 = true := by decide +kernel
set_option maxRecDepth 65536 in
theorem w_ripe : about1.ripe theMethod args0 below0 = true := by decide +kernel
theorem w_running : about1.status = .running := rfl
set_option maxRecDepth 65536 in
theorem w_room : about1.hasRoom e0.platform room_1 = true :=
  launch0.hasRoom_least _ room_1 (by decide +kernel) (by decide +kernel) (by decide +kernel) (by decide +kernel) (by decide +kernel) (by decide +kernel)
theorem allAtoms_all (ts : List Jvm.Cond) (a : Array Jvm.Value) (st : Jvm.State) : (allAtoms ts).before a st = ts.all (fun c => c.before a st) := by
  induction ts with
  | nil => rfl
  | cons c t ih =>
    show (Jvm.Cond.and c (allAtoms t)).before a st = _
    rw [Jvm.Cond.before_and, ih, List.all_cons]
def words1 : List Jvm.Cond := Jvm.Cond.code x code maxLocals ret :: tables_1
/-- a 'code' word, met by the world's own term for the bytes: nothing is compared byte by byte -/
theorem code_word {y : MethodName} {bytes : ByteArray} {mx : Nat} {rt : Option FieldType} {a : Array Value} {s : State} {m : MethodId} {meth : Method} {c : Code} (h1 : s.methodNamed? y = some m) (h2 : s.vm.method? m = some meth) (h3 : meth.code = some c) (h4 : c.code = bytes)
    (h5 : (c.maxLocals == mx && c.exceptionTable.isEmpty && decide (c.maxStack ≤ mostOperands) && decide (meth.sig.returnType = rt) && !meth.locks && decide (parseMethodDescriptor y.desc = some meth.sig)) = true) : (Jvm.Cond.code y bytes mx rt).before a s = true := by
  simp only [Bool.and_eq_true, beq_iff_eq, Bool.not_eq_true', decide_eq_true_eq] at h5
  obtain ⟨⟨⟨⟨⟨g1, g2⟩, g3⟩, g4⟩, g5⟩, g6⟩ := h5
  simp [Cond.before, Cond.holds, Cond.value, h1, h2, h3, h4, g1, g2, g3, g4, g5, g6]
def isCode : Jvm.Cond → Bool
  | .code _ _ _ _ => true
  | _ => false
theorem all_split {L : List Jvm.Cond} {P : Jvm.Cond → Bool} (h1 : L.all (fun c => isCode c || P c) = true) (h2 : ∀ c ∈ L.filter isCode, P c = true) : L.all P = true := by
  refine List.all_eq_true.mpr fun c hc => ?_
  have h := List.all_eq_true.mp h1 c hc
  rcases Bool.eq_false_or_eq_true (isCode c) with hi | hi
  · exact h2 c (List.mem_filter.mpr ⟨hc, hi⟩)
  · simpa [hi] using h
set_option maxRecDepth 65536 in
theorem w_c0 : (Jvm.Cond.code x code maxLocals ret).before args0 about1 = true := code_word (m := ⟨1, 1⟩) (meth := k1m1) (c := k1c1) (by decide +kernel) rfl rfl rfl (by decide +kernel)
set_option maxRecDepth 65536 in
theorem w_c1 : (Jvm.Cond.code ({ cls := "com/example/fissure/fissure/games/breakable/Terrain", name := "isClear", desc := "()Z" } : Jvm.MethodName) prog_29_method_4_code (1 : Nat) (Option.some Jvm.ClassFile.FieldType.boolean)).before args0 about1 = true := code_word (m := ⟨6, 0⟩) (meth := k6m0) (c := k6c0) (by decide +kernel) rfl rfl rfl (by decide +kernel)
def codes1 : List Jvm.Cond := [Jvm.Cond.code x code maxLocals ret, Jvm.Cond.code ({ cls := "com/example/fissure/fissure/games/breakable/Terrain", name := "isClear", desc := "()Z" } : Jvm.MethodName) prog_29_method_4_code (1 : Nat) (Option.some Jvm.ClassFile.FieldType.boolean)]
set_option maxRecDepth 65536 in
theorem codes_eq : words1.filter isCode = codes1 := rfl
theorem w_codes : ∀ c ∈ words1.filter isCode, c.before args0 about1 = true := by
  rw [codes_eq]
  intro c hc
  simp only [codes1, List.mem_cons, List.not_mem_nil, or_false] at hc
  rcases hc with rfl | rfl
  · exact w_c0
  · exact w_c1
set_option maxRecDepth 65536 in
theorem w_t1 : (words1.take 24).all (fun c => isCode c || c.before args0 about1) = true := by decide +kernel
set_option maxRecDepth 65536 in
theorem w_t2 : (words1.drop 24).all (fun c => isCode c || c.before args0 about1) = true := by decide +kernel
theorem w_tables : (allAtoms (Jvm.Cond.code x code maxLocals ret :: tables_1)).before args0 about1 = true := by
  rw [allAtoms_all]
  show words1.all (fun c => c.before args0 about1) = true
  refine all_split ?_ w_codes
  rw [← List.take_append_drop 24 words1, List.all_append, w_t1, w_t2]
  rfl
set_option maxRecDepth 65536 in
theorem w_case : (Jvm.Cond.and given_1 narrow_1).before args0 about1 = true := by decide +kernel
theorem w_applies : (headSpec (Jvm.Cond.code x code maxLocals ret :: tables_1) room_1).applies x e0.platform about1 = true :=
  (Spec.applies_iff w_frames).mpr ⟨w_running, w_runnable, w_alone, w_named, w_hears, w_ripe, w_room, w_tables⟩
theorem atStart : AtStart classFile x code maxLocals ret World_1 tables_1 room_1 Calls_1 rest_1 Pre_1 launch0 p0 e0 about1 theMethod args0 below0 :=
  ⟨lists_1, trivial, launch0.admits_env _ _ _, launch0.least_env, fairChoices_fair.cas, fairChoices_fair.clock, w_frames, w_args, w_heap, w_applies, trivial, trivial, w_case⟩
end start1
theorem witness_1 : WitnessClaimed_1 := ⟨start1.p0, start1.e0, start1.about1, start1.theMethod, start1.args0, start1.below0, start1.atStart⟩
end Jvm.Pilot.@@N@@
