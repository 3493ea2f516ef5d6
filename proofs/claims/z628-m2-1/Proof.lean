import JvmDerived
import JvmDerived.Pilot.@@N@@Statement
import JvmDerived.Pilot.@@N@@Code
set_option linter.unusedVariables false
set_option linter.unusedSimpArgs false
namespace Jvm.RoadKit
open Sem ClassFile Op Lib Jvm.Stand Jvm.Free Jvm.LawKit
section New
variable {p : Program} {l : Launch} {e : Env} {R : Room} {s : State} {m : MethodId} {args : Array Value} {below : List Frame} {meth : Method} {c : Code} {T : State} {locs : List Loc} {cells slots : Nat}
theorem retI (X : Stand p l e R s m args below meth c T locs cells slots) (hx : p.tables.exec = Jvm.exec) {pc : Nat} {Ls : Array Slot} {z : Int32} {rest : List Value} (hret : meth.sig.returnType = some .int) (hd : decode c.code pc = .ok (.ireturn, 1)) {fs : List Frame}
    (hl : ∀ (f : JFrame) (acts : List Action), f.method = m → f.locked = none → f.entered = [] → (doReturn e (T.setTop f) acts (some (.int z))).1 = T.setFrames fs) : Steps p.tables e below (T.setTop (mkF m pc Ls (.int z :: rest))) (T.setFrames fs) := by
  have hm' : T.vm.method? m = some meth := X.method'
  have hn : narrow .int (.int z) = .int z := rfl
  show Steps p.tables e below (T.setTop { method := m, pc := pc, locals := Ls, stack := _ :: rest, locked := none }) _
  jvm_step X.here [X.here.top, hx, hd, hm', hret, hn]
  first | (intro acts; rw [hl _ acts rfl rfl rfl]) | rw [hl _ _ rfl rfl rfl]
  exact Steps.refl _
theorem retA (X : Stand p l e R s m args below meth c T locs cells slots) (hx : p.tables.exec = Jvm.exec) {pc : Nat} {Ls : Array Slot} {w : Value} {t : FieldType} {rest : List Value} (hret : meth.sig.returnType = some t) (ht : t.isReference = true) (hw : w.isRef = true) (hn : narrow t w = w) (hd : decode c.code pc = .ok (.areturn, 1)) {fs : List Frame}
    (hl : ∀ (f : JFrame) (acts : List Action), f.method = m → f.locked = none → f.entered = [] → (doReturn e (T.setTop f) acts (some w)).1 = T.setFrames fs) : Steps p.tables e below (T.setTop (mkF m pc Ls (w :: rest))) (T.setFrames fs) :=
  retOut X hx hret hn (Or.inr (Or.inr (Or.inr (Or.inr ⟨rfl, ht, hw⟩)))) hd hl
end New
/-- all that was there is there still: a write to a cell above -/
theorem own_ext_wr {h0 h h' : Heap} {a : Addr} {sl : Nat} {v : Value} (E : Ext h0 h) (W : Wr h h' a sl v) (q : h0.size ≤ a) : Ext h0 h' := by
  refine ⟨Nat.le_trans E.1 (Keep.of_wr W).1, fun x c hc => (Keep.of_wr W).2.1 x c (E.2 x c hc) fun hm => ?_⟩
  cases List.mem_singleton.mp hm
  exact absurd (Array.getElem?_eq_some_iff.mp hc).1 (Nat.not_lt.mpr q)
theorem own_ext_keep {h0 h h' : Heap} {ws : List Addr} (E : Ext h0 h) (K : Keep h h' ws) (q : ∀ x ∈ ws, h0.size ≤ x) : Ext h0 h' :=
  ⟨Nat.le_trans E.1 K.1, fun x c hc => K.2.1 x c (E.2 x c hc) fun hm => absurd (Array.getElem?_eq_some_iff.mp hc).1 (Nat.not_lt.mpr (q x hm))⟩
theorem own_ext_trans {h0 h h' : Heap} (E : Ext h0 h) (E' : Ext h h') : Ext h0 h' := ⟨Nat.le_trans E.1 E'.1, fun x c hc => E'.2 x c (E.2 x c hc)⟩
theorem own_ext_refl (h : Heap) : Ext h h := ⟨Nat.le_refl _, fun _ _ q => q⟩
/-- a static that holds an object of this very class -/
theorem own_sta {Z : State} {a0 : Array Value} {C n d K : String} (wi : (Cond.initialized C).before a0 Z = true) (wl : (Cond.laysStatic C n d).before a0 Z = true) (hx : (Cond.exactly (.static C n d) K).value a0 Z none Z [] = some true) :
    ∃ w, (Term.static C n d).eval a0 Z none [] Z = some (.ref w) ∧ Sta Z Z.heap C n d (.ref w) ∧ Exa Z Z.heap w K := by
  obtain ⟨w, ev⟩ := exa_v hx
  exact ⟨w, ev, Sta.start ev (Or.inr ⟨wi, wl⟩), Exa.start ev hx⟩
/-- a field of an object that a term names, by an 'eq' of ints -/
theorem own_fld {Z : State} {a0 : Array Value} {t : Term} {w : Addr} {C n d : String} {k : Int32} (ev : t.eval a0 Z none [] Z = some (.ref w)) (h : (Cond.eq (.field t C n d) (.int k)).value a0 Z none Z [] = some true) : Fld Z Z.heap w C n d (.int k) :=
  Fld.start ((fld_at ev).symm.trans (eqv_i (F := .int k) rfl h))
end Jvm.RoadKit
namespace Jvm.RoadKit
open Sem ClassFile Op Lib Jvm.Stand Jvm.Free Jvm.LawKit
theorem own_fldR {Z : State} {a0 : Array Value} {t u : Term} {w w' : Addr} {C n d : String} (ev : t.eval a0 Z none [] Z = some (.ref w)) (eu : u.eval a0 Z none [] Z = some (.ref w')) (h : (Cond.eq (.field t C n d) u).value a0 Z none Z [] = some true) : Fld Z Z.heap w C n d (.ref w') := by
  refine Fld.start ((fld_at ev).symm.trans ?_)
  obtain ⟨x, y, hx, hy, -, -⟩ := cmp_v (Or.inl h)
  cases eu.symm.trans hy
  simp only [Cond.value, hx, hy] at h
  cases x <;> simp at h
  rw [hx, h]
theorem own_staA {Z : State} {a0 : Array Value} {C n d : String} {ty : FieldType} (wi : (Cond.initialized C).before a0 Z = true) (wl : (Cond.laysStatic C n d).before a0 Z = true) (hx : (Cond.arrayOf (.static C n d) ty).value a0 Z none Z [] = some true) :
    ∃ w, (Term.static C n d).eval a0 Z none [] Z = some (.ref w) ∧ Sta Z Z.heap C n d (.ref w) ∧ ∃ c, Arr Z Z.heap w c ty := by
  obtain ⟨w, ev⟩ := arr_v hx
  exact ⟨w, ev, Sta.start ev (Or.inr ⟨wi, wl⟩), Arr.start ev hx⟩
theorem own_len {Z : State} {a0 : Array Value} {t : Term} {w : Addr} {c : Cell} {ty : FieldType} {k : Int32} {n : Nat} (ev : t.eval a0 Z none [] Z = some (.ref w)) (A : Arr Z Z.heap w c ty) (h : (Cond.eq (.length t) (.int k)).value a0 Z none Z [] = some true) (hk : k.toInt = n) : c.slots.size = n := by
  have e := eqv_i (F := .int k) rfl h
  have ha : Z.arrayAt? w = some c := Arr.fin (Vm.Alike.refl _) A
  simp only [Term.eval, ev, ha, Option.bind_eq_bind, Option.bind_some] at e
  split at e
  · rename_i hl
    have q : c.slots.size.toInt32 = k := by simpa using e
    have q2 := len_toInt hl
    rw [q, hk] at q2
    omega
  · cases e
theorem own_elem {Z : State} {a0 : Array Value} {t : Term} {w : Addr} {c : Cell} {ty : FieldType} {k : Int32} {n : Nat} {v : Value} (ev : t.eval a0 Z none [] Z = some (.ref w)) (A : Arr Z Z.heap w c ty) (h : (Term.elem t (.int k)).eval a0 Z none [] Z = some v) (hk : k.toNatClampNeg = n) : c.slots[n]? = some v := by
  have q := (elem_in h ev (j := k) rfl A.1).2
  rw [hk] at q; exact q
theorem own_elN {Z : State} {a0 : Array Value} {t : Term} {w : Addr} {c : Cell} {ty : FieldType} {k : Int32} {n : Nat} (ev : t.eval a0 Z none [] Z = some (.ref w)) (A : Arr Z Z.heap w c ty) (h : (Cond.eq (.elem t (.int k)) .null).value a0 Z none Z [] = some true) (hk : k.toNatClampNeg = n) : c.slots[n]? = some .null := own_elem ev A (null_v h) hk
theorem own_elI {Z : State} {a0 : Array Value} {t : Term} {w : Addr} {c : Cell} {ty : FieldType} {k i : Int32} {n : Nat} (ev : t.eval a0 Z none [] Z = some (.ref w)) (A : Arr Z Z.heap w c ty) (h : (Cond.eq (.elem t (.int k)) (.int i)).value a0 Z none Z [] = some true) (hk : k.toNatClampNeg = n) : c.slots[n]? = some (.int i) := own_elem ev A (eqv_i (F := .int i) rfl h) hk
theorem own_elR {Z : State} {a0 : Array Value} {t u : Term} {w w' : Addr} {c : Cell} {ty : FieldType} {k : Int32} {n : Nat} (ev : t.eval a0 Z none [] Z = some (.ref w)) (A : Arr Z Z.heap w c ty) (eu : u.eval a0 Z none [] Z = some (.ref w')) (h : (Cond.eq (.elem t (.int k)) u).value a0 Z none Z [] = some true) (hk : k.toNatClampNeg = n) : c.slots[n]? = some (.ref w') := by
  refine own_elem ev A ?_ hk
  obtain ⟨x, y, hx, hy, -, -⟩ := cmp_v (Or.inl h)
  cases eu.symm.trans hy
  simp only [Cond.value, hx, hy] at h
  cases x <;> simp at h
  rw [hx, h]
end Jvm.RoadKit
namespace Jvm.Pilot.@@N@@
open Jvm Jvm.ClassFile Sem Op Lib Jvm.Free Jvm.Stand Jvm.LawKit Jvm.RoadKit Bundle Jvm.Pilot.@@N@@.Jvm.D
theorem own_eqI {args : Array Value} {first s : State} {o : Option Outcome} {idx : List Nat} {a b : Term} {i j : Int32} (ha : a.eval args first o idx s = some (.int i)) (hb : b.eval args first o idx s = some (.int j)) : (Cond.eq a b).value args first o s idx = some (decide (i = j)) := by simp [Cond.value, ha, hb]
def own_max (a b : Int32) : Int32 := if a < b then b else a
def own_min (a b : Int32) : Int32 := if b < a then b else a
def own_in (lo hi v : Int32) : Int32 := if v < lo then (0 : Int32) else if hi < v then (0 : Int32) else (1 : Int32)
def own_can (c : Int32) : Int32 := if (255 : Int32) < c then (0 : Int32) else (1 : Int32)
theorem own_in_no {lo hi v : Int32} (h : hi < lo) : own_in lo hi v = 0 := by
  unfold own_in
  split
  · rfl
  · split
    · rfl
    · rename_i h1 h2
      rw [Int32.lt_iff_toInt_lt] at *
      omega
theorem own_in_yes {lo hi v : Int32} (h0 : ¬ hi < lo) (h : own_min (own_max v lo) hi = v) : own_in lo hi v = 1 := by
  unfold own_min own_max at h
  unfold own_in
  rw [Int32.lt_iff_toInt_lt] at h0
  by_cases h1 : v < lo
  · rw [if_pos h1] at h
    rw [Int32.lt_iff_toInt_lt] at h1
    split at h
    · subst h; omega
    · subst h; omega
  · rw [if_neg h1] at h ⊢
    by_cases h2 : hi < v
    · rw [if_pos h2] at h
      subst h
      exact absurd h2 Int32.lt_irrefl
    · rw [if_neg h2]
theorem own_in_not {lo hi v : Int32} (h0 : ¬ hi < lo) (h : ¬ own_min (own_max v lo) hi = v) : own_in lo hi v = 0 := by
  unfold own_min own_max at h
  unfold own_in
  by_cases h1 : v < lo
  · rw [if_pos h1]
  · rw [if_neg h1] at h ⊢
    by_cases h2 : hi < v
    · rw [if_pos h2]
    · rw [if_neg h2] at h
      exact absurd rfl h
theorem own_c (x : Int32) : ¬ (255 : Int32) < ((x &&& (255 : Int32)).toUInt32.toUInt16.toUInt32.toInt32) := by
  rw [i2c_mask, Int32.lt_iff_toInt_lt]
  have h := (c_and x (255 : Int32) (by decide)).2
  omega
theorem own_can1 {c : Int32} (h : ¬ (255 : Int32) < c) : own_can c = 1 := by rw [own_can, if_neg h]
theorem ef_can (m : MethodId) (ch : Int32) : entryFrame m #[(.int ch)] 1 = mkF m 0 #[.val (.int ch)] [] := by first | (simp [entryFrame, mkF, argsToLocals, Value.category]; done) | rfl
def Q_can (Z : State) (ch : Int32) (h0 : Heap) (n0 : Nat) (v : Option Value) (h : Heap) (L : List Loc) : Prop := v = some (.int (own_can ch)) ∧ Fr n0 L ∧ h = h0
theorem pn_0 : plainName "java/lang/StringLatin1" = true := by first | (simp [plainName, overriddenIn]; done) | decide +kernel
theorem d2_0 : decode jdk_43_method_3_code 0 = .ok (.iload_n 0, 1) := by decide +kernel
theorem d2_1 : decode jdk_43_method_3_code 1 = .ok (.sipush 255, 3) := by decide +kernel
theorem d2_4 : decode jdk_43_method_3_code 4 = .ok (.if_icmp .gt 7, 3) := by decide +kernel
theorem d2_11 : decode jdk_43_method_3_code 11 = .ok (.iconst 0, 1) := by decide +kernel
theorem d2_12 : decode jdk_43_method_3_code 12 = .ok (.ireturn, 1) := by decide +kernel
theorem d2_7 : decode jdk_43_method_3_code 7 = .ok (.iconst 1, 1) := by decide +kernel
theorem d2_8 : decode jdk_43_method_3_code 8 = .ok (.goto 4, 3) := by decide +kernel
set_option maxRecDepth 65536 in
set_option maxHeartbeats 40000000 in
theorem rm_can (l : Launch) (Z : State) (a0 : Array Value) (hw : ∀ d ∈ tables_1, d.before a0 Z = true) (ws : List Jvm.Cond) (ch : Int32) (h0 : Heap) (n0 : Nat) (Z0 : n0 ≤ h0.size) :
    MetFree l (⟨"java/lang/StringLatin1", "canEncode", "(C)Z"⟩ : MethodName) (head1 (Jvm.Cond.code (⟨"java/lang/StringLatin1", "canEncode", "(C)Z"⟩ : MethodName) jdk_43_method_3_code 1 (some .boolean) :: ws) ({ frames := 0, cells := 0, slots := 0, locals := 0 } : Room)) (fun a_ U_ => a_ = #[(.int ch)] ∧ Z.Warmed39 U_.vm ∧ U_.heap = h0) (fun _ _ _ _ _ => True) (fun _ U_ o_ V_ => ∃ v_ L_, o_ = .returned v_ ∧ Q_can Z ch h0 n0 v_ V_.heap L_ ∧ FrameEnd U_ o_ V_ L_ ({ frames := 0, cells := 0, slots := 0, locals := 0 } : Room).cells ({ frames := 0, cells := 0, slots := 0, locals := 0 } : Room).slots) := by
  refine MetFree.of_bodySF (plainFor_of_name pn_0) hisR ?_
  intro p e s m args below meth c s₁ Bd hml0 hP hK
  obtain ⟨rfl, hZ, hh⟩ := hP
  have hx := Bd.exec
  have hby := Bd.bytes
  have hml : c.maxLocals = 1 := hml0
  have hown : s.vm.findClass "java/lang/StringLatin1" = some m.cls := findClass_of_methodNamed Bd.named
  have hnm := (name_of_methodNamed Bd.named Bd.method).1
  have X0 : Stand p l e ({ frames := 0, cells := 0, slots := 0, locals := 0 } : Room) s m #[(.int ch)] below meth c s₁ [] 0 0 := Stand.of_body Bd
  have e0 : s₁.heap = h0 := by rw [← hh, Bd.state]; rfl
  have N0 := Fr.nil n0
  have pre0 : ∀ t_, Steps p.tables e below (s₁.setTop (mkF m 0 #[.val (.int ch)] [])) t_ → Steps p.tables e below (s₁.setTop (entryFrame m #[(.int ch)] 1)) t_ := fun t_ k_ => castTop (ef_can m ch) k_
  have pre1 : ∀ t_, Steps p.tables e below (s₁.setTop (mkF m 4 #[.val (.int ch)] [(.int (255 : Int32)), (.int ch)])) t_ → Steps p.tables e below (s₁.setTop (entryFrame m #[(.int ch)] 1)) t_ := fun t_ k_ => pre0 t_ (by
    show Steps p.tables e below (s₁.setTop (mkF m 0 #[.val (.int ch)] [])) _
    refine XS.iloadN X0.here hx rfl (hb hby d2_0) rfl ?_
    show Steps p.tables e below (s₁.setTop (mkF m 1 #[.val (.int ch)] [(.int ch)])) _
    refine XS.sipush X0.here hx rfl (hb hby d2_1) ?_
    show Steps p.tables e below (s₁.setTop (mkF m 4 #[.val (.int ch)] [(.int (255 : Int32)), (.int ch)])) _
    exact k_)
  by_cases hc4_2 : (255 : Int32) < ch
  · have pre3 : ∀ t_, Steps p.tables e below (s₁.setTop (mkF m 12 #[.val (.int ch)] [(.int (0 : Int32))])) t_ → Steps p.tables e below (s₁.setTop (entryFrame m #[(.int ch)] 1)) t_ := fun t_ k_ => pre1 t_ (by
      show Steps p.tables e below (s₁.setTop (mkF m 4 #[.val (.int ch)] [(.int (255 : Int32)), (.int ch)])) _
      refine XS.icmpYes X0.here hx rfl (pc0 := 4) (pc' := 11) rfl (hb hby d2_4) rfl (tlt hc4_2).2.2.1 (by decide) (by decide) ?_
      show Steps p.tables e below (s₁.setTop (mkF m 11 #[.val (.int ch)] [])) _
      refine XS.iconst X0.here hx rfl (hb hby d2_11) ?_
      show Steps p.tables e below (s₁.setTop (mkF m 12 #[.val (.int ch)] [(.int (0 : Int32))])) _
      exact k_)
    obtain ⟨fs, hr, hrun, hended, hW, hsame⟩ := X0.leave (v := some (.int (0 : Int32))) (fun h => by rw [Bd.returns] at h; cases h)
    refine ⟨_, _, pre3 _ ?_, hrun, hended, _, _, rfl, ?_, ⟨_, rfl⟩, hW, hsame.mono (by decide) (by decide)⟩
    · show Steps p.tables e below (s₁.setTop (mkF m 12 #[.val (.int ch)] [(.int (0 : Int32))])) _
      exact retN X0 hx (t := .boolean) Bd.returns (by simp) (hb hby d2_12) hr
    · show Q_can Z ch h0 n0 _ s₁.heap _
      rw [e0]
      exact ⟨by rw [own_can, if_pos hc4_2], N0, rfl⟩
  · have pre4 : ∀ t_, Steps p.tables e below (s₁.setTop (mkF m 12 #[.val (.int ch)] [(.int (1 : Int32))])) t_ → Steps p.tables e below (s₁.setTop (entryFrame m #[(.int ch)] 1)) t_ := fun t_ k_ => pre1 t_ (by
      show Steps p.tables e below (s₁.setTop (mkF m 4 #[.val (.int ch)] [(.int (255 : Int32)), (.int ch)])) _
      refine XS.icmpNo X0.here hx rfl (hb hby d2_4) rfl (flt hc4_2).2.2.1 ?_
      show Steps p.tables e below (s₁.setTop (mkF m 7 #[.val (.int ch)] [])) _
      refine XS.iconst X0.here hx rfl (hb hby d2_7) ?_
      show Steps p.tables e below (s₁.setTop (mkF m 8 #[.val (.int ch)] [(.int (1 : Int32))])) _
      refine XS.goto X0.here hx rfl (pc0 := 8) (pc' := 12) rfl (hb hby d2_8) (by decide) (by decide) ?_
      show Steps p.tables e below (s₁.setTop (mkF m 12 #[.val (.int ch)] [(.int (1 : Int32))])) _
      exact k_)
    obtain ⟨fs, hr, hrun, hended, hW, hsame⟩ := X0.leave (v := some (.int (1 : Int32))) (fun h => by rw [Bd.returns] at h; cases h)
    refine ⟨_, _, pre4 _ ?_, hrun, hended, _, _, rfl, ?_, ⟨_, rfl⟩, hW, hsame.mono (by decide) (by decide)⟩
    · show Steps p.tables e below (s₁.setTop (mkF m 12 #[.val (.int ch)] [(.int (1 : Int32))])) _
      exact retN X0 hx (t := .boolean) Bd.returns (by simp) (hb hby d2_12) hr
    · show Q_can Z ch h0 n0 _ s₁.heap _
      rw [e0]
      exact ⟨by rw [own_can, if_neg hc4_2], N0, rfl⟩
theorem ef_toB (m : MethodId) (ch : Int32) : entryFrame m #[(.int ch)] 1 = mkF m 0 #[.val (.int ch)] [] := by first | (simp [entryFrame, mkF, argsToLocals, Value.category]; done) | rfl
def Q_toB (Z : State) (ch : Int32) (h0 : Heap) (n0 : Nat) (v : Option Value) (h : Heap) (L : List Loc) : Prop := (∃ r : Addr, v = some (.ref r)) ∧ Fr n0 L ∧ Ext h0 h
theorem d3_0 : decode jdk_43_method_46_code 0 = .ok (.iconst 1, 1) := by decide +kernel
theorem d3_1 : decode jdk_43_method_46_code 1 = .ok (.newarray .byte, 2) := by decide +kernel
theorem d3_3 : decode jdk_43_method_46_code 3 = .ok (.dup, 1) := by decide +kernel
theorem d3_4 : decode jdk_43_method_46_code 4 = .ok (.iconst 0, 1) := by decide +kernel
theorem d3_5 : decode jdk_43_method_46_code 5 = .ok (.iload_n 0, 1) := by decide +kernel
theorem d3_6 : decode jdk_43_method_46_code 6 = .ok (.i2b, 1) := by decide +kernel
theorem d3_7 : decode jdk_43_method_46_code 7 = .ok (.bastore, 1) := by decide +kernel
theorem d3_8 : decode jdk_43_method_46_code 8 = .ok (.areturn, 1) := by decide +kernel
set_option maxRecDepth 65536 in
set_option maxHeartbeats 40000000 in
theorem rm_toB (l : Launch) (Z : State) (a0 : Array Value) (hw : ∀ d ∈ tables_1, d.before a0 Z = true) (ws : List Jvm.Cond) (ch : Int32) (h0 : Heap) (n0 : Nat) (Z0 : n0 ≤ h0.size) :
    MetFree l (⟨"java/lang/StringLatin1", "toBytes", "(C)[B"⟩ : MethodName) (head1 (Jvm.Cond.code (⟨"java/lang/StringLatin1", "toBytes", "(C)[B"⟩ : MethodName) jdk_43_method_46_code 1 (some (.array .byte)) :: ws) ({ frames := 0, cells := 1, slots := 1, locals := 0 } : Room)) (fun a_ U_ => a_ = #[(.int ch)] ∧ Z.Warmed39 U_.vm ∧ U_.heap = h0) (fun _ _ _ _ _ => True) (fun _ U_ o_ V_ => ∃ v_ L_, o_ = .returned v_ ∧ Q_toB Z ch h0 n0 v_ V_.heap L_ ∧ FrameEnd U_ o_ V_ L_ ({ frames := 0, cells := 1, slots := 1, locals := 0 } : Room).cells ({ frames := 0, cells := 1, slots := 1, locals := 0 } : Room).slots) := by
  refine MetFree.of_bodySF (plainFor_of_name pn_0) hisR ?_
  intro p e s m args below meth c s₁ Bd hml0 hP hK
  obtain ⟨rfl, hZ, hh⟩ := hP
  have hx := Bd.exec
  have hby := Bd.bytes
  have hml : c.maxLocals = 1 := hml0
  have hown : s.vm.findClass "java/lang/StringLatin1" = some m.cls := findClass_of_methodNamed Bd.named
  have hnm := (name_of_methodNamed Bd.named Bd.method).1
  have X0 : Stand p l e ({ frames := 0, cells := 1, slots := 1, locals := 0 } : Room) s m #[(.int ch)] below meth c s₁ [] 0 0 := Stand.of_body Bd
  have e0 : s₁.heap = h0 := by rw [← hh, Bd.state]; rfl
  have N0 := Fr.nil n0
  have pre0 : ∀ t_, Steps p.tables e below (s₁.setTop (mkF m 0 #[.val (.int ch)] [])) t_ → Steps p.tables e below (s₁.setTop (entryFrame m #[(.int ch)] 1)) t_ := fun t_ k_ => castTop (ef_toB m ch) k_
  have O0 := own_ext_refl h0
  obtain ⟨T5, h5, k5, X5, e5, E5, A5, st5⟩ := newP X0 hx hZ (hw _ (List.mem_of_getElem? (i := 20) rfl)) e0 (g := (mkF m 1 #[.val (.int ch)] [(.int (1 : Int32))])) rfl (hb hby d3_1) rfl (by decide) (cap := 1) (by decide) (by decide) (by decide) (by decide)
  obtain ⟨b5, g5⟩ : ∃ z, z = h0.size := ⟨_, rfl⟩
  rw [← g5] at A5 st5
  have gg_b5 : n0 ≤ b5 := Nat.le_trans Z0 (Nat.le_of_eq g5.symm)
  have sz_b5 : h0.size ≤ b5 := Nat.le_trans O0.1 (Nat.le_of_eq g5.symm)
  have O6 := own_ext_trans O0 E5
  have Zs6 := Nat.le_trans Z0 (E5).1
  obtain ⟨T7, h7, X7, e7, W7, st7⟩ := stB X5 hx hZ e5 A5 (j := (0 : Int32)) (inb_of (sz_new _ _ _) ⟨by decide, by decide⟩) (g := (mkF m 7 #[.val (.int ch)] [(.int (ch.toInt8.toInt32)), (.int (0 : Int32)), (.ref b5), (.ref b5)])) rfl rfl (hb hby d3_7)
  have N7 := Fr.snoc X7 N0 gg_b5
  have O7 := own_ext_wr O6 W7 sz_b5
  have pre8 : ∀ t_, Steps p.tables e below (T7.setTop (mkF m 8 #[.val (.int ch)] [(.ref b5)])) t_ → Steps p.tables e below (s₁.setTop (entryFrame m #[(.int ch)] 1)) t_ := fun t_ k_ => pre0 t_ (by
    show Steps p.tables e below (s₁.setTop (mkF m 0 #[.val (.int ch)] [])) _
    refine XS.iconst X0.here hx rfl (hb hby d3_0) ?_
    show Steps p.tables e below (s₁.setTop (mkF m 1 #[.val (.int ch)] [(.int (1 : Int32))])) _
    refine st5 _ ?_
    show Steps p.tables e below (T5.setTop (mkF m 3 #[.val (.int ch)] [(.ref b5)])) _
    refine XS.dup X5.here hx rfl (hb hby d3_3) rfl rfl ?_
    show Steps p.tables e below (T5.setTop (mkF m 4 #[.val (.int ch)] [(.ref b5), (.ref b5)])) _
    refine XS.iconst X5.here hx rfl (hb hby d3_4) ?_
    show Steps p.tables e below (T5.setTop (mkF m 5 #[.val (.int ch)] [(.int (0 : Int32)), (.ref b5), (.ref b5)])) _
    refine XS.iloadN X5.here hx rfl (hb hby d3_5) rfl ?_
    show Steps p.tables e below (T5.setTop (mkF m 6 #[.val (.int ch)] [(.int ch), (.int (0 : Int32)), (.ref b5), (.ref b5)])) _
    refine XS.i2b X5.here hx rfl (hb hby d3_6) rfl ?_
    show Steps p.tables e below (T5.setTop (mkF m 7 #[.val (.int ch)] [(.int (ch.toInt8.toInt32)), (.int (0 : Int32)), (.ref b5), (.ref b5)])) _
    refine st7 _ ?_
    show Steps p.tables e below (T7.setTop (mkF m 8 #[.val (.int ch)] [(.ref b5)])) _
    exact k_)
  obtain ⟨fs, hr, hrun, hended, hW, hsame⟩ := X7.leave (v := some (.ref b5)) (fun h => by rw [Bd.returns] at h; cases h)
  refine ⟨_, _, pre8 _ ?_, hrun, hended, _, _, rfl, ?_, ⟨_, rfl⟩, hW, hsame.mono (by decide) (by decide)⟩
  · show Steps p.tables e below (T7.setTop (mkF m 8 #[.val (.int ch)] [(.ref b5)])) _
    exact retA X7 hx Bd.returns rfl rfl rfl (hb hby d3_8) hr
  · show Q_toB Z ch h0 n0 _ T7.heap _
    rw [e7]
    exact ⟨⟨b5, rfl⟩, N7, O7⟩
theorem ef_sinit (m : MethodId) (a : Addr) (r : Addr) : entryFrame m #[(.ref a), (.ref r), (.int (0 : Int32))] 3 = mkF m 0 #[.val (.ref a), .val (.ref r), .val (.int (0 : Int32))] [] := by first | (simp [entryFrame, mkF, argsToLocals, Value.category]; done) | rfl
def Q_sinit (Z : State) (a : Addr) (r : Addr) (o_value : Value) (o_coder : Value) (h0 : Heap) (n0 : Nat) (v : Option Value) (h : Heap) (L : List Loc) : Prop := v = none ∧ Fr n0 L ∧ Keep h0 h [a] ∧ Exa Z h a "java/lang/String"
theorem pn_1 : plainName "java/lang/String" = true := by first | (simp [plainName, overriddenIn]; done) | decide +kernel
theorem d4_0 : decode jdk_42_method_151_code 0 = .ok (.aload_n 0, 1) := by decide +kernel
theorem d4_1 : decode jdk_42_method_151_code 1 = .ok (.invokespecial 1, 3) := by decide +kernel
theorem d4_4 : decode jdk_42_method_151_code 4 = .ok (.aload_n 0, 1) := by decide +kernel
theorem d4_5 : decode jdk_42_method_151_code 5 = .ok (.aload_n 1, 1) := by decide +kernel
theorem d4_6 : decode jdk_42_method_151_code 6 = .ok (.putfield 9, 3) := by decide +kernel
theorem d4_9 : decode jdk_42_method_151_code 9 = .ok (.aload_n 0, 1) := by decide +kernel
theorem d4_10 : decode jdk_42_method_151_code 10 = .ok (.iload_n 2, 1) := by decide +kernel
theorem d4_11 : decode jdk_42_method_151_code 11 = .ok (.putfield 15, 3) := by decide +kernel
theorem d4_14 : decode jdk_42_method_151_code 14 = .ok (.return_, 1) := by decide +kernel
set_option maxRecDepth 65536 in
set_option maxHeartbeats 40000000 in
theorem rm_sinit (l : Launch) (Z : State) (a0 : Array Value) (hw : ∀ d ∈ tables_1, d.before a0 Z = true) (ws : List Jvm.Cond) (a : Addr) (r : Addr) (o_value : Value) (o_coder : Value) (h0 : Heap) (n0 : Nat) (Z0 : n0 ≤ h0.size) (E_a : Exa Z h0 a "java/lang/String") (gg_a : n0 ≤ a) (F_value : Fld Z h0 a "java/lang/String" "value" "[B" o_value) (F_coder : Fld Z h0 a "java/lang/String" "coder" "B" o_coder) :
    MetFree l (⟨"java/lang/String", "<init>", "([BB)V"⟩ : MethodName) (head1 (Jvm.Cond.code (⟨"java/lang/String", "<init>", "([BB)V"⟩ : MethodName) jdk_42_method_151_code 3 none :: ws) ({ frames := 1, cells := 0, slots := 0, locals := 12 } : Room)) (fun a_ U_ => a_ = #[(.ref a), (.ref r), (.int (0 : Int32))] ∧ Z.Warmed39 U_.vm ∧ U_.heap = h0) (fun _ _ _ _ _ => True) (fun _ U_ o_ V_ => ∃ v_ L_, o_ = .returned v_ ∧ Q_sinit Z a r o_value o_coder h0 n0 v_ V_.heap L_ ∧ FrameEnd U_ o_ V_ L_ ({ frames := 1, cells := 0, slots := 0, locals := 12 } : Room).cells ({ frames := 1, cells := 0, slots := 0, locals := 12 } : Room).slots) := by
  refine MetFree.of_bodySF (plainFor_of_name pn_1) hisR ?_
  intro p e s m args below meth c s₁ Bd hml0 hP hK
  obtain ⟨rfl, hZ, hh⟩ := hP
  have hx := Bd.exec
  have hby := Bd.bytes
  have hml : c.maxLocals = 3 := hml0
  have hown : s.vm.findClass "java/lang/String" = some m.cls := findClass_of_methodNamed Bd.named
  have hnm := (name_of_methodNamed Bd.named Bd.method).1
  have X0 : Stand p l e ({ frames := 1, cells := 0, slots := 0, locals := 12 } : Room) s m #[(.ref a), (.ref r), (.int (0 : Int32))] below meth c s₁ [] 0 0 := Stand.of_body Bd
  have e0 : s₁.heap = h0 := by rw [← hh, Bd.state]; rfl
  have N0 := Fr.nil n0
  have pre0 : ∀ t_, Steps p.tables e below (s₁.setTop (mkF m 0 #[.val (.ref a), .val (.ref r), .val (.int (0 : Int32))] [])) t_ → Steps p.tables e below (s₁.setTop (entryFrame m #[(.ref a), (.ref r), (.int (0 : Int32))] 3)) t_ := fun t_ k_ => castTop (ef_sinit m a r) k_
  have O0 := own_ext_refl h0
  have K0 := Keep.refl h0 [a]
  obtain ⟨T9, X9, e9, st9⟩ := initO X0 hx hZ hown (hw _ (List.mem_of_getElem? (i := 25) rfl)) (hw _ (List.mem_of_getElem? (i := 26) rfl)) (hw _ (List.mem_of_getElem? (i := 27) rfl)) e0 (g := (mkF m 1 #[.val (.ref a), .val (.ref r), .val (.int (0 : Int32))] [(.ref a)])) rfl (by rw [hml]; rfl) rfl (hb hby d4_1) (by decide) (W := 0) (by show 2 * 0 + _ ≤ _; exact Nat.le_of_eq rfl) (by decide)
  obtain ⟨T10, h10, X10, e10, W10, st10⟩ := putF X9 hx hZ hown (host := "") (Or.inl (hw _ (List.mem_of_getElem? (i := 28) rfl))) Via.refl e9 F_value E_a (Or.inr ⟨(hw _ (List.mem_of_getElem? (i := 29) rfl)), rfl, hnm⟩) (hw _ (List.mem_of_getElem? (i := 16) rfl)) (ty := (.array .byte)) (by decide) rfl rfl (g := (mkF m 6 #[.val (.ref a), .val (.ref r), .val (.int (0 : Int32))] [(.ref r), (.ref a)])) rfl rfl (hb hby d4_6)
  have N10 := Fr.snoc X10 N0 gg_a
  have K10 := Keep.wr K0 W10 (Or.inl (List.mem_of_getElem? (i := 0) rfl))
  have Zs10 := Nat.le_trans Z0 (Keep.of_wr W10).1
  have c11 : Exa Z h10 a "java/lang/String" := E_a.wr W10
  have c12 : Fld Z h10 a "java/lang/String" "value" "[B" (.ref r) := F_value.same W10
  have c13 : Fld Z h10 a "java/lang/String" "coder" "B" o_coder := F_coder.other W10 (Or.inr (slot_ne (Or.inr (hw _ (List.mem_of_getElem? (i := 31) rfl))) (Or.inr (hw _ (List.mem_of_getElem? (i := 29) rfl))) (by decide) (t := .byte) (t' := (.array .byte)) (by decide) (by decide)))
  obtain ⟨T14, h14, X14, e14, W14, st14⟩ := putFN X10 hx hZ hown (hw _ (List.mem_of_getElem? (i := 30) rfl)) Via.refl e10 c13 c11 (Or.inr ⟨(hw _ (List.mem_of_getElem? (i := 31) rfl)), rfl, hnm⟩) (hw _ (List.mem_of_getElem? (i := 16) rfl)) (ty := .byte) (v' := (.int (0 : Int32))) (by decide) rfl (by decide) (g := (mkF m 11 #[.val (.ref a), .val (.ref r), .val (.int (0 : Int32))] [(.int (0 : Int32)), (.ref a)])) rfl rfl (hb hby d4_11)
  have N14 := Fr.snoc X14 N10 gg_a
  have K14 := Keep.wr K10 W14 (Or.inl (List.mem_of_getElem? (i := 0) rfl))
  have Zs14 := Nat.le_trans Zs10 (Keep.of_wr W14).1
  have c15 : Exa Z h14 a "java/lang/String" := c11.wr W14
  have c16 : Fld Z h14 a "java/lang/String" "value" "[B" (.ref r) := c12.other W14 (Or.inr (slot_ne (Or.inr (hw _ (List.mem_of_getElem? (i := 29) rfl))) (Or.inr (hw _ (List.mem_of_getElem? (i := 31) rfl))) (by decide) (t := (.array .byte)) (t' := .byte) (by decide) (by decide)))
  have c17 : Fld Z h14 a "java/lang/String" "coder" "B" (.int (0 : Int32)) := c13.same W14
  have pre18 : ∀ t_, Steps p.tables e below (T14.setTop (mkF m 14 #[.val (.ref a), .val (.ref r), .val (.int (0 : Int32))] [])) t_ → Steps p.tables e below (s₁.setTop (entryFrame m #[(.ref a), (.ref r), (.int (0 : Int32))] 3)) t_ := fun t_ k_ => pre0 t_ (by
    show Steps p.tables e below (s₁.setTop (mkF m 0 #[.val (.ref a), .val (.ref r), .val (.int (0 : Int32))] [])) _
    refine XS.aloadN X0.here hx rfl (hb hby d4_0) rfl rfl ?_
    show Steps p.tables e below (s₁.setTop (mkF m 1 #[.val (.ref a), .val (.ref r), .val (.int (0 : Int32))] [(.ref a)])) _
    refine st9 _ ?_
    show Steps p.tables e below (T9.setTop (mkF m 4 #[.val (.ref a), .val (.ref r), .val (.int (0 : Int32))] [])) _
    refine XS.aloadN X9.here hx rfl (hb hby d4_4) rfl rfl ?_
    show Steps p.tables e below (T9.setTop (mkF m 5 #[.val (.ref a), .val (.ref r), .val (.int (0 : Int32))] [(.ref a)])) _
    refine XS.aloadN X9.here hx rfl (hb hby d4_5) rfl rfl ?_
    show Steps p.tables e below (T9.setTop (mkF m 6 #[.val (.ref a), .val (.ref r), .val (.int (0 : Int32))] [(.ref r), (.ref a)])) _
    refine st10 _ ?_
    show Steps p.tables e below (T10.setTop (mkF m 9 #[.val (.ref a), .val (.ref r), .val (.int (0 : Int32))] [])) _
    refine XS.aloadN X10.here hx rfl (hb hby d4_9) rfl rfl ?_
    show Steps p.tables e below (T10.setTop (mkF m 10 #[.val (.ref a), .val (.ref r), .val (.int (0 : Int32))] [(.ref a)])) _
    refine XS.iloadN X10.here hx rfl (hb hby d4_10) rfl ?_
    show Steps p.tables e below (T10.setTop (mkF m 11 #[.val (.ref a), .val (.ref r), .val (.int (0 : Int32))] [(.int (0 : Int32)), (.ref a)])) _
    refine st14 _ ?_
    show Steps p.tables e below (T14.setTop (mkF m 14 #[.val (.ref a), .val (.ref r), .val (.int (0 : Int32))] [])) _
    exact k_)
  obtain ⟨fs, hr, hrun, hended, hW, hsame⟩ := X14.leave (v := none) (fun _ => rfl)
  refine ⟨_, _, pre18 _ ?_, hrun, hended, _, _, rfl, ?_, ⟨_, rfl⟩, hW, hsame.mono (by decide) (by decide)⟩
  · show Steps p.tables e below (T14.setTop (mkF m 14 #[.val (.ref a), .val (.ref r), .val (.int (0 : Int32))] [])) _
    exact X14.returnOut hx Bd.returns (hb hby d4_14) hr
  · show Q_sinit Z a r o_value o_coder h0 n0 _ T14.heap _
    rw [e14]
    exact ⟨rfl, N14, K14, c15⟩
theorem ef_vof (m : MethodId) (ch : Int32) : entryFrame m #[(.int ch)] 1 = mkF m 0 #[.val (.int ch)] [] := by first | (simp [entryFrame, mkF, argsToLocals, Value.category]; done) | rfl
def Q_vof (Z : State) (ch : Int32) (cs : Int32) (h0 : Heap) (n0 : Nat) (v : Option Value) (h : Heap) (L : List Loc) : Prop := (∃ r : Addr, v = some (.ref r)) ∧ Fr n0 L ∧ Ext h0 h
theorem d1_0 : decode jdk_42_method_139_code 0 = .ok (.getstatic 38, 3) := by decide +kernel
theorem d1_3 : decode jdk_42_method_139_code 3 = .ok (.ifCond .eq 23, 3) := by decide +kernel
theorem d1_6 : decode jdk_42_method_139_code 6 = .ok (.iload_n 0, 1) := by decide +kernel
theorem d1_7 : decode jdk_42_method_139_code 7 = .ok (.invokestatic 1015, 3) := by decide +kernel
theorem pd_0 : parseMethodDescriptor "(C)Z" = some ⟨[.char], some .boolean⟩ := by decide +kernel
theorem d1_10 : decode jdk_42_method_139_code 10 = .ok (.ifCond .eq 16, 3) := by decide +kernel
theorem d1_13 : decode jdk_42_method_139_code 13 = .ok (.new 10, 3) := by decide +kernel
theorem d1_16 : decode jdk_42_method_139_code 16 = .ok (.dup, 1) := by decide +kernel
theorem d1_17 : decode jdk_42_method_139_code 17 = .ok (.iload_n 0, 1) := by decide +kernel
theorem d1_18 : decode jdk_42_method_139_code 18 = .ok (.invokestatic 1018, 3) := by decide +kernel
theorem pd_1 : parseMethodDescriptor "(C)[B" = some ⟨[.char], some (.array .byte)⟩ := by decide +kernel
theorem d1_21 : decode jdk_42_method_139_code 21 = .ok (.iconst 0, 1) := by decide +kernel
theorem d1_22 : decode jdk_42_method_139_code 22 = .ok (.invokespecial 209, 3) := by decide +kernel
theorem pd_2 : parseMethodDescriptor "([BB)V" = some ⟨[(.array .byte), .byte], none⟩ := by decide +kernel
theorem d1_25 : decode jdk_42_method_139_code 25 = .ok (.areturn, 1) := by decide +kernel
set_option maxRecDepth 65536 in
set_option maxHeartbeats 40000000 in
theorem rm_vof (l : Launch) (Z : State) (a0 : Array Value) (hw : ∀ d ∈ tables_1, d.before a0 Z = true) (ws : List Jvm.Cond) (ch : Int32) (cs : Int32) (h0 : Heap) (n0 : Nat) (Z0 : n0 ≤ h0.size) (S_CS : Sta Z h0 "java/lang/String" "COMPACT_STRINGS" "Z" (.int cs)) (hcs : ¬ cs = (0 : Int32)) (hch : ¬ (255 : Int32) < ch) :
    MetFree l (⟨"java/lang/String", "valueOf", "(C)Ljava/lang/String;"⟩ : MethodName) (head1 (Jvm.Cond.code (⟨"java/lang/String", "valueOf", "(C)Ljava/lang/String;"⟩ : MethodName) jdk_42_method_139_code 1 (some (.object "java/lang/String")) :: ws) ({ frames := 2, cells := 2, slots := 5, locals := 28 } : Room)) (fun a_ U_ => a_ = #[(.int ch)] ∧ Z.Warmed39 U_.vm ∧ U_.heap = h0) (fun _ _ _ _ _ => True) (fun _ U_ o_ V_ => ∃ v_ L_, o_ = .returned v_ ∧ Q_vof Z ch cs h0 n0 v_ V_.heap L_ ∧ FrameEnd U_ o_ V_ L_ ({ frames := 2, cells := 2, slots := 5, locals := 28 } : Room).cells ({ frames := 2, cells := 2, slots := 5, locals := 28 } : Room).slots) := by
  refine MetFree.of_bodySF (plainFor_of_name pn_1) hisR ?_
  intro p e s m args below meth c s₁ Bd hml0 hP hK
  obtain ⟨rfl, hZ, hh⟩ := hP
  have hx := Bd.exec
  have hby := Bd.bytes
  have hml : c.maxLocals = 1 := hml0
  have hown : s.vm.findClass "java/lang/String" = some m.cls := findClass_of_methodNamed Bd.named
  have hnm := (name_of_methodNamed Bd.named Bd.method).1
  have X0 : Stand p l e ({ frames := 2, cells := 2, slots := 5, locals := 28 } : Room) s m #[(.int ch)] below meth c s₁ [] 0 0 := Stand.of_body Bd
  have e0 : s₁.heap = h0 := by rw [← hh, Bd.state]; rfl
  have N0 := Fr.nil n0
  have pre0 : ∀ t_, Steps p.tables e below (s₁.setTop (mkF m 0 #[.val (.int ch)] [])) t_ → Steps p.tables e below (s₁.setTop (entryFrame m #[(.int ch)] 1)) t_ := fun t_ k_ => castTop (ef_vof m ch) k_
  have O0 := own_ext_refl h0
  obtain ⟨T19, X19, e19, st19⟩ := getS2 X0 hx hZ hown (host := "") (Or.inl (hw _ (List.mem_of_getElem? (i := 10) rfl))) Via.refl e0 S_CS (g := (mkF m 0 #[.val (.int ch)] [])) rfl (hb hby d1_0)
  obtain ⟨v20, _, ⟨T20, L20, k20, n20⟩, -, X20, ⟨Lc20, hQ20, l20, y20, z20⟩, st20⟩ := Jvm.LawKit.callS X19 hx (y := (⟨"java/lang/StringLatin1", "canEncode", "(C)Z"⟩ : MethodName)) hown (mvT hZ (hw _ (List.mem_of_getElem? (i := 11) rfl))) (mvT hZ (hw _ (List.mem_of_getElem? (i := 12) rfl))) (mvT hZ (hw _ (List.mem_of_getElem? (i := 13) rfl))) (mvT hZ (hw _ (List.mem_of_getElem? (i := 14) rfl))) (by decide) (backOf (W := 0) (rm_can l Z a0 hw [] ch h0 n0 Z0 ) hZ (hw _ (List.mem_of_getElem? (i := 14) rfl)) (hw _ (List.mem_of_getElem? (i := 13) rfl)) (by decide) (by decide)) (g := (mkF m 7 #[.val (.int ch)] [(.int ch)])) rfl (by rw [hml]; rfl) (argsL := [(.int ch)]) (rest := []) (lenOf pd_0 rfl) rfl (by show 2 * 0 + _ ≤ _; exact Nat.le_of_eq rfl) (hb hby d1_7) (fun _ _ => ⟨rfl, e19, (by decide : 0 + 0 ≤ _), (by decide : 0 + 0 ≤ _)⟩)
  dsimp only [Pt.U, Pt.locs, Pt.cells, Pt.slots] at X20 l20 y20 z20 st20 hQ20
  subst l20 y20 z20
  obtain ⟨hv20, N20q, e20⟩ := hQ20
  have N20 := Fr.app N0 N20q
  have hw20 : v20 = some (.int (1 : Int32)) := hv20.trans (congrArg (fun z => some (Value.int z)) (own_can1 hch))
  subst hw20
  obtain ⟨T21, h21, X21, e21, E21, A21, D21, -, st21⟩ := newO X20 hx hZ hown (hw _ (List.mem_of_getElem? (i := 15) rfl)) (hw _ (List.mem_of_getElem? (i := 16) rfl)) (hw _ (List.mem_of_getElem? (i := 8) rfl)) e20 (g := (mkF m 13 #[.val (.int ch)] [])) rfl (hb hby d1_13) (by decide) (by decide)
  obtain ⟨b21, g21⟩ : ∃ z, z = h0.size := ⟨_, rfl⟩
  rw [← g21] at A21 D21 st21
  have gg_b21 : n0 ≤ b21 := Nat.le_trans Z0 (Nat.le_of_eq g21.symm)
  have sz_b21 : h0.size ≤ b21 := Nat.le_trans O0.1 (Nat.le_of_eq g21.symm)
  have O22 := own_ext_trans O0 E21
  have Zs22 := Nat.le_trans Z0 (E21).1
  have c23 : Sta Z h21 "java/lang/String" "COMPACT_STRINGS" "Z" (.int cs) := S_CS.ext E21
  have F21_value : Fld Z h21 b21 "java/lang/String" "value" "[B" .null := D21 (Or.inr (hw _ (List.mem_of_getElem? (i := 29) rfl))) (ty := (.array .byte)) (by decide)
  have F21_coder : Fld Z h21 b21 "java/lang/String" "coder" "B" (.int (0 : Int32)) := D21 (Or.inr (hw _ (List.mem_of_getElem? (i := 31) rfl))) (ty := .byte) (by decide)
  obtain ⟨v24, _, ⟨T24, L24, k24, n24⟩, -, X24, ⟨Lc24, hQ24, l24, y24, z24⟩, st24⟩ := Jvm.LawKit.callS X21 hx (y := (⟨"java/lang/StringLatin1", "toBytes", "(C)[B"⟩ : MethodName)) hown (mvT hZ (hw _ (List.mem_of_getElem? (i := 17) rfl))) (mvT hZ (hw _ (List.mem_of_getElem? (i := 18) rfl))) (mvT hZ (hw _ (List.mem_of_getElem? (i := 13) rfl))) (mvT hZ (hw _ (List.mem_of_getElem? (i := 19) rfl))) (by decide) (backOf (W := 2) (rm_toB l Z a0 hw [] ch h21 n0 Zs22 ) hZ (hw _ (List.mem_of_getElem? (i := 19) rfl)) (hw _ (List.mem_of_getElem? (i := 13) rfl)) (by decide) (by decide)) (g := (mkF m 18 #[.val (.int ch)] [(.int ch), (.ref b21), (.ref b21)])) rfl (by rw [hml]; rfl) (argsL := [(.int ch)]) (rest := [(.ref b21), (.ref b21)]) (lenOf pd_1 rfl) rfl (by show 2 * 0 + _ ≤ _; exact Nat.le_of_eq rfl) (hb hby d1_18) (fun _ _ => ⟨rfl, e21, (by decide : 1 + 1 ≤ _), (by decide : 4 + 1 ≤ _)⟩)
  dsimp only [Pt.U, Pt.locs, Pt.cells, Pt.slots] at X24 l24 y24 z24 st24 hQ24
  subst l24 y24 z24
  obtain ⟨⟨r24, hv24⟩, N24q, M24⟩ := hQ24
  have N24 := Fr.app N20 N24q
  subst hv24
  have O25 := own_ext_trans O22 M24
  have Zs25 := Nat.le_trans Zs22 (M24).1
  have c26 : Sta Z T24.heap "java/lang/String" "COMPACT_STRINGS" "Z" (.int cs) := c23.ext M24
  have c27 : Exa Z T24.heap b21 "java/lang/String" := A21.ext M24
  have c28 : Fld Z T24.heap b21 "java/lang/String" "value" "[B" .null := F21_value.ext M24
  have c29 : Fld Z T24.heap b21 "java/lang/String" "coder" "B" (.int (0 : Int32)) := F21_coder.ext M24
  obtain ⟨v30, _, ⟨T30, L30, k30, n30⟩, -, X30, ⟨Lc30, hQ30, l30, y30, z30⟩, st30⟩ := X24.specialBack hx (y := (⟨"java/lang/String", "<init>", "([BB)V"⟩ : MethodName)) rfl hown (mvT hZ (hw _ (List.mem_of_getElem? (i := 21) rfl))) (mvT hZ (hw _ (List.mem_of_getElem? (i := 22) rfl))) (mvT hZ (hw _ (List.mem_of_getElem? (i := 24) rfl))) (by decide) (backOf (W := 1) (rm_sinit l Z a0 hw [] b21 r24 .null (.int (0 : Int32)) T24.heap n0 Zs25 c27 gg_b21 c28 c29) hZ (hw _ (List.mem_of_getElem? (i := 24) rfl)) (hw _ (List.mem_of_getElem? (i := 8) rfl)) (by decide) (by decide)) (g := (mkF m 22 #[.val (.int ch)] [(.int (0 : Int32)), (.ref r24), (.ref b21), (.ref b21)])) rfl (by rw [hml]; rfl) (Steps.refl _) (a := b21) (argsL := [(.ref r24), (.int (0 : Int32))]) (rest := [(.ref b21)]) (lenOf pd_2 rfl) rfl (by show 2 * 0 + _ ≤ _; exact Nat.le_of_eq rfl) (hb hby d1_22) (fun _ _ => ⟨rfl, rfl, (by decide : 2 + 0 ≤ _), (by decide : 5 + 0 ≤ _)⟩)
  dsimp only [Pt.U, Pt.locs, Pt.cells, Pt.slots] at X30 l30 y30 z30 st30 hQ30
  subst l30 y30 z30
  obtain ⟨hv30, N30q, M30⟩ := hQ30
  have N30 := Fr.app N24 N30q
  subst hv30
  obtain ⟨K30k, E30x⟩ := M30
  have O31 := own_ext_keep O25 K30k (allS sz_b21 all0)
  have Zs31 := Nat.le_trans Zs25 K30k.1
  have c32 : Exa Z T30.heap b21 "java/lang/String" := c27.keep K30k
  have pre33 : ∀ t_, Steps p.tables e below (T30.setTop (mkF m 25 #[.val (.int ch)] [(.ref b21)])) t_ → Steps p.tables e below (s₁.setTop (entryFrame m #[(.int ch)] 1)) t_ := fun t_ k_ => pre0 t_ (by
    show Steps p.tables e below (s₁.setTop (mkF m 0 #[.val (.int ch)] [])) _
    refine st19 _ ?_
    show Steps p.tables e below (T19.setTop (mkF m 3 #[.val (.int ch)] [(.int cs)])) _
    refine XS.ifNo X19.here hx rfl (hb hby d1_3) rfl ((if0 _ _).trans (feq hcs).1) ?_
    show Steps p.tables e below (T19.setTop (mkF m 6 #[.val (.int ch)] [])) _
    refine XS.iloadN X19.here hx rfl (hb hby d1_6) rfl ?_
    show Steps p.tables e below (T19.setTop (mkF m 7 #[.val (.int ch)] [(.int ch)])) _
    refine st20 _ ?_
    show Steps p.tables e below (T20.setTop (mkF m 10 #[.val (.int ch)] [(.int (1 : Int32))])) _
    refine XS.ifNo X20.here hx rfl (hb hby d1_10) rfl ((if0 _ _).trans (feq (by decide : ¬ ((1 : Int32) = (0 : Int32)))).1) ?_
    show Steps p.tables e below (T20.setTop (mkF m 13 #[.val (.int ch)] [])) _
    refine st21 _ ?_
    show Steps p.tables e below (T21.setTop (mkF m 16 #[.val (.int ch)] [(.ref b21)])) _
    refine XS.dup X21.here hx rfl (hb hby d1_16) rfl rfl ?_
    show Steps p.tables e below (T21.setTop (mkF m 17 #[.val (.int ch)] [(.ref b21), (.ref b21)])) _
    refine XS.iloadN X21.here hx rfl (hb hby d1_17) rfl ?_
    show Steps p.tables e below (T21.setTop (mkF m 18 #[.val (.int ch)] [(.int ch), (.ref b21), (.ref b21)])) _
    refine st24 _ ?_
    show Steps p.tables e below (T24.setTop (mkF m 21 #[.val (.int ch)] [(.ref r24), (.ref b21), (.ref b21)])) _
    refine XS.iconst X24.here hx rfl (hb hby d1_21) ?_
    show Steps p.tables e below (T24.setTop (mkF m 22 #[.val (.int ch)] [(.int (0 : Int32)), (.ref r24), (.ref b21), (.ref b21)])) _
    refine st30.trans ?_
    show Steps p.tables e below (T30.setTop (mkF m 25 #[.val (.int ch)] [(.ref b21)])) _
    exact k_)
  obtain ⟨fs, hr, hrun, hended, hW, hsame⟩ := X30.leave (v := some (.ref b21)) (fun h => by rw [Bd.returns] at h; cases h)
  refine ⟨_, _, pre33 _ ?_, hrun, hended, _, _, rfl, ?_, ⟨_, rfl⟩, hW, hsame.mono (by decide) (by decide)⟩
  · show Steps p.tables e below (T30.setTop (mkF m 25 #[.val (.int ch)] [(.ref b21)])) _
    exact retA X30 hx Bd.returns rfl rfl rfl (hb hby d1_25) hr
  · show Q_vof Z ch cs h0 n0 _ T30.heap _
    exact ⟨⟨b21, rfl⟩, N30, O31⟩
theorem ef_max (m : MethodId) (ma : Int32) (mb : Int32) : entryFrame m #[(.int ma), (.int mb)] 2 = mkF m 0 #[.val (.int ma), .val (.int mb)] [] := by first | (simp [entryFrame, mkF, argsToLocals, Value.category]; done) | rfl
def Q_max (Z : State) (ma : Int32) (mb : Int32) (h0 : Heap) (n0 : Nat) (v : Option Value) (h : Heap) (L : List Loc) : Prop := v = some (.int (own_max ma mb)) ∧ Fr n0 L ∧ h = h0
theorem d7_0 : decode jdk_29_method_65_code 0 = .ok (.iload_n 0, 1) := by decide +kernel
theorem d7_1 : decode jdk_29_method_65_code 1 = .ok (.iload_n 1, 1) := by decide +kernel
theorem d7_2 : decode jdk_29_method_65_code 2 = .ok (.if_icmp .lt 7, 3) := by decide +kernel
theorem d7_9 : decode jdk_29_method_65_code 9 = .ok (.iload_n 1, 1) := by decide +kernel
theorem d7_10 : decode jdk_29_method_65_code 10 = .ok (.ireturn, 1) := by decide +kernel
theorem d7_5 : decode jdk_29_method_65_code 5 = .ok (.iload_n 0, 1) := by decide +kernel
theorem d7_6 : decode jdk_29_method_65_code 6 = .ok (.goto 4, 3) := by decide +kernel
set_option maxRecDepth 65536 in
set_option maxHeartbeats 40000000 in
theorem rm_max (l : Launch) (Z : State) (a0 : Array Value) (hw : ∀ d ∈ tables_1, d.before a0 Z = true) (ws : List Jvm.Cond) (ma : Int32) (mb : Int32) (h0 : Heap) (n0 : Nat) (Z0 : n0 ≤ h0.size) :
    MetFree l (⟨"java/lang/Math", "max", "(II)I"⟩ : MethodName) (head1 (Jvm.Cond.code (⟨"java/lang/Math", "max", "(II)I"⟩ : MethodName) jdk_29_method_65_code 2 (some .int) :: ws) ({ frames := 0, cells := 0, slots := 0, locals := 0 } : Room)) (fun a_ U_ => a_ = #[(.int ma), (.int mb)] ∧ Z.Warmed39 U_.vm ∧ U_.heap = h0) (fun _ _ _ _ _ => True) (fun _ U_ o_ V_ => ∃ v_ L_, o_ = .returned v_ ∧ Q_max Z ma mb h0 n0 v_ V_.heap L_ ∧ FrameEnd U_ o_ V_ L_ ({ frames := 0, cells := 0, slots := 0, locals := 0 } : Room).cells ({ frames := 0, cells := 0, slots := 0, locals := 0 } : Room).slots) := by
  refine MetFree.of_bodySF (Jvm.Free.JP.mathPlain rfl (by decide +kernel)) hisR ?_
  intro p e s m args below meth c s₁ Bd hml0 hP hK
  obtain ⟨rfl, hZ, hh⟩ := hP
  have hx := Bd.exec
  have hby := Bd.bytes
  have hml : c.maxLocals = 2 := hml0
  have hown : s.vm.findClass "java/lang/Math" = some m.cls := findClass_of_methodNamed Bd.named
  have hnm := (name_of_methodNamed Bd.named Bd.method).1
  have X0 : Stand p l e ({ frames := 0, cells := 0, slots := 0, locals := 0 } : Room) s m #[(.int ma), (.int mb)] below meth c s₁ [] 0 0 := Stand.of_body Bd
  have e0 : s₁.heap = h0 := by rw [← hh, Bd.state]; rfl
  have N0 := Fr.nil n0
  have pre0 : ∀ t_, Steps p.tables e below (s₁.setTop (mkF m 0 #[.val (.int ma), .val (.int mb)] [])) t_ → Steps p.tables e below (s₁.setTop (entryFrame m #[(.int ma), (.int mb)] 2)) t_ := fun t_ k_ => castTop (ef_max m ma mb) k_
  have pre34 : ∀ t_, Steps p.tables e below (s₁.setTop (mkF m 2 #[.val (.int ma), .val (.int mb)] [(.int mb), (.int ma)])) t_ → Steps p.tables e below (s₁.setTop (entryFrame m #[(.int ma), (.int mb)] 2)) t_ := fun t_ k_ => pre0 t_ (by
    show Steps p.tables e below (s₁.setTop (mkF m 0 #[.val (.int ma), .val (.int mb)] [])) _
    refine XS.iloadN X0.here hx rfl (hb hby d7_0) rfl ?_
    show Steps p.tables e below (s₁.setTop (mkF m 1 #[.val (.int ma), .val (.int mb)] [(.int ma)])) _
    refine XS.iloadN X0.here hx rfl (hb hby d7_1) rfl ?_
    show Steps p.tables e below (s₁.setTop (mkF m 2 #[.val (.int ma), .val (.int mb)] [(.int mb), (.int ma)])) _
    exact k_)
  by_cases hc2_35 : ma < mb
  · have pre36 : ∀ t_, Steps p.tables e below (s₁.setTop (mkF m 10 #[.val (.int ma), .val (.int mb)] [(.int mb)])) t_ → Steps p.tables e below (s₁.setTop (entryFrame m #[(.int ma), (.int mb)] 2)) t_ := fun t_ k_ => pre34 t_ (by
      show Steps p.tables e below (s₁.setTop (mkF m 2 #[.val (.int ma), .val (.int mb)] [(.int mb), (.int ma)])) _
      refine XS.icmpYes X0.here hx rfl (pc0 := 2) (pc' := 9) rfl (hb hby d7_2) rfl (tlt hc2_35).1 (by decide) (by decide) ?_
      show Steps p.tables e below (s₁.setTop (mkF m 9 #[.val (.int ma), .val (.int mb)] [])) _
      refine XS.iloadN X0.here hx rfl (hb hby d7_9) rfl ?_
      show Steps p.tables e below (s₁.setTop (mkF m 10 #[.val (.int ma), .val (.int mb)] [(.int mb)])) _
      exact k_)
    obtain ⟨fs, hr, hrun, hended, hW, hsame⟩ := X0.leave (v := some (.int mb)) (fun h => by rw [Bd.returns] at h; cases h)
    refine ⟨_, _, pre36 _ ?_, hrun, hended, _, _, rfl, ?_, ⟨_, rfl⟩, hW, hsame.mono (by decide) (by decide)⟩
    · show Steps p.tables e below (s₁.setTop (mkF m 10 #[.val (.int ma), .val (.int mb)] [(.int mb)])) _
      exact retI X0 hx Bd.returns (hb hby d7_10) hr
    · show Q_max Z ma mb h0 n0 _ s₁.heap _
      rw [e0]
      exact ⟨by rw [own_max, if_pos hc2_35], N0, rfl⟩
  · have pre37 : ∀ t_, Steps p.tables e below (s₁.setTop (mkF m 10 #[.val (.int ma), .val (.int mb)] [(.int ma)])) t_ → Steps p.tables e below (s₁.setTop (entryFrame m #[(.int ma), (.int mb)] 2)) t_ := fun t_ k_ => pre34 t_ (by
      show Steps p.tables e below (s₁.setTop (mkF m 2 #[.val (.int ma), .val (.int mb)] [(.int mb), (.int ma)])) _
      refine XS.icmpNo X0.here hx rfl (hb hby d7_2) rfl (flt hc2_35).1 ?_
      show Steps p.tables e below (s₁.setTop (mkF m 5 #[.val (.int ma), .val (.int mb)] [])) _
      refine XS.iloadN X0.here hx rfl (hb hby d7_5) rfl ?_
      show Steps p.tables e below (s₁.setTop (mkF m 6 #[.val (.int ma), .val (.int mb)] [(.int ma)])) _
      refine XS.goto X0.here hx rfl (pc0 := 6) (pc' := 10) rfl (hb hby d7_6) (by decide) (by decide) ?_
      show Steps p.tables e below (s₁.setTop (mkF m 10 #[.val (.int ma), .val (.int mb)] [(.int ma)])) _
      exact k_)
    obtain ⟨fs, hr, hrun, hended, hW, hsame⟩ := X0.leave (v := some (.int ma)) (fun h => by rw [Bd.returns] at h; cases h)
    refine ⟨_, _, pre37 _ ?_, hrun, hended, _, _, rfl, ?_, ⟨_, rfl⟩, hW, hsame.mono (by decide) (by decide)⟩
    · show Steps p.tables e below (s₁.setTop (mkF m 10 #[.val (.int ma), .val (.int mb)] [(.int ma)])) _
      exact retI X0 hx Bd.returns (hb hby d7_10) hr
    · show Q_max Z ma mb h0 n0 _ s₁.heap _
      rw [e0]
      exact ⟨by rw [own_max, if_neg hc2_35], N0, rfl⟩
theorem ef_min (m : MethodId) (ma : Int32) (mb : Int32) : entryFrame m #[(.int ma), (.int mb)] 2 = mkF m 0 #[.val (.int ma), .val (.int mb)] [] := by first | (simp [entryFrame, mkF, argsToLocals, Value.category]; done) | rfl
def Q_min (Z : State) (ma : Int32) (mb : Int32) (h0 : Heap) (n0 : Nat) (v : Option Value) (h : Heap) (L : List Loc) : Prop := v = some (.int (own_min ma mb)) ∧ Fr n0 L ∧ h = h0
theorem d8_0 : decode jdk_29_method_69_code 0 = .ok (.iload_n 0, 1) := by decide +kernel
theorem d8_1 : decode jdk_29_method_69_code 1 = .ok (.iload_n 1, 1) := by decide +kernel
theorem d8_2 : decode jdk_29_method_69_code 2 = .ok (.if_icmp .gt 7, 3) := by decide +kernel
theorem d8_9 : decode jdk_29_method_69_code 9 = .ok (.iload_n 1, 1) := by decide +kernel
theorem d8_10 : decode jdk_29_method_69_code 10 = .ok (.ireturn, 1) := by decide +kernel
theorem d8_5 : decode jdk_29_method_69_code 5 = .ok (.iload_n 0, 1) := by decide +kernel
theorem d8_6 : decode jdk_29_method_69_code 6 = .ok (.goto 4, 3) := by decide +kernel
set_option maxRecDepth 65536 in
set_option maxHeartbeats 40000000 in
theorem rm_min (l : Launch) (Z : State) (a0 : Array Value) (hw : ∀ d ∈ tables_1, d.before a0 Z = true) (ws : List Jvm.Cond) (ma : Int32) (mb : Int32) (h0 : Heap) (n0 : Nat) (Z0 : n0 ≤ h0.size) :
    MetFree l (⟨"java/lang/Math", "min", "(II)I"⟩ : MethodName) (head1 (Jvm.Cond.code (⟨"java/lang/Math", "min", "(II)I"⟩ : MethodName) jdk_29_method_69_code 2 (some .int) :: ws) ({ frames := 0, cells := 0, slots := 0, locals := 0 } : Room)) (fun a_ U_ => a_ = #[(.int ma), (.int mb)] ∧ Z.Warmed39 U_.vm ∧ U_.heap = h0) (fun _ _ _ _ _ => True) (fun _ U_ o_ V_ => ∃ v_ L_, o_ = .returned v_ ∧ Q_min Z ma mb h0 n0 v_ V_.heap L_ ∧ FrameEnd U_ o_ V_ L_ ({ frames := 0, cells := 0, slots := 0, locals := 0 } : Room).cells ({ frames := 0, cells := 0, slots := 0, locals := 0 } : Room).slots) := by
  refine MetFree.of_bodySF (Jvm.Free.JP.mathPlain rfl (by decide +kernel)) hisR ?_
  intro p e s m args below meth c s₁ Bd hml0 hP hK
  obtain ⟨rfl, hZ, hh⟩ := hP
  have hx := Bd.exec
  have hby := Bd.bytes
  have hml : c.maxLocals = 2 := hml0
  have hown : s.vm.findClass "java/lang/Math" = some m.cls := findClass_of_methodNamed Bd.named
  have hnm := (name_of_methodNamed Bd.named Bd.method).1
  have X0 : Stand p l e ({ frames := 0, cells := 0, slots := 0, locals := 0 } : Room) s m #[(.int ma), (.int mb)] below meth c s₁ [] 0 0 := Stand.of_body Bd
  have e0 : s₁.heap = h0 := by rw [← hh, Bd.state]; rfl
  have N0 := Fr.nil n0
  have pre0 : ∀ t_, Steps p.tables e below (s₁.setTop (mkF m 0 #[.val (.int ma), .val (.int mb)] [])) t_ → Steps p.tables e below (s₁.setTop (entryFrame m #[(.int ma), (.int mb)] 2)) t_ := fun t_ k_ => castTop (ef_min m ma mb) k_
  have pre38 : ∀ t_, Steps p.tables e below (s₁.setTop (mkF m 2 #[.val (.int ma), .val (.int mb)] [(.int mb), (.int ma)])) t_ → Steps p.tables e below (s₁.setTop (entryFrame m #[(.int ma), (.int mb)] 2)) t_ := fun t_ k_ => pre0 t_ (by
    show Steps p.tables e below (s₁.setTop (mkF m 0 #[.val (.int ma), .val (.int mb)] [])) _
    refine XS.iloadN X0.here hx rfl (hb hby d8_0) rfl ?_
    show Steps p.tables e below (s₁.setTop (mkF m 1 #[.val (.int ma), .val (.int mb)] [(.int ma)])) _
    refine XS.iloadN X0.here hx rfl (hb hby d8_1) rfl ?_
    show Steps p.tables e below (s₁.setTop (mkF m 2 #[.val (.int ma), .val (.int mb)] [(.int mb), (.int ma)])) _
    exact k_)
  by_cases hc2_39 : mb < ma
  · have pre40 : ∀ t_, Steps p.tables e below (s₁.setTop (mkF m 10 #[.val (.int ma), .val (.int mb)] [(.int mb)])) t_ → Steps p.tables e below (s₁.setTop (entryFrame m #[(.int ma), (.int mb)] 2)) t_ := fun t_ k_ => pre38 t_ (by
      show Steps p.tables e below (s₁.setTop (mkF m 2 #[.val (.int ma), .val (.int mb)] [(.int mb), (.int ma)])) _
      refine XS.icmpYes X0.here hx rfl (pc0 := 2) (pc' := 9) rfl (hb hby d8_2) rfl (tlt hc2_39).2.2.1 (by decide) (by decide) ?_
      show Steps p.tables e below (s₁.setTop (mkF m 9 #[.val (.int ma), .val (.int mb)] [])) _
      refine XS.iloadN X0.here hx rfl (hb hby d8_9) rfl ?_
      show Steps p.tables e below (s₁.setTop (mkF m 10 #[.val (.int ma), .val (.int mb)] [(.int mb)])) _
      exact k_)
    obtain ⟨fs, hr, hrun, hended, hW, hsame⟩ := X0.leave (v := some (.int mb)) (fun h => by rw [Bd.returns] at h; cases h)
    refine ⟨_, _, pre40 _ ?_, hrun, hended, _, _, rfl, ?_, ⟨_, rfl⟩, hW, hsame.mono (by decide) (by decide)⟩
    · show Steps p.tables e below (s₁.setTop (mkF m 10 #[.val (.int ma), .val (.int mb)] [(.int mb)])) _
      exact retI X0 hx Bd.returns (hb hby d8_10) hr
    · show Q_min Z ma mb h0 n0 _ s₁.heap _
      rw [e0]
      exact ⟨by rw [own_min, if_pos hc2_39], N0, rfl⟩
  · have pre41 : ∀ t_, Steps p.tables e below (s₁.setTop (mkF m 10 #[.val (.int ma), .val (.int mb)] [(.int ma)])) t_ → Steps p.tables e below (s₁.setTop (entryFrame m #[(.int ma), (.int mb)] 2)) t_ := fun t_ k_ => pre38 t_ (by
      show Steps p.tables e below (s₁.setTop (mkF m 2 #[.val (.int ma), .val (.int mb)] [(.int mb), (.int ma)])) _
      refine XS.icmpNo X0.here hx rfl (hb hby d8_2) rfl (flt hc2_39).2.2.1 ?_
      show Steps p.tables e below (s₁.setTop (mkF m 5 #[.val (.int ma), .val (.int mb)] [])) _
      refine XS.iloadN X0.here hx rfl (hb hby d8_5) rfl ?_
      show Steps p.tables e below (s₁.setTop (mkF m 6 #[.val (.int ma), .val (.int mb)] [(.int ma)])) _
      refine XS.goto X0.here hx rfl (pc0 := 6) (pc' := 10) rfl (hb hby d8_6) (by decide) (by decide) ?_
      show Steps p.tables e below (s₁.setTop (mkF m 10 #[.val (.int ma), .val (.int mb)] [(.int ma)])) _
      exact k_)
    obtain ⟨fs, hr, hrun, hended, hW, hsame⟩ := X0.leave (v := some (.int ma)) (fun h => by rw [Bd.returns] at h; cases h)
    refine ⟨_, _, pre41 _ ?_, hrun, hended, _, _, rfl, ?_, ⟨_, rfl⟩, hW, hsame.mono (by decide) (by decide)⟩
    · show Steps p.tables e below (s₁.setTop (mkF m 10 #[.val (.int ma), .val (.int mb)] [(.int ma)])) _
      exact retI X0 hx Bd.returns (hb hby d8_10) hr
    · show Q_min Z ma mb h0 n0 _ s₁.heap _
      rw [e0]
      exact ⟨by rw [own_min, if_neg hc2_39], N0, rfl⟩
theorem ef_vinit (m : MethodId) (a : Addr) (r : Addr) (ix : Int32) (ty : Addr) (lo : Int32) (up : Int32) (ini : Int32) : entryFrame m #[(.ref a), (.ref r), (.int ix), (.ref ty), (.int lo), (.int up), (.int ini)] 7 = mkF m 0 #[.val (.ref a), .val (.ref r), .val (.int ix), .val (.ref ty), .val (.int lo), .val (.int up), .val (.int ini)] [] := by first | (simp [entryFrame, mkF, argsToLocals, Value.category]; done) | rfl
def Q_vinit (Z : State) (a : Addr) (r : Addr) (ix : Int32) (ty : Addr) (lo : Int32) (up : Int32) (ini : Int32) (o_name : Value) (o_index : Value) (o_type : Value) (o_lower : Value) (o_upper : Value) (o_initial : Value) (h0 : Heap) (n0 : Nat) (v : Option Value) (h : Heap) (L : List Loc) : Prop := v = none ∧ Fr n0 L ∧ Keep h0 h [a] ∧ Exa Z h a "com/example/atropos/atropos/lang/Variable" ∧ Fld Z h a "com/example/atropos/atropos/lang/Variable" "lower" "I" (.int lo) ∧ Fld Z h a "com/example/atropos/atropos/lang/Variable" "upper" "I" (.int up)
theorem pn_2 : plainName "com/example/atropos/atropos/lang/Variable" = true := by first | (simp [plainName, overriddenIn]; done) | decide +kernel
theorem d6_0 : decode prog_60_method_1_code 0 = .ok (.aload_n 0, 1) := by decide +kernel
theorem d6_1 : decode prog_60_method_1_code 1 = .ok (.invokespecial 1, 3) := by decide +kernel
theorem d6_4 : decode prog_60_method_1_code 4 = .ok (.aload_n 0, 1) := by decide +kernel
theorem d6_5 : decode prog_60_method_1_code 5 = .ok (.aload_n 1, 1) := by decide +kernel
theorem d6_6 : decode prog_60_method_1_code 6 = .ok (.putfield 7, 3) := by decide +kernel
theorem d6_9 : decode prog_60_method_1_code 9 = .ok (.aload_n 0, 1) := by decide +kernel
theorem d6_10 : decode prog_60_method_1_code 10 = .ok (.iload_n 2, 1) := by decide +kernel
theorem d6_11 : decode prog_60_method_1_code 11 = .ok (.putfield 13, 3) := by decide +kernel
theorem d6_14 : decode prog_60_method_1_code 14 = .ok (.aload_n 0, 1) := by decide +kernel
theorem d6_15 : decode prog_60_method_1_code 15 = .ok (.aload_n 3, 1) := by decide +kernel
theorem d6_16 : decode prog_60_method_1_code 16 = .ok (.putfield 17, 3) := by decide +kernel
theorem d6_19 : decode prog_60_method_1_code 19 = .ok (.aload_n 0, 1) := by decide +kernel
theorem d6_20 : decode prog_60_method_1_code 20 = .ok (.iload 4, 2) := by decide +kernel
theorem d6_22 : decode prog_60_method_1_code 22 = .ok (.putfield 21, 3) := by decide +kernel
theorem d6_25 : decode prog_60_method_1_code 25 = .ok (.aload_n 0, 1) := by decide +kernel
theorem d6_26 : decode prog_60_method_1_code 26 = .ok (.iload 5, 2) := by decide +kernel
theorem d6_28 : decode prog_60_method_1_code 28 = .ok (.putfield 24, 3) := by decide +kernel
theorem d6_31 : decode prog_60_method_1_code 31 = .ok (.aload_n 0, 1) := by decide +kernel
theorem d6_32 : decode prog_60_method_1_code 32 = .ok (.iload 6, 2) := by decide +kernel
theorem d6_34 : decode prog_60_method_1_code 34 = .ok (.putfield 27, 3) := by decide +kernel
theorem d6_37 : decode prog_60_method_1_code 37 = .ok (.return_, 1) := by decide +kernel
set_option maxRecDepth 65536 in
set_option maxHeartbeats 40000000 in
theorem rm_vinit (l : Launch) (Z : State) (a0 : Array Value) (hw : ∀ d ∈ tables_1, d.before a0 Z = true) (ws : List Jvm.Cond) (a : Addr) (r : Addr) (ix : Int32) (ty : Addr) (lo : Int32) (up : Int32) (ini : Int32) (o_name : Value) (o_index : Value) (o_type : Value) (o_lower : Value) (o_upper : Value) (o_initial : Value) (h0 : Heap) (n0 : Nat) (Z0 : n0 ≤ h0.size) (E_a : Exa Z h0 a "com/example/atropos/atropos/lang/Variable") (gg_a : n0 ≤ a) (F_name : Fld Z h0 a "com/example/atropos/atropos/lang/Variable" "name" "Ljava/lang/String;" o_name) (F_index : Fld Z h0 a "com/example/atropos/atropos/lang/Variable" "index" "I" o_index) (F_type : Fld Z h0 a "com/example/atropos/atropos/lang/Variable" "type" "Lcom/example/atropos/atropos/lang/Type;" o_type) (F_lower : Fld Z h0 a "com/example/atropos/atropos/lang/Variable" "lower" "I" o_lower) (F_upper : Fld Z h0 a "com/example/atropos/atropos/lang/Variable" "upper" "I" o_upper) (F_initial : Fld Z h0 a "com/example/atropos/atropos/lang/Variable" "initial" "I" o_initial) :
    MetFree l (⟨"com/example/atropos/atropos/lang/Variable", "<init>", "(Ljava/lang/String;ILcom/example/atropos/atropos/lang/Type;III)V"⟩ : MethodName) (head1 (Jvm.Cond.code (⟨"com/example/atropos/atropos/lang/Variable", "<init>", "(Ljava/lang/String;ILcom/example/atropos/atropos/lang/Type;III)V"⟩ : MethodName) prog_60_method_1_code 7 none :: ws) ({ frames := 1, cells := 0, slots := 0, locals := 12 } : Room)) (fun a_ U_ => a_ = #[(.ref a), (.ref r), (.int ix), (.ref ty), (.int lo), (.int up), (.int ini)] ∧ Z.Warmed39 U_.vm ∧ U_.heap = h0) (fun _ _ _ _ _ => True) (fun _ U_ o_ V_ => ∃ v_ L_, o_ = .returned v_ ∧ Q_vinit Z a r ix ty lo up ini o_name o_index o_type o_lower o_upper o_initial h0 n0 v_ V_.heap L_ ∧ FrameEnd U_ o_ V_ L_ ({ frames := 1, cells := 0, slots := 0, locals := 12 } : Room).cells ({ frames := 1, cells := 0, slots := 0, locals := 12 } : Room).slots) := by
  refine MetFree.of_bodySF (plainFor_of_name pn_2) hisR ?_
  intro p e s m args below meth c s₁ Bd hml0 hP hK
  obtain ⟨rfl, hZ, hh⟩ := hP
  have hx := Bd.exec
  have hby := Bd.bytes
  have hml : c.maxLocals = 7 := hml0
  have hown : s.vm.findClass "com/example/atropos/atropos/lang/Variable" = some m.cls := findClass_of_methodNamed Bd.named
  have hnm := (name_of_methodNamed Bd.named Bd.method).1
  have X0 : Stand p l e ({ frames := 1, cells := 0, slots := 0, locals := 12 } : Room) s m #[(.ref a), (.ref r), (.int ix), (.ref ty), (.int lo), (.int up), (.int ini)] below meth c s₁ [] 0 0 := Stand.of_body Bd
  have e0 : s₁.heap = h0 := by rw [← hh, Bd.state]; rfl
  have N0 := Fr.nil n0
  have pre0 : ∀ t_, Steps p.tables e below (s₁.setTop (mkF m 0 #[.val (.ref a), .val (.ref r), .val (.int ix), .val (.ref ty), .val (.int lo), .val (.int up), .val (.int ini)] [])) t_ → Steps p.tables e below (s₁.setTop (entryFrame m #[(.ref a), (.ref r), (.int ix), (.ref ty), (.int lo), (.int up), (.int ini)] 7)) t_ := fun t_ k_ => castTop (ef_vinit m a r ix ty lo up ini) k_
  have O0 := own_ext_refl h0
  have K0 := Keep.refl h0 [a]
  obtain ⟨T42, X42, e42, st42⟩ := initO X0 hx hZ hown (hw _ (List.mem_of_getElem? (i := 35) rfl)) (hw _ (List.mem_of_getElem? (i := 26) rfl)) (hw _ (List.mem_of_getElem? (i := 27) rfl)) e0 (g := (mkF m 1 #[.val (.ref a), .val (.ref r), .val (.int ix), .val (.ref ty), .val (.int lo), .val (.int up), .val (.int ini)] [(.ref a)])) rfl (by rw [hml]; rfl) rfl (hb hby d6_1) (by decide) (W := 0) (by show 2 * 0 + _ ≤ _; exact Nat.le_of_eq rfl) (by decide)
  obtain ⟨T43, h43, X43, e43, W43, st43⟩ := putF X42 hx hZ hown (host := "") (Or.inl (hw _ (List.mem_of_getElem? (i := 36) rfl))) Via.refl e42 F_name E_a (Or.inr ⟨(hw _ (List.mem_of_getElem? (i := 37) rfl)), rfl, hnm⟩) (hw _ (List.mem_of_getElem? (i := 4) rfl)) (ty := (.object "java/lang/String")) (by decide) rfl rfl (g := (mkF m 6 #[.val (.ref a), .val (.ref r), .val (.int ix), .val (.ref ty), .val (.int lo), .val (.int up), .val (.int ini)] [(.ref r), (.ref a)])) rfl rfl (hb hby d6_6)
  have N43 := Fr.snoc X43 N0 gg_a
  have K43 := Keep.wr K0 W43 (Or.inl (List.mem_of_getElem? (i := 0) rfl))
  have Zs43 := Nat.le_trans Z0 (Keep.of_wr W43).1
  have c44 : Exa Z h43 a "com/example/atropos/atropos/lang/Variable" := E_a.wr W43
  have c45 : Fld Z h43 a "com/example/atropos/atropos/lang/Variable" "name" "Ljava/lang/String;" (.ref r) := F_name.same W43
  have c46 : Fld Z h43 a "com/example/atropos/atropos/lang/Variable" "index" "I" o_index := F_index.other W43 (Or.inr (slot_ne (Or.inr (hw _ (List.mem_of_getElem? (i := 39) rfl))) (Or.inr (hw _ (List.mem_of_getElem? (i := 37) rfl))) (by decide) (t := .int) (t' := (.object "java/lang/String")) (by decide) (by decide)))
  have c47 : Fld Z h43 a "com/example/atropos/atropos/lang/Variable" "type" "Lcom/example/atropos/atropos/lang/Type;" o_type := F_type.other W43 (Or.inr (slot_ne (Or.inr (hw _ (List.mem_of_getElem? (i := 41) rfl))) (Or.inr (hw _ (List.mem_of_getElem? (i := 37) rfl))) (by decide) (t := (.object "com/example/atropos/atropos/lang/Type")) (t' := (.object "java/lang/String")) (by decide) (by decide)))
  have c48 : Fld Z h43 a "com/example/atropos/atropos/lang/Variable" "lower" "I" o_lower := F_lower.other W43 (Or.inr (slot_ne (Or.inr (hw _ (List.mem_of_getElem? (i := 43) rfl))) (Or.inr (hw _ (List.mem_of_getElem? (i := 37) rfl))) (by decide) (t := .int) (t' := (.object "java/lang/String")) (by decide) (by decide)))
  have c49 : Fld Z h43 a "com/example/atropos/atropos/lang/Variable" "upper" "I" o_upper := F_upper.other W43 (Or.inr (slot_ne (Or.inr (hw _ (List.mem_of_getElem? (i := 45) rfl))) (Or.inr (hw _ (List.mem_of_getElem? (i := 37) rfl))) (by decide) (t := .int) (t' := (.object "java/lang/String")) (by decide) (by decide)))
  have c50 : Fld Z h43 a "com/example/atropos/atropos/lang/Variable" "initial" "I" o_initial := F_initial.other W43 (Or.inr (slot_ne (Or.inr (hw _ (List.mem_of_getElem? (i := 47) rfl))) (Or.inr (hw _ (List.mem_of_getElem? (i := 37) rfl))) (by decide) (t := .int) (t' := (.object "java/lang/String")) (by decide) (by decide)))
  obtain ⟨T51, h51, X51, e51, W51, st51⟩ := putF X43 hx hZ hown (host := "") (Or.inl (hw _ (List.mem_of_getElem? (i := 38) rfl))) Via.refl e43 c46 c44 (Or.inr ⟨(hw _ (List.mem_of_getElem? (i := 39) rfl)), rfl, hnm⟩) (hw _ (List.mem_of_getElem? (i := 4) rfl)) (ty := .int) (by decide) rfl rfl (g := (mkF m 11 #[.val (.ref a), .val (.ref r), .val (.int ix), .val (.ref ty), .val (.int lo), .val (.int up), .val (.int ini)] [(.int ix), (.ref a)])) rfl rfl (hb hby d6_11)
  have N51 := Fr.snoc X51 N43 gg_a
  have K51 := Keep.wr K43 W51 (Or.inl (List.mem_of_getElem? (i := 0) rfl))
  have Zs51 := Nat.le_trans Zs43 (Keep.of_wr W51).1
  have c52 : Exa Z h51 a "com/example/atropos/atropos/lang/Variable" := c44.wr W51
  have c53 : Fld Z h51 a "com/example/atropos/atropos/lang/Variable" "name" "Ljava/lang/String;" (.ref r) := c45.other W51 (Or.inr (slot_ne (Or.inr (hw _ (List.mem_of_getElem? (i := 37) rfl))) (Or.inr (hw _ (List.mem_of_getElem? (i := 39) rfl))) (by decide) (t := (.object "java/lang/String")) (t' := .int) (by decide) (by decide)))
  have c54 : Fld Z h51 a "com/example/atropos/atropos/lang/Variable" "index" "I" (.int ix) := c46.same W51
  have c55 : Fld Z h51 a "com/example/atropos/atropos/lang/Variable" "type" "Lcom/example/atropos/atropos/lang/Type;" o_type := c47.other W51 (Or.inr (slot_ne (Or.inr (hw _ (List.mem_of_getElem? (i := 41) rfl))) (Or.inr (hw _ (List.mem_of_getElem? (i := 39) rfl))) (by decide) (t := (.object "com/example/atropos/atropos/lang/Type")) (t' := .int) (by decide) (by decide)))
  have c56 : Fld Z h51 a "com/example/atropos/atropos/lang/Variable" "lower" "I" o_lower := c48.other W51 (Or.inr (slot_ne (Or.inr (hw _ (List.mem_of_getElem? (i := 43) rfl))) (Or.inr (hw _ (List.mem_of_getElem? (i := 39) rfl))) (by decide) (t := .int) (t' := .int) (by decide) (by decide)))
  have c57 : Fld Z h51 a "com/example/atropos/atropos/lang/Variable" "upper" "I" o_upper := c49.other W51 (Or.inr (slot_ne (Or.inr (hw _ (List.mem_of_getElem? (i := 45) rfl))) (Or.inr (hw _ (List.mem_of_getElem? (i := 39) rfl))) (by decide) (t := .int) (t' := .int) (by decide) (by decide)))
  have c58 : Fld Z h51 a "com/example/atropos/atropos/lang/Variable" "initial" "I" o_initial := c50.other W51 (Or.inr (slot_ne (Or.inr (hw _ (List.mem_of_getElem? (i := 47) rfl))) (Or.inr (hw _ (List.mem_of_getElem? (i := 39) rfl))) (by decide) (t := .int) (t' := .int) (by decide) (by decide)))
  obtain ⟨T59, h59, X59, e59, W59, st59⟩ := putF X51 hx hZ hown (host := "") (Or.inl (hw _ (List.mem_of_getElem? (i := 40) rfl))) Via.refl e51 c55 c52 (Or.inr ⟨(hw _ (List.mem_of_getElem? (i := 41) rfl)), rfl, hnm⟩) (hw _ (List.mem_of_getElem? (i := 4) rfl)) (ty := (.object "com/example/atropos/atropos/lang/Type")) (by decide) rfl rfl (g := (mkF m 16 #[.val (.ref a), .val (.ref r), .val (.int ix), .val (.ref ty), .val (.int lo), .val (.int up), .val (.int ini)] [(.ref ty), (.ref a)])) rfl rfl (hb hby d6_16)
  have N59 := Fr.snoc X59 N51 gg_a
  have K59 := Keep.wr K51 W59 (Or.inl (List.mem_of_getElem? (i := 0) rfl))
  have Zs59 := Nat.le_trans Zs51 (Keep.of_wr W59).1
  have c60 : Exa Z h59 a "com/example/atropos/atropos/lang/Variable" := c52.wr W59
  have c61 : Fld Z h59 a "com/example/atropos/atropos/lang/Variable" "name" "Ljava/lang/String;" (.ref r) := c53.other W59 (Or.inr (slot_ne (Or.inr (hw _ (List.mem_of_getElem? (i := 37) rfl))) (Or.inr (hw _ (List.mem_of_getElem? (i := 41) rfl))) (by decide) (t := (.object "java/lang/String")) (t' := (.object "com/example/atropos/atropos/lang/Type")) (by decide) (by decide)))
  have c62 : Fld Z h59 a "com/example/atropos/atropos/lang/Variable" "index" "I" (.int ix) := c54.other W59 (Or.inr (slot_ne (Or.inr (hw _ (List.mem_of_getElem? (i := 39) rfl))) (Or.inr (hw _ (List.mem_of_getElem? (i := 41) rfl))) (by decide) (t := .int) (t' := (.object "com/example/atropos/atropos/lang/Type")) (by decide) (by decide)))
  have c63 : Fld Z h59 a "com/example/atropos/atropos/lang/Variable" "type" "Lcom/example/atropos/atropos/lang/Type;" (.ref ty) := c55.same W59
  have c64 : Fld Z h59 a "com/example/atropos/atropos/lang/Variable" "lower" "I" o_lower := c56.other W59 (Or.inr (slot_ne (Or.inr (hw _ (List.mem_of_getElem? (i := 43) rfl))) (Or.inr (hw _ (List.mem_of_getElem? (i := 41) rfl))) (by decide) (t := .int) (t' := (.object "com/example/atropos/atropos/lang/Type")) (by decide) (by decide)))
  have c65 : Fld Z h59 a "com/example/atropos/atropos/lang/Variable" "upper" "I" o_upper := c57.other W59 (Or.inr (slot_ne (Or.inr (hw _ (List.mem_of_getElem? (i := 45) rfl))) (Or.inr (hw _ (List.mem_of_getElem? (i := 41) rfl))) (by decide) (t := .int) (t' := (.object "com/example/atropos/atropos/lang/Type")) (by decide) (by decide)))
  have c66 : Fld Z h59 a "com/example/atropos/atropos/lang/Variable" "initial" "I" o_initial := c58.other W59 (Or.inr (slot_ne (Or.inr (hw _ (List.mem_of_getElem? (i := 47) rfl))) (Or.inr (hw _ (List.mem_of_getElem? (i := 41) rfl))) (by decide) (t := .int) (t' := (.object "com/example/atropos/atropos/lang/Type")) (by decide) (by decide)))
  obtain ⟨T67, h67, X67, e67, W67, st67⟩ := putF X59 hx hZ hown (host := "") (Or.inl (hw _ (List.mem_of_getElem? (i := 42) rfl))) Via.refl e59 c64 c60 (Or.inr ⟨(hw _ (List.mem_of_getElem? (i := 43) rfl)), rfl, hnm⟩) (hw _ (List.mem_of_getElem? (i := 4) rfl)) (ty := .int) (by decide) rfl rfl (g := (mkF m 22 #[.val (.ref a), .val (.ref r), .val (.int ix), .val (.ref ty), .val (.int lo), .val (.int up), .val (.int ini)] [(.int lo), (.ref a)])) rfl rfl (hb hby d6_22)
  have N67 := Fr.snoc X67 N59 gg_a
  have K67 := Keep.wr K59 W67 (Or.inl (List.mem_of_getElem? (i := 0) rfl))
  have Zs67 := Nat.le_trans Zs59 (Keep.of_wr W67).1
  have c68 : Exa Z h67 a "com/example/atropos/atropos/lang/Variable" := c60.wr W67
  have c69 : Fld Z h67 a "com/example/atropos/atropos/lang/Variable" "name" "Ljava/lang/String;" (.ref r) := c61.other W67 (Or.inr (slot_ne (Or.inr (hw _ (List.mem_of_getElem? (i := 37) rfl))) (Or.inr (hw _ (List.mem_of_getElem? (i := 43) rfl))) (by decide) (t := (.object "java/lang/String")) (t' := .int) (by decide) (by decide)))
  have c70 : Fld Z h67 a "com/example/atropos/atropos/lang/Variable" "index" "I" (.int ix) := c62.other W67 (Or.inr (slot_ne (Or.inr (hw _ (List.mem_of_getElem? (i := 39) rfl))) (Or.inr (hw _ (List.mem_of_getElem? (i := 43) rfl))) (by decide) (t := .int) (t' := .int) (by decide) (by decide)))
  have c71 : Fld Z h67 a "com/example/atropos/atropos/lang/Variable" "type" "Lcom/example/atropos/atropos/lang/Type;" (.ref ty) := c63.other W67 (Or.inr (slot_ne (Or.inr (hw _ (List.mem_of_getElem? (i := 41) rfl))) (Or.inr (hw _ (List.mem_of_getElem? (i := 43) rfl))) (by decide) (t := (.object "com/example/atropos/atropos/lang/Type")) (t' := .int) (by decide) (by decide)))
  have c72 : Fld Z h67 a "com/example/atropos/atropos/lang/Variable" "lower" "I" (.int lo) := c64.same W67
  have c73 : Fld Z h67 a "com/example/atropos/atropos/lang/Variable" "upper" "I" o_upper := c65.other W67 (Or.inr (slot_ne (Or.inr (hw _ (List.mem_of_getElem? (i := 45) rfl))) (Or.inr (hw _ (List.mem_of_getElem? (i := 43) rfl))) (by decide) (t := .int) (t' := .int) (by decide) (by decide)))
  have c74 : Fld Z h67 a "com/example/atropos/atropos/lang/Variable" "initial" "I" o_initial := c66.other W67 (Or.inr (slot_ne (Or.inr (hw _ (List.mem_of_getElem? (i := 47) rfl))) (Or.inr (hw _ (List.mem_of_getElem? (i := 43) rfl))) (by decide) (t := .int) (t' := .int) (by decide) (by decide)))
  obtain ⟨T75, h75, X75, e75, W75, st75⟩ := putF X67 hx hZ hown (host := "") (Or.inl (hw _ (List.mem_of_getElem? (i := 44) rfl))) Via.refl e67 c73 c68 (Or.inr ⟨(hw _ (List.mem_of_getElem? (i := 45) rfl)), rfl, hnm⟩) (hw _ (List.mem_of_getElem? (i := 4) rfl)) (ty := .int) (by decide) rfl rfl (g := (mkF m 28 #[.val (.ref a), .val (.ref r), .val (.int ix), .val (.ref ty), .val (.int lo), .val (.int up), .val (.int ini)] [(.int up), (.ref a)])) rfl rfl (hb hby d6_28)
  have N75 := Fr.snoc X75 N67 gg_a
  have K75 := Keep.wr K67 W75 (Or.inl (List.mem_of_getElem? (i := 0) rfl))
  have Zs75 := Nat.le_trans Zs67 (Keep.of_wr W75).1
  have c76 : Exa Z h75 a "com/example/atropos/atropos/lang/Variable" := c68.wr W75
  have c77 : Fld Z h75 a "com/example/atropos/atropos/lang/Variable" "name" "Ljava/lang/String;" (.ref r) := c69.other W75 (Or.inr (slot_ne (Or.inr (hw _ (List.mem_of_getElem? (i := 37) rfl))) (Or.inr (hw _ (List.mem_of_getElem? (i := 45) rfl))) (by decide) (t := (.object "java/lang/String")) (t' := .int) (by decide) (by decide)))
  have c78 : Fld Z h75 a "com/example/atropos/atropos/lang/Variable" "index" "I" (.int ix) := c70.other W75 (Or.inr (slot_ne (Or.inr (hw _ (List.mem_of_getElem? (i := 39) rfl))) (Or.inr (hw _ (List.mem_of_getElem? (i := 45) rfl))) (by decide) (t := .int) (t' := .int) (by decide) (by decide)))
  have c79 : Fld Z h75 a "com/example/atropos/atropos/lang/Variable" "type" "Lcom/example/atropos/atropos/lang/Type;" (.ref ty) := c71.other W75 (Or.inr (slot_ne (Or.inr (hw _ (List.mem_of_getElem? (i := 41) rfl))) (Or.inr (hw _ (List.mem_of_getElem? (i := 45) rfl))) (by decide) (t := (.object "com/example/atropos/atropos/lang/Type")) (t' := .int) (by decide) (by decide)))
  have c80 : Fld Z h75 a "com/example/atropos/atropos/lang/Variable" "lower" "I" (.int lo) := c72.other W75 (Or.inr (slot_ne (Or.inr (hw _ (List.mem_of_getElem? (i := 43) rfl))) (Or.inr (hw _ (List.mem_of_getElem? (i := 45) rfl))) (by decide) (t := .int) (t' := .int) (by decide) (by decide)))
  have c81 : Fld Z h75 a "com/example/atropos/atropos/lang/Variable" "upper" "I" (.int up) := c73.same W75
  have c82 : Fld Z h75 a "com/example/atropos/atropos/lang/Variable" "initial" "I" o_initial := c74.other W75 (Or.inr (slot_ne (Or.inr (hw _ (List.mem_of_getElem? (i := 47) rfl))) (Or.inr (hw _ (List.mem_of_getElem? (i := 45) rfl))) (by decide) (t := .int) (t' := .int) (by decide) (by decide)))
  obtain ⟨T83, h83, X83, e83, W83, st83⟩ := putF X75 hx hZ hown (host := "") (Or.inl (hw _ (List.mem_of_getElem? (i := 46) rfl))) Via.refl e75 c82 c76 (Or.inr ⟨(hw _ (List.mem_of_getElem? (i := 47) rfl)), rfl, hnm⟩) (hw _ (List.mem_of_getElem? (i := 4) rfl)) (ty := .int) (by decide) rfl rfl (g := (mkF m 34 #[.val (.ref a), .val (.ref r), .val (.int ix), .val (.ref ty), .val (.int lo), .val (.int up), .val (.int ini)] [(.int ini), (.ref a)])) rfl rfl (hb hby d6_34)
  have N83 := Fr.snoc X83 N75 gg_a
  have K83 := Keep.wr K75 W83 (Or.inl (List.mem_of_getElem? (i := 0) rfl))
  have Zs83 := Nat.le_trans Zs75 (Keep.of_wr W83).1
  have c84 : Exa Z h83 a "com/example/atropos/atropos/lang/Variable" := c76.wr W83
  have c85 : Fld Z h83 a "com/example/atropos/atropos/lang/Variable" "name" "Ljava/lang/String;" (.ref r) := c77.other W83 (Or.inr (slot_ne (Or.inr (hw _ (List.mem_of_getElem? (i := 37) rfl))) (Or.inr (hw _ (List.mem_of_getElem? (i := 47) rfl))) (by decide) (t := (.object "java/lang/String")) (t' := .int) (by decide) (by decide)))
  have c86 : Fld Z h83 a "com/example/atropos/atropos/lang/Variable" "index" "I" (.int ix) := c78.other W83 (Or.inr (slot_ne (Or.inr (hw _ (List.mem_of_getElem? (i := 39) rfl))) (Or.inr (hw _ (List.mem_of_getElem? (i := 47) rfl))) (by decide) (t := .int) (t' := .int) (by decide) (by decide)))
  have c87 : Fld Z h83 a "com/example/atropos/atropos/lang/Variable" "type" "Lcom/example/atropos/atropos/lang/Type;" (.ref ty) := c79.other W83 (Or.inr (slot_ne (Or.inr (hw _ (List.mem_of_getElem? (i := 41) rfl))) (Or.inr (hw _ (List.mem_of_getElem? (i := 47) rfl))) (by decide) (t := (.object "com/example/atropos/atropos/lang/Type")) (t' := .int) (by decide) (by decide)))
  have c88 : Fld Z h83 a "com/example/atropos/atropos/lang/Variable" "lower" "I" (.int lo) := c80.other W83 (Or.inr (slot_ne (Or.inr (hw _ (List.mem_of_getElem? (i := 43) rfl))) (Or.inr (hw _ (List.mem_of_getElem? (i := 47) rfl))) (by decide) (t := .int) (t' := .int) (by decide) (by decide)))
  have c89 : Fld Z h83 a "com/example/atropos/atropos/lang/Variable" "upper" "I" (.int up) := c81.other W83 (Or.inr (slot_ne (Or.inr (hw _ (List.mem_of_getElem? (i := 45) rfl))) (Or.inr (hw _ (List.mem_of_getElem? (i := 47) rfl))) (by decide) (t := .int) (t' := .int) (by decide) (by decide)))
  have c90 : Fld Z h83 a "com/example/atropos/atropos/lang/Variable" "initial" "I" (.int ini) := c82.same W83
  have pre91 : ∀ t_, Steps p.tables e below (T83.setTop (mkF m 37 #[.val (.ref a), .val (.ref r), .val (.int ix), .val (.ref ty), .val (.int lo), .val (.int up), .val (.int ini)] [])) t_ → Steps p.tables e below (s₁.setTop (entryFrame m #[(.ref a), (.ref r), (.int ix), (.ref ty), (.int lo), (.int up), (.int ini)] 7)) t_ := fun t_ k_ => pre0 t_ (by
    show Steps p.tables e below (s₁.setTop (mkF m 0 #[.val (.ref a), .val (.ref r), .val (.int ix), .val (.ref ty), .val (.int lo), .val (.int up), .val (.int ini)] [])) _
    refine XS.aloadN X0.here hx rfl (hb hby d6_0) rfl rfl ?_
    show Steps p.tables e below (s₁.setTop (mkF m 1 #[.val (.ref a), .val (.ref r), .val (.int ix), .val (.ref ty), .val (.int lo), .val (.int up), .val (.int ini)] [(.ref a)])) _
    refine st42 _ ?_
    show Steps p.tables e below (T42.setTop (mkF m 4 #[.val (.ref a), .val (.ref r), .val (.int ix), .val (.ref ty), .val (.int lo), .val (.int up), .val (.int ini)] [])) _
    refine XS.aloadN X42.here hx rfl (hb hby d6_4) rfl rfl ?_
    show Steps p.tables e below (T42.setTop (mkF m 5 #[.val (.ref a), .val (.ref r), .val (.int ix), .val (.ref ty), .val (.int lo), .val (.int up), .val (.int ini)] [(.ref a)])) _
    refine XS.aloadN X42.here hx rfl (hb hby d6_5) rfl rfl ?_
    show Steps p.tables e below (T42.setTop (mkF m 6 #[.val (.ref a), .val (.ref r), .val (.int ix), .val (.ref ty), .val (.int lo), .val (.int up), .val (.int ini)] [(.ref r), (.ref a)])) _
    refine st43 _ ?_
    show Steps p.tables e below (T43.setTop (mkF m 9 #[.val (.ref a), .val (.ref r), .val (.int ix), .val (.ref ty), .val (.int lo), .val (.int up), .val (.int ini)] [])) _
    refine XS.aloadN X43.here hx rfl (hb hby d6_9) rfl rfl ?_
    show Steps p.tables e below (T43.setTop (mkF m 10 #[.val (.ref a), .val (.ref r), .val (.int ix), .val (.ref ty), .val (.int lo), .val (.int up), .val (.int ini)] [(.ref a)])) _
    refine XS.iloadN X43.here hx rfl (hb hby d6_10) rfl ?_
    show Steps p.tables e below (T43.setTop (mkF m 11 #[.val (.ref a), .val (.ref r), .val (.int ix), .val (.ref ty), .val (.int lo), .val (.int up), .val (.int ini)] [(.int ix), (.ref a)])) _
    refine st51 _ ?_
    show Steps p.tables e below (T51.setTop (mkF m 14 #[.val (.ref a), .val (.ref r), .val (.int ix), .val (.ref ty), .val (.int lo), .val (.int up), .val (.int ini)] [])) _
    refine XS.aloadN X51.here hx rfl (hb hby d6_14) rfl rfl ?_
    show Steps p.tables e below (T51.setTop (mkF m 15 #[.val (.ref a), .val (.ref r), .val (.int ix), .val (.ref ty), .val (.int lo), .val (.int up), .val (.int ini)] [(.ref a)])) _
    refine XS.aloadN X51.here hx rfl (hb hby d6_15) rfl rfl ?_
    show Steps p.tables e below (T51.setTop (mkF m 16 #[.val (.ref a), .val (.ref r), .val (.int ix), .val (.ref ty), .val (.int lo), .val (.int up), .val (.int ini)] [(.ref ty), (.ref a)])) _
    refine st59 _ ?_
    show Steps p.tables e below (T59.setTop (mkF m 19 #[.val (.ref a), .val (.ref r), .val (.int ix), .val (.ref ty), .val (.int lo), .val (.int up), .val (.int ini)] [])) _
    refine XS.aloadN X59.here hx rfl (hb hby d6_19) rfl rfl ?_
    show Steps p.tables e below (T59.setTop (mkF m 20 #[.val (.ref a), .val (.ref r), .val (.int ix), .val (.ref ty), .val (.int lo), .val (.int up), .val (.int ini)] [(.ref a)])) _
    refine XS.iload X59.here hx rfl (hb hby d6_20) rfl ?_
    show Steps p.tables e below (T59.setTop (mkF m 22 #[.val (.ref a), .val (.ref r), .val (.int ix), .val (.ref ty), .val (.int lo), .val (.int up), .val (.int ini)] [(.int lo), (.ref a)])) _
    refine st67 _ ?_
    show Steps p.tables e below (T67.setTop (mkF m 25 #[.val (.ref a), .val (.ref r), .val (.int ix), .val (.ref ty), .val (.int lo), .val (.int up), .val (.int ini)] [])) _
    refine XS.aloadN X67.here hx rfl (hb hby d6_25) rfl rfl ?_
    show Steps p.tables e below (T67.setTop (mkF m 26 #[.val (.ref a), .val (.ref r), .val (.int ix), .val (.ref ty), .val (.int lo), .val (.int up), .val (.int ini)] [(.ref a)])) _
    refine XS.iload X67.here hx rfl (hb hby d6_26) rfl ?_
    show Steps p.tables e below (T67.setTop (mkF m 28 #[.val (.ref a), .val (.ref r), .val (.int ix), .val (.ref ty), .val (.int lo), .val (.int up), .val (.int ini)] [(.int up), (.ref a)])) _
    refine st75 _ ?_
    show Steps p.tables e below (T75.setTop (mkF m 31 #[.val (.ref a), .val (.ref r), .val (.int ix), .val (.ref ty), .val (.int lo), .val (.int up), .val (.int ini)] [])) _
    refine XS.aloadN X75.here hx rfl (hb hby d6_31) rfl rfl ?_
    show Steps p.tables e below (T75.setTop (mkF m 32 #[.val (.ref a), .val (.ref r), .val (.int ix), .val (.ref ty), .val (.int lo), .val (.int up), .val (.int ini)] [(.ref a)])) _
    refine XS.iload X75.here hx rfl (hb hby d6_32) rfl ?_
    show Steps p.tables e below (T75.setTop (mkF m 34 #[.val (.ref a), .val (.ref r), .val (.int ix), .val (.ref ty), .val (.int lo), .val (.int up), .val (.int ini)] [(.int ini), (.ref a)])) _
    refine st83 _ ?_
    show Steps p.tables e below (T83.setTop (mkF m 37 #[.val (.ref a), .val (.ref r), .val (.int ix), .val (.ref ty), .val (.int lo), .val (.int up), .val (.int ini)] [])) _
    exact k_)
  obtain ⟨fs, hr, hrun, hended, hW, hsame⟩ := X83.leave (v := none) (fun _ => rfl)
  refine ⟨_, _, pre91 _ ?_, hrun, hended, _, _, rfl, ?_, ⟨_, rfl⟩, hW, hsame.mono (by decide) (by decide)⟩
  · show Steps p.tables e below (T83.setTop (mkF m 37 #[.val (.ref a), .val (.ref r), .val (.int ix), .val (.ref ty), .val (.int lo), .val (.int up), .val (.int ini)] [])) _
    exact X83.returnOut hx Bd.returns (hb hby d6_37) hr
  · show Q_vinit Z a r ix ty lo up ini o_name o_index o_type o_lower o_upper o_initial h0 n0 _ T83.heap _
    rw [e83]
    exact ⟨rfl, N83, K83, c84, c88, c89⟩
theorem ef_inr (m : MethodId) (a : Addr) (va : Int32) : entryFrame m #[(.ref a), (.int va)] 2 = mkF m 0 #[.val (.ref a), .val (.int va)] [] := by first | (simp [entryFrame, mkF, argsToLocals, Value.category]; done) | rfl
def Q_inr (Z : State) (a : Addr) (va : Int32) (lo : Int32) (up : Int32) (h0 : Heap) (n0 : Nat) (v : Option Value) (h : Heap) (L : List Loc) : Prop := v = some (.int (own_in lo up va)) ∧ Fr n0 L ∧ h = h0
theorem d9_0 : decode prog_60_method_6_code 0 = .ok (.aload_n 0, 1) := by decide +kernel
theorem d9_1 : decode prog_60_method_6_code 1 = .ok (.getfield 21, 3) := by decide +kernel
theorem d9_4 : decode prog_60_method_6_code 4 = .ok (.iload_n 1, 1) := by decide +kernel
theorem d9_5 : decode prog_60_method_6_code 5 = .ok (.if_icmp .gt 15, 3) := by decide +kernel
theorem d9_20 : decode prog_60_method_6_code 20 = .ok (.iconst 0, 1) := by decide +kernel
theorem d9_21 : decode prog_60_method_6_code 21 = .ok (.ireturn, 1) := by decide +kernel
theorem d9_8 : decode prog_60_method_6_code 8 = .ok (.iload_n 1, 1) := by decide +kernel
theorem d9_9 : decode prog_60_method_6_code 9 = .ok (.aload_n 0, 1) := by decide +kernel
theorem d9_10 : decode prog_60_method_6_code 10 = .ok (.getfield 24, 3) := by decide +kernel
theorem d9_13 : decode prog_60_method_6_code 13 = .ok (.if_icmp .gt 7, 3) := by decide +kernel
theorem d9_16 : decode prog_60_method_6_code 16 = .ok (.iconst 1, 1) := by decide +kernel
theorem d9_17 : decode prog_60_method_6_code 17 = .ok (.goto 4, 3) := by decide +kernel
set_option maxRecDepth 65536 in
set_option maxHeartbeats 40000000 in
theorem rm_inr (l : Launch) (Z : State) (a0 : Array Value) (hw : ∀ d ∈ tables_1, d.before a0 Z = true) (ws : List Jvm.Cond) (a : Addr) (va : Int32) (lo : Int32) (up : Int32) (h0 : Heap) (n0 : Nat) (Z0 : n0 ≤ h0.size) (Fl : Fld Z h0 a "com/example/atropos/atropos/lang/Variable" "lower" "I" (.int lo)) (Fu : Fld Z h0 a "com/example/atropos/atropos/lang/Variable" "upper" "I" (.int up)) :
    MetFree l (⟨"com/example/atropos/atropos/lang/Variable", "inRange", "(I)Z"⟩ : MethodName) (head1 (Jvm.Cond.code (⟨"com/example/atropos/atropos/lang/Variable", "inRange", "(I)Z"⟩ : MethodName) prog_60_method_6_code 2 (some .boolean) :: ws) ({ frames := 0, cells := 0, slots := 0, locals := 0 } : Room)) (fun a_ U_ => a_ = #[(.ref a), (.int va)] ∧ Z.Warmed39 U_.vm ∧ U_.heap = h0) (fun _ _ _ _ _ => True) (fun _ U_ o_ V_ => ∃ v_ L_, o_ = .returned v_ ∧ Q_inr Z a va lo up h0 n0 v_ V_.heap L_ ∧ FrameEnd U_ o_ V_ L_ ({ frames := 0, cells := 0, slots := 0, locals := 0 } : Room).cells ({ frames := 0, cells := 0, slots := 0, locals := 0 } : Room).slots) := by
  refine MetFree.of_bodySF (plainFor_of_name pn_2) hisR ?_
  intro p e s m args below meth c s₁ Bd hml0 hP hK
  obtain ⟨rfl, hZ, hh⟩ := hP
  have hx := Bd.exec
  have hby := Bd.bytes
  have hml : c.maxLocals = 2 := hml0
  have hown : s.vm.findClass "com/example/atropos/atropos/lang/Variable" = some m.cls := findClass_of_methodNamed Bd.named
  have hnm := (name_of_methodNamed Bd.named Bd.method).1
  have X0 : Stand p l e ({ frames := 0, cells := 0, slots := 0, locals := 0 } : Room) s m #[(.ref a), (.int va)] below meth c s₁ [] 0 0 := Stand.of_body Bd
  have e0 : s₁.heap = h0 := by rw [← hh, Bd.state]; rfl
  have N0 := Fr.nil n0
  have pre0 : ∀ t_, Steps p.tables e below (s₁.setTop (mkF m 0 #[.val (.ref a), .val (.int va)] [])) t_ → Steps p.tables e below (s₁.setTop (entryFrame m #[(.ref a), (.int va)] 2)) t_ := fun t_ k_ => castTop (ef_inr m a va) k_
  obtain ⟨T92, X92, e92, st92⟩ := getF X0 hx hZ hown (host := "") (Or.inl (hw _ (List.mem_of_getElem? (i := 42) rfl))) Via.refl e0 Fl (g := (mkF m 1 #[.val (.ref a), .val (.int va)] [(.ref a)])) rfl rfl (hb hby d9_1)
  have pre93 : ∀ t_, Steps p.tables e below (T92.setTop (mkF m 5 #[.val (.ref a), .val (.int va)] [(.int va), (.int lo)])) t_ → Steps p.tables e below (s₁.setTop (entryFrame m #[(.ref a), (.int va)] 2)) t_ := fun t_ k_ => pre0 t_ (by
    show Steps p.tables e below (s₁.setTop (mkF m 0 #[.val (.ref a), .val (.int va)] [])) _
    refine XS.aloadN X0.here hx rfl (hb hby d9_0) rfl rfl ?_
    show Steps p.tables e below (s₁.setTop (mkF m 1 #[.val (.ref a), .val (.int va)] [(.ref a)])) _
    refine st92 _ ?_
    show Steps p.tables e below (T92.setTop (mkF m 4 #[.val (.ref a), .val (.int va)] [(.int lo)])) _
    refine XS.iloadN X92.here hx rfl (hb hby d9_4) rfl ?_
    show Steps p.tables e below (T92.setTop (mkF m 5 #[.val (.ref a), .val (.int va)] [(.int va), (.int lo)])) _
    exact k_)
  by_cases hc5_94 : va < lo
  · have pre95 : ∀ t_, Steps p.tables e below (T92.setTop (mkF m 21 #[.val (.ref a), .val (.int va)] [(.int (0 : Int32))])) t_ → Steps p.tables e below (s₁.setTop (entryFrame m #[(.ref a), (.int va)] 2)) t_ := fun t_ k_ => pre93 t_ (by
      show Steps p.tables e below (T92.setTop (mkF m 5 #[.val (.ref a), .val (.int va)] [(.int va), (.int lo)])) _
      refine XS.icmpYes X92.here hx rfl (pc0 := 5) (pc' := 20) rfl (hb hby d9_5) rfl (tlt hc5_94).2.2.1 (by decide) (by decide) ?_
      show Steps p.tables e below (T92.setTop (mkF m 20 #[.val (.ref a), .val (.int va)] [])) _
      refine XS.iconst X92.here hx rfl (hb hby d9_20) ?_
      show Steps p.tables e below (T92.setTop (mkF m 21 #[.val (.ref a), .val (.int va)] [(.int (0 : Int32))])) _
      exact k_)
    obtain ⟨fs, hr, hrun, hended, hW, hsame⟩ := X92.leave (v := some (.int (0 : Int32))) (fun h => by rw [Bd.returns] at h; cases h)
    refine ⟨_, _, pre95 _ ?_, hrun, hended, _, _, rfl, ?_, ⟨_, rfl⟩, hW, hsame.mono (by decide) (by decide)⟩
    · show Steps p.tables e below (T92.setTop (mkF m 21 #[.val (.ref a), .val (.int va)] [(.int (0 : Int32))])) _
      exact retN X92 hx (t := .boolean) Bd.returns (by simp) (hb hby d9_21) hr
    · show Q_inr Z a va lo up h0 n0 _ T92.heap _
      rw [e92]
      exact ⟨by rw [own_in, if_pos hc5_94], N0, rfl⟩
  · obtain ⟨T96, X96, e96, st96⟩ := getF X92 hx hZ hown (host := "") (Or.inl (hw _ (List.mem_of_getElem? (i := 44) rfl))) Via.refl e92 Fu (g := (mkF m 10 #[.val (.ref a), .val (.int va)] [(.ref a), (.int va)])) rfl rfl (hb hby d9_10)
    have pre97 : ∀ t_, Steps p.tables e below (T96.setTop (mkF m 13 #[.val (.ref a), .val (.int va)] [(.int up), (.int va)])) t_ → Steps p.tables e below (s₁.setTop (entryFrame m #[(.ref a), (.int va)] 2)) t_ := fun t_ k_ => pre93 t_ (by
      show Steps p.tables e below (T92.setTop (mkF m 5 #[.val (.ref a), .val (.int va)] [(.int va), (.int lo)])) _
      refine XS.icmpNo X92.here hx rfl (hb hby d9_5) rfl (flt hc5_94).2.2.1 ?_
      show Steps p.tables e below (T92.setTop (mkF m 8 #[.val (.ref a), .val (.int va)] [])) _
      refine XS.iloadN X92.here hx rfl (hb hby d9_8) rfl ?_
      show Steps p.tables e below (T92.setTop (mkF m 9 #[.val (.ref a), .val (.int va)] [(.int va)])) _
      refine XS.aloadN X92.here hx rfl (hb hby d9_9) rfl rfl ?_
      show Steps p.tables e below (T92.setTop (mkF m 10 #[.val (.ref a), .val (.int va)] [(.ref a), (.int va)])) _
      refine st96 _ ?_
      show Steps p.tables e below (T96.setTop (mkF m 13 #[.val (.ref a), .val (.int va)] [(.int up), (.int va)])) _
      exact k_)
    by_cases hc13_98 : up < va
    · have pre99 : ∀ t_, Steps p.tables e below (T96.setTop (mkF m 21 #[.val (.ref a), .val (.int va)] [(.int (0 : Int32))])) t_ → Steps p.tables e below (s₁.setTop (entryFrame m #[(.ref a), (.int va)] 2)) t_ := fun t_ k_ => pre97 t_ (by
        show Steps p.tables e below (T96.setTop (mkF m 13 #[.val (.ref a), .val (.int va)] [(.int up), (.int va)])) _
        refine XS.icmpYes X96.here hx rfl (pc0 := 13) (pc' := 20) rfl (hb hby d9_13) rfl (tlt hc13_98).2.2.1 (by decide) (by decide) ?_
        show Steps p.tables e below (T96.setTop (mkF m 20 #[.val (.ref a), .val (.int va)] [])) _
        refine XS.iconst X96.here hx rfl (hb hby d9_20) ?_
        show Steps p.tables e below (T96.setTop (mkF m 21 #[.val (.ref a), .val (.int va)] [(.int (0 : Int32))])) _
        exact k_)
      obtain ⟨fs, hr, hrun, hended, hW, hsame⟩ := X96.leave (v := some (.int (0 : Int32))) (fun h => by rw [Bd.returns] at h; cases h)
      refine ⟨_, _, pre99 _ ?_, hrun, hended, _, _, rfl, ?_, ⟨_, rfl⟩, hW, hsame.mono (by decide) (by decide)⟩
      · show Steps p.tables e below (T96.setTop (mkF m 21 #[.val (.ref a), .val (.int va)] [(.int (0 : Int32))])) _
        exact retN X96 hx (t := .boolean) Bd.returns (by simp) (hb hby d9_21) hr
      · show Q_inr Z a va lo up h0 n0 _ T96.heap _
        rw [e96]
        exact ⟨by rw [own_in, if_neg hc5_94, if_pos hc13_98], N0, rfl⟩
    · have pre100 : ∀ t_, Steps p.tables e below (T96.setTop (mkF m 21 #[.val (.ref a), .val (.int va)] [(.int (1 : Int32))])) t_ → Steps p.tables e below (s₁.setTop (entryFrame m #[(.ref a), (.int va)] 2)) t_ := fun t_ k_ => pre97 t_ (by
        show Steps p.tables e below (T96.setTop (mkF m 13 #[.val (.ref a), .val (.int va)] [(.int up), (.int va)])) _
        refine XS.icmpNo X96.here hx rfl (hb hby d9_13) rfl (flt hc13_98).2.2.1 ?_
        show Steps p.tables e below (T96.setTop (mkF m 16 #[.val (.ref a), .val (.int va)] [])) _
        refine XS.iconst X96.here hx rfl (hb hby d9_16) ?_
        show Steps p.tables e below (T96.setTop (mkF m 17 #[.val (.ref a), .val (.int va)] [(.int (1 : Int32))])) _
        refine XS.goto X96.here hx rfl (pc0 := 17) (pc' := 21) rfl (hb hby d9_17) (by decide) (by decide) ?_
        show Steps p.tables e below (T96.setTop (mkF m 21 #[.val (.ref a), .val (.int va)] [(.int (1 : Int32))])) _
        exact k_)
      obtain ⟨fs, hr, hrun, hended, hW, hsame⟩ := X96.leave (v := some (.int (1 : Int32))) (fun h => by rw [Bd.returns] at h; cases h)
      refine ⟨_, _, pre100 _ ?_, hrun, hended, _, _, rfl, ?_, ⟨_, rfl⟩, hW, hsame.mono (by decide) (by decide)⟩
      · show Steps p.tables e below (T96.setTop (mkF m 21 #[.val (.ref a), .val (.int va)] [(.int (1 : Int32))])) _
        exact retN X96 hx (t := .boolean) Bd.returns (by simp) (hb hby d9_21) hr
      · show Q_inr Z a va lo up h0 n0 _ T96.heap _
        rw [e96]
        exact ⟨by rw [own_in, if_neg hc5_94, if_neg hc13_98], N0, rfl⟩
theorem ef_0 (m : MethodId) (k0 : Int32) (k1 : Int32) (k2 : Int32) (k3 : Int32) : entryFrame m #[(.int k0), (.int k1), (.int k2), (.int k3)] maxLocals = mkF m 0 #[.val (.int k0), .val (.int k1), .val (.int k2), .val (.int k3), .unset, .unset, .unset, .unset, .unset, .unset, .unset] [] := by first | (simp [entryFrame, mkF, argsToLocals, Value.category, maxLocals]; done) | rfl
def Q_0 (Z : State) (k0 : Int32) (k1 : Int32) (k2 : Int32) (k3 : Int32) (cs : Int32) (w_INT : Addr) (w_DOUBLE : Addr) (w_BOOL : Addr) (h0 : Heap) (n0 : Nat) (v : Option Value) (h : Heap) (L : List Loc) : Prop := v = some (.int (1 : Int32)) ∧ Fr n0 L
theorem pn_3 : plainName "com/example/atropos/atropos/lang/VariableInRangePinLaw" = true := by first | (simp [plainName, overriddenIn]; done) | decide +kernel
theorem pd_3 : parseMethodDescriptor "(C)Ljava/lang/String;" = some ⟨[.char], some (.object "java/lang/String")⟩ := by decide +kernel
theorem pd_4 : parseMethodDescriptor "(Ljava/lang/String;ILcom/example/atropos/atropos/lang/Type;III)V" = some ⟨[(.object "java/lang/String"), .int, (.object "com/example/atropos/atropos/lang/Type"), .int, .int, .int], none⟩ := by decide +kernel
theorem pd_5 : parseMethodDescriptor "(I)Z" = some ⟨[.int], some .boolean⟩ := by decide +kernel
theorem pd_6 : parseMethodDescriptor "(II)I" = some ⟨[.int, .int], some .int⟩ := by decide +kernel
set_option maxRecDepth 65536 in
set_option maxHeartbeats 40000000 in
theorem rm_0 (l : Launch) (Z : State) (a0 : Array Value) (hw : ∀ d ∈ tables_1, d.before a0 Z = true) (ws : List Jvm.Cond) (k0 : Int32) (k1 : Int32) (k2 : Int32) (k3 : Int32) (cs : Int32) (w_INT : Addr) (w_DOUBLE : Addr) (w_BOOL : Addr) (h0 : Heap) (n0 : Nat) (Z0 : n0 ≤ h0.size) (S_CS : Sta Z h0 "java/lang/String" "COMPACT_STRINGS" "Z" (.int cs)) (hcs : ¬ cs = (0 : Int32)) (S_INT : Sta Z h0 "com/example/atropos/atropos/lang/Type" "INT" "Lcom/example/atropos/atropos/lang/Type;" (.ref w_INT)) (S_DOUBLE : Sta Z h0 "com/example/atropos/atropos/lang/Type" "DOUBLE" "Lcom/example/atropos/atropos/lang/Type;" (.ref w_DOUBLE)) (S_BOOL : Sta Z h0 "com/example/atropos/atropos/lang/Type" "BOOL" "Lcom/example/atropos/atropos/lang/Type;" (.ref w_BOOL)) :
    MetFree l x (head1 (Jvm.Cond.code x code maxLocals ret :: ws) room_1) (fun a_ U_ => a_ = #[(.int k0), (.int k1), (.int k2), (.int k3)] ∧ Z.Warmed39 U_.vm ∧ U_.heap = h0) (fun _ _ _ _ _ => True) (fun _ U_ o_ V_ => ∃ v_ L_, o_ = .returned v_ ∧ Q_0 Z k0 k1 k2 k3 cs w_INT w_DOUBLE w_BOOL h0 n0 v_ V_.heap L_ ∧ FrameEnd U_ o_ V_ L_ room_1.cells room_1.slots) := by
  refine MetFree.of_bodySF (plainFor_of_name pn_3) hisR ?_
  intro p e s m args below meth c s₁ Bd hml0 hP hK
  obtain ⟨rfl, hZ, hh⟩ := hP
  have hx := Bd.exec
  have hby := Bd.bytes
  have hml : c.maxLocals = 11 := hml0
  have hown : s.vm.findClass "com/example/atropos/atropos/lang/VariableInRangePinLaw" = some m.cls := findClass_of_methodNamed Bd.named
  have hnm := (name_of_methodNamed Bd.named Bd.method).1
  have X0 : Stand p l e room_1 s m #[(.int k0), (.int k1), (.int k2), (.int k3)] below meth c s₁ [] 0 0 := Stand.of_body Bd
  have e0 : s₁.heap = h0 := by rw [← hh, Bd.state]; rfl
  have N0 := Fr.nil n0
  have pre0 : ∀ t_, Steps p.tables e below (s₁.setTop (mkF m 0 #[.val (.int k0), .val (.int k1), .val (.int k2), .val (.int k3), .unset, .unset, .unset, .unset, .unset, .unset, .unset] [])) t_ → Steps p.tables e below (s₁.setTop (entryFrame m #[(.int k0), (.int k1), (.int k2), (.int k3)] maxLocals)) t_ := fun t_ k_ => castTop (ef_0 m k0 k1 k2 k3) k_
  have O0 := own_ext_refl h0
  refine cps (A := ∃ (T101 : State) (hi : Int32), Stand p l e room_1 s m #[(.int k0), (.int k1), (.int k2), (.int k3)] below meth c T101 [] 0 0 ∧ T101.heap = h0 ∧ ∀ t_, Steps p.tables e below (T101.setTop (mkF m 15 #[.val (.int k0), .val (.int k1), .val (.int k2), .val (.int k3), .val (.int hi), .unset, .unset, .unset, .unset, .unset, .unset] [])) t_ → Steps p.tables e below (s₁.setTop (entryFrame m #[(.int k0), (.int k1), (.int k2), (.int k3)] maxLocals)) t_) (fun tail101 => ?_) (fun jn101 => ?_)
  · have pre102 : ∀ t_, Steps p.tables e below (s₁.setTop (mkF m 5 #[.val (.int k0), .val (.int k1), .val (.int k2), .val (.int k3), .unset, .unset, .unset, .unset, .unset, .unset, .unset] [(.int (((k3.toUInt32 >>> ((5 : Int32) &&& 31).toUInt32).toInt32) &&& (1 : Int32)))])) t_ → Steps p.tables e below (s₁.setTop (entryFrame m #[(.int k0), (.int k1), (.int k2), (.int k3)] maxLocals)) t_ := fun t_ k_ => pre0 t_ (by
      show Steps p.tables e below (s₁.setTop (mkF m 0 #[.val (.int k0), .val (.int k1), .val (.int k2), .val (.int k3), .unset, .unset, .unset, .unset, .unset, .unset, .unset] [])) _
      refine XS.iloadN X0.here hx rfl (hb hby at_0) rfl ?_
      show Steps p.tables e below (s₁.setTop (mkF m 1 #[.val (.int k0), .val (.int k1), .val (.int k2), .val (.int k3), .unset, .unset, .unset, .unset, .unset, .unset, .unset] [(.int k3)])) _
      refine XS.iconst X0.here hx rfl (hb hby at_1) ?_
      show Steps p.tables e below (s₁.setTop (mkF m 2 #[.val (.int k0), .val (.int k1), .val (.int k2), .val (.int k3), .unset, .unset, .unset, .unset, .unset, .unset, .unset] [(.int (5 : Int32)), (.int k3)])) _
      refine XS.iushr X0.here hx rfl (hb hby at_2) rfl ?_
      show Steps p.tables e below (s₁.setTop (mkF m 3 #[.val (.int k0), .val (.int k1), .val (.int k2), .val (.int k3), .unset, .unset, .unset, .unset, .unset, .unset, .unset] [(.int ((k3.toUInt32 >>> ((5 : Int32) &&& 31).toUInt32).toInt32))])) _
      refine XS.iconst X0.here hx rfl (hb hby at_3) ?_
      show Steps p.tables e below (s₁.setTop (mkF m 4 #[.val (.int k0), .val (.int k1), .val (.int k2), .val (.int k3), .unset, .unset, .unset, .unset, .unset, .unset, .unset] [(.int (1 : Int32)), (.int ((k3.toUInt32 >>> ((5 : Int32) &&& 31).toUInt32).toInt32))])) _
      refine XS.iand X0.here hx rfl (hb hby at_4) rfl ?_
      show Steps p.tables e below (s₁.setTop (mkF m 5 #[.val (.int k0), .val (.int k1), .val (.int k2), .val (.int k3), .unset, .unset, .unset, .unset, .unset, .unset, .unset] [(.int (((k3.toUInt32 >>> ((5 : Int32) &&& 31).toUInt32).toInt32) &&& (1 : Int32)))])) _
      exact k_)
    by_cases hc5_103 : (((k3.toUInt32 >>> ((5 : Int32) &&& 31).toUInt32).toInt32) &&& (1 : Int32)) = (0 : Int32)
    · have pre104 : ∀ t_, Steps p.tables e below (s₁.setTop (mkF m 15 #[.val (.int k0), .val (.int k1), .val (.int k2), .val (.int k3), .val (.int k1), .unset, .unset, .unset, .unset, .unset, .unset] [])) t_ → Steps p.tables e below (s₁.setTop (entryFrame m #[(.int k0), (.int k1), (.int k2), (.int k3)] maxLocals)) t_ := fun t_ k_ => pre102 t_ (by
        show Steps p.tables e below (s₁.setTop (mkF m 5 #[.val (.int k0), .val (.int k1), .val (.int k2), .val (.int k3), .unset, .unset, .unset, .unset, .unset, .unset, .unset] [(.int (((k3.toUInt32 >>> ((5 : Int32) &&& 31).toUInt32).toInt32) &&& (1 : Int32)))])) _
        refine XS.ifYes X0.here hx rfl (pc0 := 5) (pc' := 12) rfl (hb hby at_5) rfl ((if0 _ _).trans (teq hc5_103).1) (by decide) (by decide) ?_
        show Steps p.tables e below (s₁.setTop (mkF m 12 #[.val (.int k0), .val (.int k1), .val (.int k2), .val (.int k3), .unset, .unset, .unset, .unset, .unset, .unset, .unset] [])) _
        refine XS.iloadN X0.here hx rfl (hb hby at_12) rfl ?_
        show Steps p.tables e below (s₁.setTop (mkF m 13 #[.val (.int k0), .val (.int k1), .val (.int k2), .val (.int k3), .unset, .unset, .unset, .unset, .unset, .unset, .unset] [(.int k1)])) _
        refine XS.istore X0.here hx rfl (hb hby at_13) rfl (l' := #[.val (.int k0), .val (.int k1), .val (.int k2), .val (.int k3), .val (.int k1), .unset, .unset, .unset, .unset, .unset, .unset]) rfl ?_
        show Steps p.tables e below (s₁.setTop (mkF m 15 #[.val (.int k0), .val (.int k1), .val (.int k2), .val (.int k3), .val (.int k1), .unset, .unset, .unset, .unset, .unset, .unset] [])) _
        exact k_)
      exact tail101 ⟨s₁, k1, X0, e0, pre104⟩
    · have pre105 : ∀ t_, Steps p.tables e below (s₁.setTop (mkF m 15 #[.val (.int k0), .val (.int k1), .val (.int k2), .val (.int k3), .val (.int k0), .unset, .unset, .unset, .unset, .unset, .unset] [])) t_ → Steps p.tables e below (s₁.setTop (entryFrame m #[(.int k0), (.int k1), (.int k2), (.int k3)] maxLocals)) t_ := fun t_ k_ => pre102 t_ (by
        show Steps p.tables e below (s₁.setTop (mkF m 5 #[.val (.int k0), .val (.int k1), .val (.int k2), .val (.int k3), .unset, .unset, .unset, .unset, .unset, .unset, .unset] [(.int (((k3.toUInt32 >>> ((5 : Int32) &&& 31).toUInt32).toInt32) &&& (1 : Int32)))])) _
        refine XS.ifNo X0.here hx rfl (hb hby at_5) rfl ((if0 _ _).trans (feq hc5_103).1) ?_
        show Steps p.tables e below (s₁.setTop (mkF m 8 #[.val (.int k0), .val (.int k1), .val (.int k2), .val (.int k3), .unset, .unset, .unset, .unset, .unset, .unset, .unset] [])) _
        refine XS.iloadN X0.here hx rfl (hb hby at_8) rfl ?_
        show Steps p.tables e below (s₁.setTop (mkF m 9 #[.val (.int k0), .val (.int k1), .val (.int k2), .val (.int k3), .unset, .unset, .unset, .unset, .unset, .unset, .unset] [(.int k0)])) _
        refine XS.goto X0.here hx rfl (pc0 := 9) (pc' := 13) rfl (hb hby at_9) (by decide) (by decide) ?_
        show Steps p.tables e below (s₁.setTop (mkF m 13 #[.val (.int k0), .val (.int k1), .val (.int k2), .val (.int k3), .unset, .unset, .unset, .unset, .unset, .unset, .unset] [(.int k0)])) _
        refine XS.istore X0.here hx rfl (hb hby at_13) rfl (l' := #[.val (.int k0), .val (.int k1), .val (.int k2), .val (.int k3), .val (.int k0), .unset, .unset, .unset, .unset, .unset, .unset]) rfl ?_
        show Steps p.tables e below (s₁.setTop (mkF m 15 #[.val (.int k0), .val (.int k1), .val (.int k2), .val (.int k3), .val (.int k0), .unset, .unset, .unset, .unset, .unset, .unset] [])) _
        exact k_)
      exact tail101 ⟨s₁, k0, X0, e0, pre105⟩
  obtain ⟨T101, hi, X101, e101, pre101⟩ := jn101
  have pre106 : ∀ t_, Steps p.tables e below (T101.setTop (mkF m 21 #[.val (.int k0), .val (.int k1), .val (.int k2), .val (.int k3), .val (.int hi), .val (.int (k3 &&& (7 : Int32))), .unset, .unset, .unset, .unset, .unset] [])) t_ → Steps p.tables e below (s₁.setTop (entryFrame m #[(.int k0), (.int k1), (.int k2), (.int k3)] maxLocals)) t_ := fun t_ k_ => pre101 t_ (by
    show Steps p.tables e below (T101.setTop (mkF m 15 #[.val (.int k0), .val (.int k1), .val (.int k2), .val (.int k3), .val (.int hi), .unset, .unset, .unset, .unset, .unset, .unset] [])) _
    refine XS.iloadN X101.here hx rfl (hb hby at_15) rfl ?_
    show Steps p.tables e below (T101.setTop (mkF m 16 #[.val (.int k0), .val (.int k1), .val (.int k2), .val (.int k3), .val (.int hi), .unset, .unset, .unset, .unset, .unset, .unset] [(.int k3)])) _
    refine XS.bipush X101.here hx rfl (hb hby at_16) ?_
    show Steps p.tables e below (T101.setTop (mkF m 18 #[.val (.int k0), .val (.int k1), .val (.int k2), .val (.int k3), .val (.int hi), .unset, .unset, .unset, .unset, .unset, .unset] [(.int (7 : Int32)), (.int k3)])) _
    refine XS.iand X101.here hx rfl (hb hby at_18) rfl ?_
    show Steps p.tables e below (T101.setTop (mkF m 19 #[.val (.int k0), .val (.int k1), .val (.int k2), .val (.int k3), .val (.int hi), .unset, .unset, .unset, .unset, .unset, .unset] [(.int (k3 &&& (7 : Int32)))])) _
    refine XS.istore X101.here hx rfl (hb hby at_19) rfl (l' := #[.val (.int k0), .val (.int k1), .val (.int k2), .val (.int k3), .val (.int hi), .val (.int (k3 &&& (7 : Int32))), .unset, .unset, .unset, .unset, .unset]) rfl ?_
    show Steps p.tables e below (T101.setTop (mkF m 21 #[.val (.int k0), .val (.int k1), .val (.int k2), .val (.int k3), .val (.int hi), .val (.int (k3 &&& (7 : Int32))), .unset, .unset, .unset, .unset, .unset] [])) _
    exact k_)
  refine cps (A := ∃ (T107 : State) (va : Int32), Stand p l e room_1 s m #[(.int k0), (.int k1), (.int k2), (.int k3)] below meth c T107 [] 0 0 ∧ T107.heap = h0 ∧ ∀ t_, Steps p.tables e below (T107.setTop (mkF m 78 #[.val (.int k0), .val (.int k1), .val (.int k2), .val (.int k3), .val (.int hi), .val (.int (k3 &&& (7 : Int32))), .val (.int va), .unset, .unset, .unset, .unset] [])) t_ → Steps p.tables e below (s₁.setTop (entryFrame m #[(.int k0), (.int k1), (.int k2), (.int k3)] maxLocals)) t_) (fun tail107 => ?_) (fun jn107 => ?_)
  · have pre108 : ∀ t_, Steps p.tables e below (T101.setTop (mkF m 24 #[.val (.int k0), .val (.int k1), .val (.int k2), .val (.int k3), .val (.int hi), .val (.int (k3 &&& (7 : Int32))), .unset, .unset, .unset, .unset, .unset] [(.int (1 : Int32)), (.int (k3 &&& (7 : Int32)))])) t_ → Steps p.tables e below (s₁.setTop (entryFrame m #[(.int k0), (.int k1), (.int k2), (.int k3)] maxLocals)) t_ := fun t_ k_ => pre106 t_ (by
      show Steps p.tables e below (T101.setTop (mkF m 21 #[.val (.int k0), .val (.int k1), .val (.int k2), .val (.int k3), .val (.int hi), .val (.int (k3 &&& (7 : Int32))), .unset, .unset, .unset, .unset, .unset] [])) _
      refine XS.iload X101.here hx rfl (hb hby at_21) rfl ?_
      show Steps p.tables e below (T101.setTop (mkF m 23 #[.val (.int k0), .val (.int k1), .val (.int k2), .val (.int k3), .val (.int hi), .val (.int (k3 &&& (7 : Int32))), .unset, .unset, .unset, .unset, .unset] [(.int (k3 &&& (7 : Int32)))])) _
      refine XS.iconst X101.here hx rfl (hb hby at_23) ?_
      show Steps p.tables e below (T101.setTop (mkF m 24 #[.val (.int k0), .val (.int k1), .val (.int k2), .val (.int k3), .val (.int hi), .val (.int (k3 &&& (7 : Int32))), .unset, .unset, .unset, .unset, .unset] [(.int (1 : Int32)), (.int (k3 &&& (7 : Int32)))])) _
      exact k_)
    by_cases hc24_109 : (k3 &&& (7 : Int32)) = (1 : Int32)
    · have pre110 : ∀ t_, Steps p.tables e below (T101.setTop (mkF m 78 #[.val (.int k0), .val (.int k1), .val (.int k2), .val (.int k3), .val (.int hi), .val (.int (k3 &&& (7 : Int32))), .val (.int k0), .unset, .unset, .unset, .unset] [])) t_ → Steps p.tables e below (s₁.setTop (entryFrame m #[(.int k0), (.int k1), (.int k2), (.int k3)] maxLocals)) t_ := fun t_ k_ => pre108 t_ (by
        show Steps p.tables e below (T101.setTop (mkF m 24 #[.val (.int k0), .val (.int k1), .val (.int k2), .val (.int k3), .val (.int hi), .val (.int (k3 &&& (7 : Int32))), .unset, .unset, .unset, .unset, .unset] [(.int (1 : Int32)), (.int (k3 &&& (7 : Int32)))])) _
        refine XS.icmpNo X101.here hx rfl (hb hby at_24) rfl (teq hc24_109).2 ?_
        show Steps p.tables e below (T101.setTop (mkF m 27 #[.val (.int k0), .val (.int k1), .val (.int k2), .val (.int k3), .val (.int hi), .val (.int (k3 &&& (7 : Int32))), .unset, .unset, .unset, .unset, .unset] [])) _
        refine XS.iloadN X101.here hx rfl (hb hby at_27) rfl ?_
        show Steps p.tables e below (T101.setTop (mkF m 28 #[.val (.int k0), .val (.int k1), .val (.int k2), .val (.int k3), .val (.int hi), .val (.int (k3 &&& (7 : Int32))), .unset, .unset, .unset, .unset, .unset] [(.int k0)])) _
        refine XS.istore X101.here hx rfl (hb hby at_28) rfl (l' := #[.val (.int k0), .val (.int k1), .val (.int k2), .val (.int k3), .val (.int hi), .val (.int (k3 &&& (7 : Int32))), .val (.int k0), .unset, .unset, .unset, .unset]) rfl ?_
        show Steps p.tables e below (T101.setTop (mkF m 30 #[.val (.int k0), .val (.int k1), .val (.int k2), .val (.int k3), .val (.int hi), .val (.int (k3 &&& (7 : Int32))), .val (.int k0), .unset, .unset, .unset, .unset] [])) _
        refine XS.goto X101.here hx rfl (pc0 := 30) (pc' := 78) rfl (hb hby at_30) (by decide) (by decide) ?_
        show Steps p.tables e below (T101.setTop (mkF m 78 #[.val (.int k0), .val (.int k1), .val (.int k2), .val (.int k3), .val (.int hi), .val (.int (k3 &&& (7 : Int32))), .val (.int k0), .unset, .unset, .unset, .unset] [])) _
        exact k_)
      exact tail107 ⟨T101, k0, X101, e101, pre110⟩
    · have pre111 : ∀ t_, Steps p.tables e below (T101.setTop (mkF m 36 #[.val (.int k0), .val (.int k1), .val (.int k2), .val (.int k3), .val (.int hi), .val (.int (k3 &&& (7 : Int32))), .unset, .unset, .unset, .unset, .unset] [(.int (2 : Int32)), (.int (k3 &&& (7 : Int32)))])) t_ → Steps p.tables e below (s₁.setTop (entryFrame m #[(.int k0), (.int k1), (.int k2), (.int k3)] maxLocals)) t_ := fun t_ k_ => pre108 t_ (by
        show Steps p.tables e below (T101.setTop (mkF m 24 #[.val (.int k0), .val (.int k1), .val (.int k2), .val (.int k3), .val (.int hi), .val (.int (k3 &&& (7 : Int32))), .unset, .unset, .unset, .unset, .unset] [(.int (1 : Int32)), (.int (k3 &&& (7 : Int32)))])) _
        refine XS.icmpYes X101.here hx rfl (pc0 := 24) (pc' := 33) rfl (hb hby at_24) rfl (feq hc24_109).2 (by decide) (by decide) ?_
        show Steps p.tables e below (T101.setTop (mkF m 33 #[.val (.int k0), .val (.int k1), .val (.int k2), .val (.int k3), .val (.int hi), .val (.int (k3 &&& (7 : Int32))), .unset, .unset, .unset, .unset, .unset] [])) _
        refine XS.iload X101.here hx rfl (hb hby at_33) rfl ?_
        show Steps p.tables e below (T101.setTop (mkF m 35 #[.val (.int k0), .val (.int k1), .val (.int k2), .val (.int k3), .val (.int hi), .val (.int (k3 &&& (7 : Int32))), .unset, .unset, .unset, .unset, .unset] [(.int (k3 &&& (7 : Int32)))])) _
        refine XS.iconst X101.here hx rfl (hb hby at_35) ?_
        show Steps p.tables e below (T101.setTop (mkF m 36 #[.val (.int k0), .val (.int k1), .val (.int k2), .val (.int k3), .val (.int hi), .val (.int (k3 &&& (7 : Int32))), .unset, .unset, .unset, .unset, .unset] [(.int (2 : Int32)), (.int (k3 &&& (7 : Int32)))])) _
        exact k_)
      by_cases hc36_112 : (k3 &&& (7 : Int32)) = (2 : Int32)
      · have pre113 : ∀ t_, Steps p.tables e below (T101.setTop (mkF m 78 #[.val (.int k0), .val (.int k1), .val (.int k2), .val (.int k3), .val (.int hi), .val (.int (k3 &&& (7 : Int32))), .val (.int hi), .unset, .unset, .unset, .unset] [])) t_ → Steps p.tables e below (s₁.setTop (entryFrame m #[(.int k0), (.int k1), (.int k2), (.int k3)] maxLocals)) t_ := fun t_ k_ => pre111 t_ (by
          show Steps p.tables e below (T101.setTop (mkF m 36 #[.val (.int k0), .val (.int k1), .val (.int k2), .val (.int k3), .val (.int hi), .val (.int (k3 &&& (7 : Int32))), .unset, .unset, .unset, .unset, .unset] [(.int (2 : Int32)), (.int (k3 &&& (7 : Int32)))])) _
          refine XS.icmpNo X101.here hx rfl (hb hby at_36) rfl (teq hc36_112).2 ?_
          show Steps p.tables e below (T101.setTop (mkF m 39 #[.val (.int k0), .val (.int k1), .val (.int k2), .val (.int k3), .val (.int hi), .val (.int (k3 &&& (7 : Int32))), .unset, .unset, .unset, .unset, .unset] [])) _
          refine XS.iload X101.here hx rfl (hb hby at_39) rfl ?_
          show Steps p.tables e below (T101.setTop (mkF m 41 #[.val (.int k0), .val (.int k1), .val (.int k2), .val (.int k3), .val (.int hi), .val (.int (k3 &&& (7 : Int32))), .unset, .unset, .unset, .unset, .unset] [(.int hi)])) _
          refine XS.istore X101.here hx rfl (hb hby at_41) rfl (l' := #[.val (.int k0), .val (.int k1), .val (.int k2), .val (.int k3), .val (.int hi), .val (.int (k3 &&& (7 : Int32))), .val (.int hi), .unset, .unset, .unset, .unset]) rfl ?_
          show Steps p.tables e below (T101.setTop (mkF m 43 #[.val (.int k0), .val (.int k1), .val (.int k2), .val (.int k3), .val (.int hi), .val (.int (k3 &&& (7 : Int32))), .val (.int hi), .unset, .unset, .unset, .unset] [])) _
          refine XS.goto X101.here hx rfl (pc0 := 43) (pc' := 78) rfl (hb hby at_43) (by decide) (by decide) ?_
          show Steps p.tables e below (T101.setTop (mkF m 78 #[.val (.int k0), .val (.int k1), .val (.int k2), .val (.int k3), .val (.int hi), .val (.int (k3 &&& (7 : Int32))), .val (.int hi), .unset, .unset, .unset, .unset] [])) _
          exact k_)
        exact tail107 ⟨T101, hi, X101, e101, pre113⟩
      · have pre114 : ∀ t_, Steps p.tables e below (T101.setTop (mkF m 49 #[.val (.int k0), .val (.int k1), .val (.int k2), .val (.int k3), .val (.int hi), .val (.int (k3 &&& (7 : Int32))), .unset, .unset, .unset, .unset, .unset] [(.int (3 : Int32)), (.int (k3 &&& (7 : Int32)))])) t_ → Steps p.tables e below (s₁.setTop (entryFrame m #[(.int k0), (.int k1), (.int k2), (.int k3)] maxLocals)) t_ := fun t_ k_ => pre111 t_ (by
          show Steps p.tables e below (T101.setTop (mkF m 36 #[.val (.int k0), .val (.int k1), .val (.int k2), .val (.int k3), .val (.int hi), .val (.int (k3 &&& (7 : Int32))), .unset, .unset, .unset, .unset, .unset] [(.int (2 : Int32)), (.int (k3 &&& (7 : Int32)))])) _
          refine XS.icmpYes X101.here hx rfl (pc0 := 36) (pc' := 46) rfl (hb hby at_36) rfl (feq hc36_112).2 (by decide) (by decide) ?_
          show Steps p.tables e below (T101.setTop (mkF m 46 #[.val (.int k0), .val (.int k1), .val (.int k2), .val (.int k3), .val (.int hi), .val (.int (k3 &&& (7 : Int32))), .unset, .unset, .unset, .unset, .unset] [])) _
          refine XS.iload X101.here hx rfl (hb hby at_46) rfl ?_
          show Steps p.tables e below (T101.setTop (mkF m 48 #[.val (.int k0), .val (.int k1), .val (.int k2), .val (.int k3), .val (.int hi), .val (.int (k3 &&& (7 : Int32))), .unset, .unset, .unset, .unset, .unset] [(.int (k3 &&& (7 : Int32)))])) _
          refine XS.iconst X101.here hx rfl (hb hby at_48) ?_
          show Steps p.tables e below (T101.setTop (mkF m 49 #[.val (.int k0), .val (.int k1), .val (.int k2), .val (.int k3), .val (.int hi), .val (.int (k3 &&& (7 : Int32))), .unset, .unset, .unset, .unset, .unset] [(.int (3 : Int32)), (.int (k3 &&& (7 : Int32)))])) _
          exact k_)
        by_cases hc49_115 : (k3 &&& (7 : Int32)) = (3 : Int32)
        · have pre116 : ∀ t_, Steps p.tables e below (T101.setTop (mkF m 78 #[.val (.int k0), .val (.int k1), .val (.int k2), .val (.int k3), .val (.int hi), .val (.int (k3 &&& (7 : Int32))), .val (.int (k0 - (1 : Int32))), .unset, .unset, .unset, .unset] [])) t_ → Steps p.tables e below (s₁.setTop (entryFrame m #[(.int k0), (.int k1), (.int k2), (.int k3)] maxLocals)) t_ := fun t_ k_ => pre114 t_ (by
            show Steps p.tables e below (T101.setTop (mkF m 49 #[.val (.int k0), .val (.int k1), .val (.int k2), .val (.int k3), .val (.int hi), .val (.int (k3 &&& (7 : Int32))), .unset, .unset, .unset, .unset, .unset] [(.int (3 : Int32)), (.int (k3 &&& (7 : Int32)))])) _
            refine XS.icmpNo X101.here hx rfl (hb hby at_49) rfl (teq hc49_115).2 ?_
            show Steps p.tables e below (T101.setTop (mkF m 52 #[.val (.int k0), .val (.int k1), .val (.int k2), .val (.int k3), .val (.int hi), .val (.int (k3 &&& (7 : Int32))), .unset, .unset, .unset, .unset, .unset] [])) _
            refine XS.iloadN X101.here hx rfl (hb hby at_52) rfl ?_
            show Steps p.tables e below (T101.setTop (mkF m 53 #[.val (.int k0), .val (.int k1), .val (.int k2), .val (.int k3), .val (.int hi), .val (.int (k3 &&& (7 : Int32))), .unset, .unset, .unset, .unset, .unset] [(.int k0)])) _
            refine XS.iconst X101.here hx rfl (hb hby at_53) ?_
            show Steps p.tables e below (T101.setTop (mkF m 54 #[.val (.int k0), .val (.int k1), .val (.int k2), .val (.int k3), .val (.int hi), .val (.int (k3 &&& (7 : Int32))), .unset, .unset, .unset, .unset, .unset] [(.int (1 : Int32)), (.int k0)])) _
            refine XS.isub X101.here hx rfl (hb hby at_54) rfl ?_
            show Steps p.tables e below (T101.setTop (mkF m 55 #[.val (.int k0), .val (.int k1), .val (.int k2), .val (.int k3), .val (.int hi), .val (.int (k3 &&& (7 : Int32))), .unset, .unset, .unset, .unset, .unset] [(.int (k0 - (1 : Int32)))])) _
            refine XS.istore X101.here hx rfl (hb hby at_55) rfl (l' := #[.val (.int k0), .val (.int k1), .val (.int k2), .val (.int k3), .val (.int hi), .val (.int (k3 &&& (7 : Int32))), .val (.int (k0 - (1 : Int32))), .unset, .unset, .unset, .unset]) rfl ?_
            show Steps p.tables e below (T101.setTop (mkF m 57 #[.val (.int k0), .val (.int k1), .val (.int k2), .val (.int k3), .val (.int hi), .val (.int (k3 &&& (7 : Int32))), .val (.int (k0 - (1 : Int32))), .unset, .unset, .unset, .unset] [])) _
            refine XS.goto X101.here hx rfl (pc0 := 57) (pc' := 78) rfl (hb hby at_57) (by decide) (by decide) ?_
            show Steps p.tables e below (T101.setTop (mkF m 78 #[.val (.int k0), .val (.int k1), .val (.int k2), .val (.int k3), .val (.int hi), .val (.int (k3 &&& (7 : Int32))), .val (.int (k0 - (1 : Int32))), .unset, .unset, .unset, .unset] [])) _
            exact k_)
          exact tail107 ⟨T101, (k0 - (1 : Int32)), X101, e101, pre116⟩
        · have pre117 : ∀ t_, Steps p.tables e below (T101.setTop (mkF m 63 #[.val (.int k0), .val (.int k1), .val (.int k2), .val (.int k3), .val (.int hi), .val (.int (k3 &&& (7 : Int32))), .unset, .unset, .unset, .unset, .unset] [(.int (4 : Int32)), (.int (k3 &&& (7 : Int32)))])) t_ → Steps p.tables e below (s₁.setTop (entryFrame m #[(.int k0), (.int k1), (.int k2), (.int k3)] maxLocals)) t_ := fun t_ k_ => pre114 t_ (by
            show Steps p.tables e below (T101.setTop (mkF m 49 #[.val (.int k0), .val (.int k1), .val (.int k2), .val (.int k3), .val (.int hi), .val (.int (k3 &&& (7 : Int32))), .unset, .unset, .unset, .unset, .unset] [(.int (3 : Int32)), (.int (k3 &&& (7 : Int32)))])) _
            refine XS.icmpYes X101.here hx rfl (pc0 := 49) (pc' := 60) rfl (hb hby at_49) rfl (feq hc49_115).2 (by decide) (by decide) ?_
            show Steps p.tables e below (T101.setTop (mkF m 60 #[.val (.int k0), .val (.int k1), .val (.int k2), .val (.int k3), .val (.int hi), .val (.int (k3 &&& (7 : Int32))), .unset, .unset, .unset, .unset, .unset] [])) _
            refine XS.iload X101.here hx rfl (hb hby at_60) rfl ?_
            show Steps p.tables e below (T101.setTop (mkF m 62 #[.val (.int k0), .val (.int k1), .val (.int k2), .val (.int k3), .val (.int hi), .val (.int (k3 &&& (7 : Int32))), .unset, .unset, .unset, .unset, .unset] [(.int (k3 &&& (7 : Int32)))])) _
            refine XS.iconst X101.here hx rfl (hb hby at_62) ?_
            show Steps p.tables e below (T101.setTop (mkF m 63 #[.val (.int k0), .val (.int k1), .val (.int k2), .val (.int k3), .val (.int hi), .val (.int (k3 &&& (7 : Int32))), .unset, .unset, .unset, .unset, .unset] [(.int (4 : Int32)), (.int (k3 &&& (7 : Int32)))])) _
            exact k_)
          by_cases hc63_118 : (k3 &&& (7 : Int32)) = (4 : Int32)
          · have pre119 : ∀ t_, Steps p.tables e below (T101.setTop (mkF m 78 #[.val (.int k0), .val (.int k1), .val (.int k2), .val (.int k3), .val (.int hi), .val (.int (k3 &&& (7 : Int32))), .val (.int (hi + (1 : Int32))), .unset, .unset, .unset, .unset] [])) t_ → Steps p.tables e below (s₁.setTop (entryFrame m #[(.int k0), (.int k1), (.int k2), (.int k3)] maxLocals)) t_ := fun t_ k_ => pre117 t_ (by
              show Steps p.tables e below (T101.setTop (mkF m 63 #[.val (.int k0), .val (.int k1), .val (.int k2), .val (.int k3), .val (.int hi), .val (.int (k3 &&& (7 : Int32))), .unset, .unset, .unset, .unset, .unset] [(.int (4 : Int32)), (.int (k3 &&& (7 : Int32)))])) _
              refine XS.icmpNo X101.here hx rfl (hb hby at_63) rfl (teq hc63_118).2 ?_
              show Steps p.tables e below (T101.setTop (mkF m 66 #[.val (.int k0), .val (.int k1), .val (.int k2), .val (.int k3), .val (.int hi), .val (.int (k3 &&& (7 : Int32))), .unset, .unset, .unset, .unset, .unset] [])) _
              refine XS.iload X101.here hx rfl (hb hby at_66) rfl ?_
              show Steps p.tables e below (T101.setTop (mkF m 68 #[.val (.int k0), .val (.int k1), .val (.int k2), .val (.int k3), .val (.int hi), .val (.int (k3 &&& (7 : Int32))), .unset, .unset, .unset, .unset, .unset] [(.int hi)])) _
              refine XS.iconst X101.here hx rfl (hb hby at_68) ?_
              show Steps p.tables e below (T101.setTop (mkF m 69 #[.val (.int k0), .val (.int k1), .val (.int k2), .val (.int k3), .val (.int hi), .val (.int (k3 &&& (7 : Int32))), .unset, .unset, .unset, .unset, .unset] [(.int (1 : Int32)), (.int hi)])) _
              refine XS.iadd X101.here hx rfl (hb hby at_69) rfl ?_
              show Steps p.tables e below (T101.setTop (mkF m 70 #[.val (.int k0), .val (.int k1), .val (.int k2), .val (.int k3), .val (.int hi), .val (.int (k3 &&& (7 : Int32))), .unset, .unset, .unset, .unset, .unset] [(.int (hi + (1 : Int32)))])) _
              refine XS.istore X101.here hx rfl (hb hby at_70) rfl (l' := #[.val (.int k0), .val (.int k1), .val (.int k2), .val (.int k3), .val (.int hi), .val (.int (k3 &&& (7 : Int32))), .val (.int (hi + (1 : Int32))), .unset, .unset, .unset, .unset]) rfl ?_
              show Steps p.tables e below (T101.setTop (mkF m 72 #[.val (.int k0), .val (.int k1), .val (.int k2), .val (.int k3), .val (.int hi), .val (.int (k3 &&& (7 : Int32))), .val (.int (hi + (1 : Int32))), .unset, .unset, .unset, .unset] [])) _
              refine XS.goto X101.here hx rfl (pc0 := 72) (pc' := 78) rfl (hb hby at_72) (by decide) (by decide) ?_
              show Steps p.tables e below (T101.setTop (mkF m 78 #[.val (.int k0), .val (.int k1), .val (.int k2), .val (.int k3), .val (.int hi), .val (.int (k3 &&& (7 : Int32))), .val (.int (hi + (1 : Int32))), .unset, .unset, .unset, .unset] [])) _
              exact k_)
            exact tail107 ⟨T101, (hi + (1 : Int32)), X101, e101, pre119⟩
          · have pre120 : ∀ t_, Steps p.tables e below (T101.setTop (mkF m 78 #[.val (.int k0), .val (.int k1), .val (.int k2), .val (.int k3), .val (.int hi), .val (.int (k3 &&& (7 : Int32))), .val (.int k2), .unset, .unset, .unset, .unset] [])) t_ → Steps p.tables e below (s₁.setTop (entryFrame m #[(.int k0), (.int k1), (.int k2), (.int k3)] maxLocals)) t_ := fun t_ k_ => pre117 t_ (by
              show Steps p.tables e below (T101.setTop (mkF m 63 #[.val (.int k0), .val (.int k1), .val (.int k2), .val (.int k3), .val (.int hi), .val (.int (k3 &&& (7 : Int32))), .unset, .unset, .unset, .unset, .unset] [(.int (4 : Int32)), (.int (k3 &&& (7 : Int32)))])) _
              refine XS.icmpYes X101.here hx rfl (pc0 := 63) (pc' := 75) rfl (hb hby at_63) rfl (feq hc63_118).2 (by decide) (by decide) ?_
              show Steps p.tables e below (T101.setTop (mkF m 75 #[.val (.int k0), .val (.int k1), .val (.int k2), .val (.int k3), .val (.int hi), .val (.int (k3 &&& (7 : Int32))), .unset, .unset, .unset, .unset, .unset] [])) _
              refine XS.iloadN X101.here hx rfl (hb hby at_75) rfl ?_
              show Steps p.tables e below (T101.setTop (mkF m 76 #[.val (.int k0), .val (.int k1), .val (.int k2), .val (.int k3), .val (.int hi), .val (.int (k3 &&& (7 : Int32))), .unset, .unset, .unset, .unset, .unset] [(.int k2)])) _
              refine XS.istore X101.here hx rfl (hb hby at_76) rfl (l' := #[.val (.int k0), .val (.int k1), .val (.int k2), .val (.int k3), .val (.int hi), .val (.int (k3 &&& (7 : Int32))), .val (.int k2), .unset, .unset, .unset, .unset]) rfl ?_
              show Steps p.tables e below (T101.setTop (mkF m 78 #[.val (.int k0), .val (.int k1), .val (.int k2), .val (.int k3), .val (.int hi), .val (.int (k3 &&& (7 : Int32))), .val (.int k2), .unset, .unset, .unset, .unset] [])) _
              exact k_)
            exact tail107 ⟨T101, k2, X101, e101, pre120⟩
  obtain ⟨T107, va, X107, e107, pre107⟩ := jn107
  have pre121 : ∀ t_, Steps p.tables e below (T107.setTop (mkF m 85 #[.val (.int k0), .val (.int k1), .val (.int k2), .val (.int k3), .val (.int hi), .val (.int (k3 &&& (7 : Int32))), .val (.int va), .val (.int (((k3.toUInt32 >>> ((3 : Int32) &&& 31).toUInt32).toInt32) &&& (3 : Int32))), .unset, .unset, .unset] [])) t_ → Steps p.tables e below (s₁.setTop (entryFrame m #[(.int k0), (.int k1), (.int k2), (.int k3)] maxLocals)) t_ := fun t_ k_ => pre107 t_ (by
    show Steps p.tables e below (T107.setTop (mkF m 78 #[.val (.int k0), .val (.int k1), .val (.int k2), .val (.int k3), .val (.int hi), .val (.int (k3 &&& (7 : Int32))), .val (.int va), .unset, .unset, .unset, .unset] [])) _
    refine XS.iloadN X107.here hx rfl (hb hby at_78) rfl ?_
    show Steps p.tables e below (T107.setTop (mkF m 79 #[.val (.int k0), .val (.int k1), .val (.int k2), .val (.int k3), .val (.int hi), .val (.int (k3 &&& (7 : Int32))), .val (.int va), .unset, .unset, .unset, .unset] [(.int k3)])) _
    refine XS.iconst X107.here hx rfl (hb hby at_79) ?_
    show Steps p.tables e below (T107.setTop (mkF m 80 #[.val (.int k0), .val (.int k1), .val (.int k2), .val (.int k3), .val (.int hi), .val (.int (k3 &&& (7 : Int32))), .val (.int va), .unset, .unset, .unset, .unset] [(.int (3 : Int32)), (.int k3)])) _
    refine XS.iushr X107.here hx rfl (hb hby at_80) rfl ?_
    show Steps p.tables e below (T107.setTop (mkF m 81 #[.val (.int k0), .val (.int k1), .val (.int k2), .val (.int k3), .val (.int hi), .val (.int (k3 &&& (7 : Int32))), .val (.int va), .unset, .unset, .unset, .unset] [(.int ((k3.toUInt32 >>> ((3 : Int32) &&& 31).toUInt32).toInt32))])) _
    refine XS.iconst X107.here hx rfl (hb hby at_81) ?_
    show Steps p.tables e below (T107.setTop (mkF m 82 #[.val (.int k0), .val (.int k1), .val (.int k2), .val (.int k3), .val (.int hi), .val (.int (k3 &&& (7 : Int32))), .val (.int va), .unset, .unset, .unset, .unset] [(.int (3 : Int32)), (.int ((k3.toUInt32 >>> ((3 : Int32) &&& 31).toUInt32).toInt32))])) _
    refine XS.iand X107.here hx rfl (hb hby at_82) rfl ?_
    show Steps p.tables e below (T107.setTop (mkF m 83 #[.val (.int k0), .val (.int k1), .val (.int k2), .val (.int k3), .val (.int hi), .val (.int (k3 &&& (7 : Int32))), .val (.int va), .unset, .unset, .unset, .unset] [(.int (((k3.toUInt32 >>> ((3 : Int32) &&& 31).toUInt32).toInt32) &&& (3 : Int32)))])) _
    refine XS.istore X107.here hx rfl (hb hby at_83) rfl (l' := #[.val (.int k0), .val (.int k1), .val (.int k2), .val (.int k3), .val (.int hi), .val (.int (k3 &&& (7 : Int32))), .val (.int va), .val (.int (((k3.toUInt32 >>> ((3 : Int32) &&& 31).toUInt32).toInt32) &&& (3 : Int32))), .unset, .unset, .unset]) rfl ?_
    show Steps p.tables e below (T107.setTop (mkF m 85 #[.val (.int k0), .val (.int k1), .val (.int k2), .val (.int k3), .val (.int hi), .val (.int (k3 &&& (7 : Int32))), .val (.int va), .val (.int (((k3.toUInt32 >>> ((3 : Int32) &&& 31).toUInt32).toInt32) &&& (3 : Int32))), .unset, .unset, .unset] [])) _
    exact k_)
  refine cps (A := ∃ (T122 : State) (wt : Addr), Stand p l e room_1 s m #[(.int k0), (.int k1), (.int k2), (.int k3)] below meth c T122 [] 0 0 ∧ T122.heap = h0 ∧ ∀ t_, Steps p.tables e below (T122.setTop (mkF m 117 #[.val (.int k0), .val (.int k1), .val (.int k2), .val (.int k3), .val (.int hi), .val (.int (k3 &&& (7 : Int32))), .val (.int va), .val (.int (((k3.toUInt32 >>> ((3 : Int32) &&& 31).toUInt32).toInt32) &&& (3 : Int32))), .val (.ref wt), .unset, .unset] [])) t_ → Steps p.tables e below (s₁.setTop (entryFrame m #[(.int k0), (.int k1), (.int k2), (.int k3)] maxLocals)) t_) (fun tail122 => ?_) (fun jn122 => ?_)
  · have pre123 : ∀ t_, Steps p.tables e below (T107.setTop (mkF m 87 #[.val (.int k0), .val (.int k1), .val (.int k2), .val (.int k3), .val (.int hi), .val (.int (k3 &&& (7 : Int32))), .val (.int va), .val (.int (((k3.toUInt32 >>> ((3 : Int32) &&& 31).toUInt32).toInt32) &&& (3 : Int32))), .unset, .unset, .unset] [(.int (((k3.toUInt32 >>> ((3 : Int32) &&& 31).toUInt32).toInt32) &&& (3 : Int32)))])) t_ → Steps p.tables e below (s₁.setTop (entryFrame m #[(.int k0), (.int k1), (.int k2), (.int k3)] maxLocals)) t_ := fun t_ k_ => pre121 t_ (by
      show Steps p.tables e below (T107.setTop (mkF m 85 #[.val (.int k0), .val (.int k1), .val (.int k2), .val (.int k3), .val (.int hi), .val (.int (k3 &&& (7 : Int32))), .val (.int va), .val (.int (((k3.toUInt32 >>> ((3 : Int32) &&& 31).toUInt32).toInt32) &&& (3 : Int32))), .unset, .unset, .unset] [])) _
      refine XS.iload X107.here hx rfl (hb hby at_85) rfl ?_
      show Steps p.tables e below (T107.setTop (mkF m 87 #[.val (.int k0), .val (.int k1), .val (.int k2), .val (.int k3), .val (.int hi), .val (.int (k3 &&& (7 : Int32))), .val (.int va), .val (.int (((k3.toUInt32 >>> ((3 : Int32) &&& 31).toUInt32).toInt32) &&& (3 : Int32))), .unset, .unset, .unset] [(.int (((k3.toUInt32 >>> ((3 : Int32) &&& 31).toUInt32).toInt32) &&& (3 : Int32)))])) _
      exact k_)
    by_cases hc87_124 : (((k3.toUInt32 >>> ((3 : Int32) &&& 31).toUInt32).toInt32) &&& (3 : Int32)) = (0 : Int32)
    · obtain ⟨T125, X125, e125, st125⟩ := getS2 X107 hx hZ hown (host := "") (Or.inl (hw _ (List.mem_of_getElem? (i := 0) rfl))) Via.refl e107 S_INT (g := (mkF m 90 #[.val (.int k0), .val (.int k1), .val (.int k2), .val (.int k3), .val (.int hi), .val (.int (k3 &&& (7 : Int32))), .val (.int va), .val (.int (((k3.toUInt32 >>> ((3 : Int32) &&& 31).toUInt32).toInt32) &&& (3 : Int32))), .unset, .unset, .unset] [])) rfl (hb hby at_90)
      have pre126 : ∀ t_, Steps p.tables e below (T125.setTop (mkF m 117 #[.val (.int k0), .val (.int k1), .val (.int k2), .val (.int k3), .val (.int hi), .val (.int (k3 &&& (7 : Int32))), .val (.int va), .val (.int (((k3.toUInt32 >>> ((3 : Int32) &&& 31).toUInt32).toInt32) &&& (3 : Int32))), .val (.ref w_INT), .unset, .unset] [])) t_ → Steps p.tables e below (s₁.setTop (entryFrame m #[(.int k0), (.int k1), (.int k2), (.int k3)] maxLocals)) t_ := fun t_ k_ => pre123 t_ (by
        show Steps p.tables e below (T107.setTop (mkF m 87 #[.val (.int k0), .val (.int k1), .val (.int k2), .val (.int k3), .val (.int hi), .val (.int (k3 &&& (7 : Int32))), .val (.int va), .val (.int (((k3.toUInt32 >>> ((3 : Int32) &&& 31).toUInt32).toInt32) &&& (3 : Int32))), .unset, .unset, .unset] [(.int (((k3.toUInt32 >>> ((3 : Int32) &&& 31).toUInt32).toInt32) &&& (3 : Int32)))])) _
        refine XS.ifNo X107.here hx rfl (hb hby at_87) rfl ((if0 _ _).trans (teq hc87_124).2) ?_
        show Steps p.tables e below (T107.setTop (mkF m 90 #[.val (.int k0), .val (.int k1), .val (.int k2), .val (.int k3), .val (.int hi), .val (.int (k3 &&& (7 : Int32))), .val (.int va), .val (.int (((k3.toUInt32 >>> ((3 : Int32) &&& 31).toUInt32).toInt32) &&& (3 : Int32))), .unset, .unset, .unset] [])) _
        refine st125 _ ?_
        show Steps p.tables e below (T125.setTop (mkF m 93 #[.val (.int k0), .val (.int k1), .val (.int k2), .val (.int k3), .val (.int hi), .val (.int (k3 &&& (7 : Int32))), .val (.int va), .val (.int (((k3.toUInt32 >>> ((3 : Int32) &&& 31).toUInt32).toInt32) &&& (3 : Int32))), .unset, .unset, .unset] [(.ref w_INT)])) _
        refine XS.astore X125.here hx rfl (hb hby at_93) rfl rfl (l' := #[.val (.int k0), .val (.int k1), .val (.int k2), .val (.int k3), .val (.int hi), .val (.int (k3 &&& (7 : Int32))), .val (.int va), .val (.int (((k3.toUInt32 >>> ((3 : Int32) &&& 31).toUInt32).toInt32) &&& (3 : Int32))), .val (.ref w_INT), .unset, .unset]) rfl ?_
        show Steps p.tables e below (T125.setTop (mkF m 95 #[.val (.int k0), .val (.int k1), .val (.int k2), .val (.int k3), .val (.int hi), .val (.int (k3 &&& (7 : Int32))), .val (.int va), .val (.int (((k3.toUInt32 >>> ((3 : Int32) &&& 31).toUInt32).toInt32) &&& (3 : Int32))), .val (.ref w_INT), .unset, .unset] [])) _
        refine XS.goto X125.here hx rfl (pc0 := 95) (pc' := 117) rfl (hb hby at_95) (by decide) (by decide) ?_
        show Steps p.tables e below (T125.setTop (mkF m 117 #[.val (.int k0), .val (.int k1), .val (.int k2), .val (.int k3), .val (.int hi), .val (.int (k3 &&& (7 : Int32))), .val (.int va), .val (.int (((k3.toUInt32 >>> ((3 : Int32) &&& 31).toUInt32).toInt32) &&& (3 : Int32))), .val (.ref w_INT), .unset, .unset] [])) _
        exact k_)
      exact tail122 ⟨T125, w_INT, X125, e125, pre126⟩
    · have pre127 : ∀ t_, Steps p.tables e below (T107.setTop (mkF m 101 #[.val (.int k0), .val (.int k1), .val (.int k2), .val (.int k3), .val (.int hi), .val (.int (k3 &&& (7 : Int32))), .val (.int va), .val (.int (((k3.toUInt32 >>> ((3 : Int32) &&& 31).toUInt32).toInt32) &&& (3 : Int32))), .unset, .unset, .unset] [(.int (1 : Int32)), (.int (((k3.toUInt32 >>> ((3 : Int32) &&& 31).toUInt32).toInt32) &&& (3 : Int32)))])) t_ → Steps p.tables e below (s₁.setTop (entryFrame m #[(.int k0), (.int k1), (.int k2), (.int k3)] maxLocals)) t_ := fun t_ k_ => pre123 t_ (by
        show Steps p.tables e below (T107.setTop (mkF m 87 #[.val (.int k0), .val (.int k1), .val (.int k2), .val (.int k3), .val (.int hi), .val (.int (k3 &&& (7 : Int32))), .val (.int va), .val (.int (((k3.toUInt32 >>> ((3 : Int32) &&& 31).toUInt32).toInt32) &&& (3 : Int32))), .unset, .unset, .unset] [(.int (((k3.toUInt32 >>> ((3 : Int32) &&& 31).toUInt32).toInt32) &&& (3 : Int32)))])) _
        refine XS.ifYes X107.here hx rfl (pc0 := 87) (pc' := 98) rfl (hb hby at_87) rfl ((if0 _ _).trans (feq hc87_124).2) (by decide) (by decide) ?_
        show Steps p.tables e below (T107.setTop (mkF m 98 #[.val (.int k0), .val (.int k1), .val (.int k2), .val (.int k3), .val (.int hi), .val (.int (k3 &&& (7 : Int32))), .val (.int va), .val (.int (((k3.toUInt32 >>> ((3 : Int32) &&& 31).toUInt32).toInt32) &&& (3 : Int32))), .unset, .unset, .unset] [])) _
        refine XS.iload X107.here hx rfl (hb hby at_98) rfl ?_
        show Steps p.tables e below (T107.setTop (mkF m 100 #[.val (.int k0), .val (.int k1), .val (.int k2), .val (.int k3), .val (.int hi), .val (.int (k3 &&& (7 : Int32))), .val (.int va), .val (.int (((k3.toUInt32 >>> ((3 : Int32) &&& 31).toUInt32).toInt32) &&& (3 : Int32))), .unset, .unset, .unset] [(.int (((k3.toUInt32 >>> ((3 : Int32) &&& 31).toUInt32).toInt32) &&& (3 : Int32)))])) _
        refine XS.iconst X107.here hx rfl (hb hby at_100) ?_
        show Steps p.tables e below (T107.setTop (mkF m 101 #[.val (.int k0), .val (.int k1), .val (.int k2), .val (.int k3), .val (.int hi), .val (.int (k3 &&& (7 : Int32))), .val (.int va), .val (.int (((k3.toUInt32 >>> ((3 : Int32) &&& 31).toUInt32).toInt32) &&& (3 : Int32))), .unset, .unset, .unset] [(.int (1 : Int32)), (.int (((k3.toUInt32 >>> ((3 : Int32) &&& 31).toUInt32).toInt32) &&& (3 : Int32)))])) _
        exact k_)
      by_cases hc101_128 : (((k3.toUInt32 >>> ((3 : Int32) &&& 31).toUInt32).toInt32) &&& (3 : Int32)) = (1 : Int32)
      · obtain ⟨T129, X129, e129, st129⟩ := getS2 X107 hx hZ hown (host := "") (Or.inl (hw _ (List.mem_of_getElem? (i := 60) rfl))) Via.refl e107 S_DOUBLE (g := (mkF m 104 #[.val (.int k0), .val (.int k1), .val (.int k2), .val (.int k3), .val (.int hi), .val (.int (k3 &&& (7 : Int32))), .val (.int va), .val (.int (((k3.toUInt32 >>> ((3 : Int32) &&& 31).toUInt32).toInt32) &&& (3 : Int32))), .unset, .unset, .unset] [])) rfl (hb hby at_104)
        have pre130 : ∀ t_, Steps p.tables e below (T129.setTop (mkF m 117 #[.val (.int k0), .val (.int k1), .val (.int k2), .val (.int k3), .val (.int hi), .val (.int (k3 &&& (7 : Int32))), .val (.int va), .val (.int (((k3.toUInt32 >>> ((3 : Int32) &&& 31).toUInt32).toInt32) &&& (3 : Int32))), .val (.ref w_DOUBLE), .unset, .unset] [])) t_ → Steps p.tables e below (s₁.setTop (entryFrame m #[(.int k0), (.int k1), (.int k2), (.int k3)] maxLocals)) t_ := fun t_ k_ => pre127 t_ (by
          show Steps p.tables e below (T107.setTop (mkF m 101 #[.val (.int k0), .val (.int k1), .val (.int k2), .val (.int k3), .val (.int hi), .val (.int (k3 &&& (7 : Int32))), .val (.int va), .val (.int (((k3.toUInt32 >>> ((3 : Int32) &&& 31).toUInt32).toInt32) &&& (3 : Int32))), .unset, .unset, .unset] [(.int (1 : Int32)), (.int (((k3.toUInt32 >>> ((3 : Int32) &&& 31).toUInt32).toInt32) &&& (3 : Int32)))])) _
          refine XS.icmpNo X107.here hx rfl (hb hby at_101) rfl (teq hc101_128).2 ?_
          show Steps p.tables e below (T107.setTop (mkF m 104 #[.val (.int k0), .val (.int k1), .val (.int k2), .val (.int k3), .val (.int hi), .val (.int (k3 &&& (7 : Int32))), .val (.int va), .val (.int (((k3.toUInt32 >>> ((3 : Int32) &&& 31).toUInt32).toInt32) &&& (3 : Int32))), .unset, .unset, .unset] [])) _
          refine st129 _ ?_
          show Steps p.tables e below (T129.setTop (mkF m 107 #[.val (.int k0), .val (.int k1), .val (.int k2), .val (.int k3), .val (.int hi), .val (.int (k3 &&& (7 : Int32))), .val (.int va), .val (.int (((k3.toUInt32 >>> ((3 : Int32) &&& 31).toUInt32).toInt32) &&& (3 : Int32))), .unset, .unset, .unset] [(.ref w_DOUBLE)])) _
          refine XS.astore X129.here hx rfl (hb hby at_107) rfl rfl (l' := #[.val (.int k0), .val (.int k1), .val (.int k2), .val (.int k3), .val (.int hi), .val (.int (k3 &&& (7 : Int32))), .val (.int va), .val (.int (((k3.toUInt32 >>> ((3 : Int32) &&& 31).toUInt32).toInt32) &&& (3 : Int32))), .val (.ref w_DOUBLE), .unset, .unset]) rfl ?_
          show Steps p.tables e below (T129.setTop (mkF m 109 #[.val (.int k0), .val (.int k1), .val (.int k2), .val (.int k3), .val (.int hi), .val (.int (k3 &&& (7 : Int32))), .val (.int va), .val (.int (((k3.toUInt32 >>> ((3 : Int32) &&& 31).toUInt32).toInt32) &&& (3 : Int32))), .val (.ref w_DOUBLE), .unset, .unset] [])) _
          refine XS.goto X129.here hx rfl (pc0 := 109) (pc' := 117) rfl (hb hby at_109) (by decide) (by decide) ?_
          show Steps p.tables e below (T129.setTop (mkF m 117 #[.val (.int k0), .val (.int k1), .val (.int k2), .val (.int k3), .val (.int hi), .val (.int (k3 &&& (7 : Int32))), .val (.int va), .val (.int (((k3.toUInt32 >>> ((3 : Int32) &&& 31).toUInt32).toInt32) &&& (3 : Int32))), .val (.ref w_DOUBLE), .unset, .unset] [])) _
          exact k_)
        exact tail122 ⟨T129, w_DOUBLE, X129, e129, pre130⟩
      · obtain ⟨T131, X131, e131, st131⟩ := getS2 X107 hx hZ hown (host := "") (Or.inl (hw _ (List.mem_of_getElem? (i := 62) rfl))) Via.refl e107 S_BOOL (g := (mkF m 112 #[.val (.int k0), .val (.int k1), .val (.int k2), .val (.int k3), .val (.int hi), .val (.int (k3 &&& (7 : Int32))), .val (.int va), .val (.int (((k3.toUInt32 >>> ((3 : Int32) &&& 31).toUInt32).toInt32) &&& (3 : Int32))), .unset, .unset, .unset] [])) rfl (hb hby at_112)
        have pre132 : ∀ t_, Steps p.tables e below (T131.setTop (mkF m 117 #[.val (.int k0), .val (.int k1), .val (.int k2), .val (.int k3), .val (.int hi), .val (.int (k3 &&& (7 : Int32))), .val (.int va), .val (.int (((k3.toUInt32 >>> ((3 : Int32) &&& 31).toUInt32).toInt32) &&& (3 : Int32))), .val (.ref w_BOOL), .unset, .unset] [])) t_ → Steps p.tables e below (s₁.setTop (entryFrame m #[(.int k0), (.int k1), (.int k2), (.int k3)] maxLocals)) t_ := fun t_ k_ => pre127 t_ (by
          show Steps p.tables e below (T107.setTop (mkF m 101 #[.val (.int k0), .val (.int k1), .val (.int k2), .val (.int k3), .val (.int hi), .val (.int (k3 &&& (7 : Int32))), .val (.int va), .val (.int (((k3.toUInt32 >>> ((3 : Int32) &&& 31).toUInt32).toInt32) &&& (3 : Int32))), .unset, .unset, .unset] [(.int (1 : Int32)), (.int (((k3.toUInt32 >>> ((3 : Int32) &&& 31).toUInt32).toInt32) &&& (3 : Int32)))])) _
          refine XS.icmpYes X107.here hx rfl (pc0 := 101) (pc' := 112) rfl (hb hby at_101) rfl (feq hc101_128).2 (by decide) (by decide) ?_
          show Steps p.tables e below (T107.setTop (mkF m 112 #[.val (.int k0), .val (.int k1), .val (.int k2), .val (.int k3), .val (.int hi), .val (.int (k3 &&& (7 : Int32))), .val (.int va), .val (.int (((k3.toUInt32 >>> ((3 : Int32) &&& 31).toUInt32).toInt32) &&& (3 : Int32))), .unset, .unset, .unset] [])) _
          refine st131 _ ?_
          show Steps p.tables e below (T131.setTop (mkF m 115 #[.val (.int k0), .val (.int k1), .val (.int k2), .val (.int k3), .val (.int hi), .val (.int (k3 &&& (7 : Int32))), .val (.int va), .val (.int (((k3.toUInt32 >>> ((3 : Int32) &&& 31).toUInt32).toInt32) &&& (3 : Int32))), .unset, .unset, .unset] [(.ref w_BOOL)])) _
          refine XS.astore X131.here hx rfl (hb hby at_115) rfl rfl (l' := #[.val (.int k0), .val (.int k1), .val (.int k2), .val (.int k3), .val (.int hi), .val (.int (k3 &&& (7 : Int32))), .val (.int va), .val (.int (((k3.toUInt32 >>> ((3 : Int32) &&& 31).toUInt32).toInt32) &&& (3 : Int32))), .val (.ref w_BOOL), .unset, .unset]) rfl ?_
          show Steps p.tables e below (T131.setTop (mkF m 117 #[.val (.int k0), .val (.int k1), .val (.int k2), .val (.int k3), .val (.int hi), .val (.int (k3 &&& (7 : Int32))), .val (.int va), .val (.int (((k3.toUInt32 >>> ((3 : Int32) &&& 31).toUInt32).toInt32) &&& (3 : Int32))), .val (.ref w_BOOL), .unset, .unset] [])) _
          exact k_)
        exact tail122 ⟨T131, w_BOOL, X131, e131, pre132⟩
  obtain ⟨T122, wt, X122, e122, pre122⟩ := jn122
  obtain ⟨T133, h133, X133, e133, E133, A133, D133, -, st133⟩ := newO X122 hx hZ hown (hw _ (List.mem_of_getElem? (i := 3) rfl)) (hw _ (List.mem_of_getElem? (i := 4) rfl)) (hw _ (List.mem_of_getElem? (i := 5) rfl)) e122 (g := (mkF m 117 #[.val (.int k0), .val (.int k1), .val (.int k2), .val (.int k3), .val (.int hi), .val (.int (k3 &&& (7 : Int32))), .val (.int va), .val (.int (((k3.toUInt32 >>> ((3 : Int32) &&& 31).toUInt32).toInt32) &&& (3 : Int32))), .val (.ref wt), .unset, .unset] [])) rfl (hb hby at_117) (by decide) (by decide)
  obtain ⟨b133, g133⟩ : ∃ z, z = h0.size := ⟨_, rfl⟩
  rw [← g133] at A133 D133 st133
  have gg_b133 : n0 ≤ b133 := Nat.le_trans Z0 (Nat.le_of_eq g133.symm)
  have sz_b133 : h0.size ≤ b133 := Nat.le_trans O0.1 (Nat.le_of_eq g133.symm)
  have O134 := own_ext_trans O0 E133
  have Zs134 := Nat.le_trans Z0 (E133).1
  have c135 : Sta Z h133 "java/lang/String" "COMPACT_STRINGS" "Z" (.int cs) := S_CS.ext E133
  have c136 : Sta Z h133 "com/example/atropos/atropos/lang/Type" "INT" "Lcom/example/atropos/atropos/lang/Type;" (.ref w_INT) := S_INT.ext E133
  have c137 : Sta Z h133 "com/example/atropos/atropos/lang/Type" "DOUBLE" "Lcom/example/atropos/atropos/lang/Type;" (.ref w_DOUBLE) := S_DOUBLE.ext E133
  have c138 : Sta Z h133 "com/example/atropos/atropos/lang/Type" "BOOL" "Lcom/example/atropos/atropos/lang/Type;" (.ref w_BOOL) := S_BOOL.ext E133
  have F133_name : Fld Z h133 b133 "com/example/atropos/atropos/lang/Variable" "name" "Ljava/lang/String;" .null := D133 (Or.inr (hw _ (List.mem_of_getElem? (i := 37) rfl))) (ty := (.object "java/lang/String")) (by decide)
  have F133_index : Fld Z h133 b133 "com/example/atropos/atropos/lang/Variable" "index" "I" (.int (0 : Int32)) := D133 (Or.inr (hw _ (List.mem_of_getElem? (i := 39) rfl))) (ty := .int) (by decide)
  have F133_type : Fld Z h133 b133 "com/example/atropos/atropos/lang/Variable" "type" "Lcom/example/atropos/atropos/lang/Type;" .null := D133 (Or.inr (hw _ (List.mem_of_getElem? (i := 41) rfl))) (ty := (.object "com/example/atropos/atropos/lang/Type")) (by decide)
  have F133_lower : Fld Z h133 b133 "com/example/atropos/atropos/lang/Variable" "lower" "I" (.int (0 : Int32)) := D133 (Or.inr (hw _ (List.mem_of_getElem? (i := 43) rfl))) (ty := .int) (by decide)
  have F133_upper : Fld Z h133 b133 "com/example/atropos/atropos/lang/Variable" "upper" "I" (.int (0 : Int32)) := D133 (Or.inr (hw _ (List.mem_of_getElem? (i := 45) rfl))) (ty := .int) (by decide)
  have F133_initial : Fld Z h133 b133 "com/example/atropos/atropos/lang/Variable" "initial" "I" (.int (0 : Int32)) := D133 (Or.inr (hw _ (List.mem_of_getElem? (i := 47) rfl))) (ty := .int) (by decide)
  obtain ⟨v139, _, ⟨T139, L139, k139, n139⟩, -, X139, ⟨Lc139, hQ139, l139, y139, z139⟩, st139⟩ := Jvm.LawKit.callS X133 hx (y := (⟨"java/lang/String", "valueOf", "(C)Ljava/lang/String;"⟩ : MethodName)) hown (mvT hZ (hw _ (List.mem_of_getElem? (i := 6) rfl))) (mvT hZ (hw _ (List.mem_of_getElem? (i := 7) rfl))) (mvT hZ (hw _ (List.mem_of_getElem? (i := 8) rfl))) (mvT hZ (hw _ (List.mem_of_getElem? (i := 9) rfl))) (by decide) (backOf (W := 2) (rm_vof l Z a0 hw [] ((k2 &&& (255 : Int32)).toUInt32.toUInt16.toUInt32.toInt32) cs h133 n0 Zs134 c135 hcs (own_c k2)) hZ (hw _ (List.mem_of_getElem? (i := 9) rfl)) (hw _ (List.mem_of_getElem? (i := 8) rfl)) (by decide) (by decide)) (g := (mkF m 127 #[.val (.int k0), .val (.int k1), .val (.int k2), .val (.int k3), .val (.int hi), .val (.int (k3 &&& (7 : Int32))), .val (.int va), .val (.int (((k3.toUInt32 >>> ((3 : Int32) &&& 31).toUInt32).toInt32) &&& (3 : Int32))), .val (.ref wt), .unset, .unset] [(.int ((k2 &&& (255 : Int32)).toUInt32.toUInt16.toUInt32.toInt32)), (.ref b133), (.ref b133)])) rfl (by rw [hml]; rfl) (argsL := [(.int ((k2 &&& (255 : Int32)).toUInt32.toUInt16.toUInt32.toInt32))]) (rest := [(.ref b133), (.ref b133)]) (lenOf pd_3 rfl) rfl (by show 2 * 0 + _ ≤ _; exact Nat.le_of_eq rfl) (hb hby at_127) (fun _ _ => ⟨rfl, e133, (by decide : 1 + 2 ≤ _), (by decide : 6 + 5 ≤ _)⟩)
  dsimp only [Pt.U, Pt.locs, Pt.cells, Pt.slots] at X139 l139 y139 z139 st139 hQ139
  subst l139 y139 z139
  obtain ⟨⟨r139, hv139⟩, N139q, M139⟩ := hQ139
  have N139 := Fr.app N0 N139q
  subst hv139
  have O140 := own_ext_trans O134 M139
  have Zs140 := Nat.le_trans Zs134 (M139).1
  have c141 : Sta Z T139.heap "java/lang/String" "COMPACT_STRINGS" "Z" (.int cs) := c135.ext M139
  have c142 : Sta Z T139.heap "com/example/atropos/atropos/lang/Type" "INT" "Lcom/example/atropos/atropos/lang/Type;" (.ref w_INT) := c136.ext M139
  have c143 : Sta Z T139.heap "com/example/atropos/atropos/lang/Type" "DOUBLE" "Lcom/example/atropos/atropos/lang/Type;" (.ref w_DOUBLE) := c137.ext M139
  have c144 : Sta Z T139.heap "com/example/atropos/atropos/lang/Type" "BOOL" "Lcom/example/atropos/atropos/lang/Type;" (.ref w_BOOL) := c138.ext M139
  have c145 : Exa Z T139.heap b133 "com/example/atropos/atropos/lang/Variable" := A133.ext M139
  have c146 : Fld Z T139.heap b133 "com/example/atropos/atropos/lang/Variable" "name" "Ljava/lang/String;" .null := F133_name.ext M139
  have c147 : Fld Z T139.heap b133 "com/example/atropos/atropos/lang/Variable" "index" "I" (.int (0 : Int32)) := F133_index.ext M139
  have c148 : Fld Z T139.heap b133 "com/example/atropos/atropos/lang/Variable" "type" "Lcom/example/atropos/atropos/lang/Type;" .null := F133_type.ext M139
  have c149 : Fld Z T139.heap b133 "com/example/atropos/atropos/lang/Variable" "lower" "I" (.int (0 : Int32)) := F133_lower.ext M139
  have c150 : Fld Z T139.heap b133 "com/example/atropos/atropos/lang/Variable" "upper" "I" (.int (0 : Int32)) := F133_upper.ext M139
  have c151 : Fld Z T139.heap b133 "com/example/atropos/atropos/lang/Variable" "initial" "I" (.int (0 : Int32)) := F133_initial.ext M139
  obtain ⟨v152, _, ⟨T152, L152, k152, n152⟩, -, X152, ⟨Lc152, hQ152, l152, y152, z152⟩, st152⟩ := X139.specialBack hx (y := (⟨"com/example/atropos/atropos/lang/Variable", "<init>", "(Ljava/lang/String;ILcom/example/atropos/atropos/lang/Type;III)V"⟩ : MethodName)) rfl hown (mvT hZ (hw _ (List.mem_of_getElem? (i := 32) rfl))) (mvT hZ (hw _ (List.mem_of_getElem? (i := 33) rfl))) (mvT hZ (hw _ (List.mem_of_getElem? (i := 34) rfl))) (by decide) (backOf (W := 1) (rm_vinit l Z a0 hw [] b133 r139 ((k3.toUInt32 >>> ((6 : Int32) &&& 31).toUInt32).toInt32) wt k0 hi k2 .null (.int (0 : Int32)) .null (.int (0 : Int32)) (.int (0 : Int32)) (.int (0 : Int32)) T139.heap n0 Zs140 c145 gg_b133 c146 c147 c148 c149 c150 c151) hZ (hw _ (List.mem_of_getElem? (i := 34) rfl)) (hw _ (List.mem_of_getElem? (i := 5) rfl)) (by decide) (by decide)) (g := (mkF m 140 #[.val (.int k0), .val (.int k1), .val (.int k2), .val (.int k3), .val (.int hi), .val (.int (k3 &&& (7 : Int32))), .val (.int va), .val (.int (((k3.toUInt32 >>> ((3 : Int32) &&& 31).toUInt32).toInt32) &&& (3 : Int32))), .val (.ref wt), .unset, .unset] [(.int k2), (.int hi), (.int k0), (.ref wt), (.int ((k3.toUInt32 >>> ((6 : Int32) &&& 31).toUInt32).toInt32)), (.ref r139), (.ref b133), (.ref b133)])) rfl (by rw [hml]; rfl) (Steps.refl _) (a := b133) (argsL := [(.ref r139), (.int ((k3.toUInt32 >>> ((6 : Int32) &&& 31).toUInt32).toInt32)), (.ref wt), (.int k0), (.int hi), (.int k2)]) (rest := [(.ref b133)]) (lenOf pd_4 rfl) rfl (by show 2 * 0 + _ ≤ _; exact Nat.le_of_eq rfl) (hb hby at_140) (fun _ _ => ⟨rfl, rfl, (by decide : 3 + 0 ≤ _), (by decide : 11 + 0 ≤ _)⟩)
  dsimp only [Pt.U, Pt.locs, Pt.cells, Pt.slots] at X152 l152 y152 z152 st152 hQ152
  subst l152 y152 z152
  obtain ⟨hv152, N152q, M152⟩ := hQ152
  have N152 := Fr.app N139 N152q
  subst hv152
  obtain ⟨K152k, E152x, F152_lower, F152_upper⟩ := M152
  have O153 := own_ext_keep O140 K152k (allS sz_b133 all0)
  have Zs153 := Nat.le_trans Zs140 K152k.1
  have c154 : Exa Z T152.heap b133 "com/example/atropos/atropos/lang/Variable" := c145.keep K152k
  have pre155 : ∀ t_, Steps p.tables e below (T152.setTop (mkF m 148 #[.val (.int k0), .val (.int k1), .val (.int k2), .val (.int k3), .val (.int hi), .val (.int (k3 &&& (7 : Int32))), .val (.int va), .val (.int (((k3.toUInt32 >>> ((3 : Int32) &&& 31).toUInt32).toInt32) &&& (3 : Int32))), .val (.ref wt), .val (.ref b133), .unset] [(.int hi), (.int k0)])) t_ → Steps p.tables e below (s₁.setTop (entryFrame m #[(.int k0), (.int k1), (.int k2), (.int k3)] maxLocals)) t_ := fun t_ k_ => pre122 t_ (by
    show Steps p.tables e below (T122.setTop (mkF m 117 #[.val (.int k0), .val (.int k1), .val (.int k2), .val (.int k3), .val (.int hi), .val (.int (k3 &&& (7 : Int32))), .val (.int va), .val (.int (((k3.toUInt32 >>> ((3 : Int32) &&& 31).toUInt32).toInt32) &&& (3 : Int32))), .val (.ref wt), .unset, .unset] [])) _
    refine st133 _ ?_
    show Steps p.tables e below (T133.setTop (mkF m 120 #[.val (.int k0), .val (.int k1), .val (.int k2), .val (.int k3), .val (.int hi), .val (.int (k3 &&& (7 : Int32))), .val (.int va), .val (.int (((k3.toUInt32 >>> ((3 : Int32) &&& 31).toUInt32).toInt32) &&& (3 : Int32))), .val (.ref wt), .unset, .unset] [(.ref b133)])) _
    refine XS.dup X133.here hx rfl (hb hby at_120) rfl rfl ?_
    show Steps p.tables e below (T133.setTop (mkF m 121 #[.val (.int k0), .val (.int k1), .val (.int k2), .val (.int k3), .val (.int hi), .val (.int (k3 &&& (7 : Int32))), .val (.int va), .val (.int (((k3.toUInt32 >>> ((3 : Int32) &&& 31).toUInt32).toInt32) &&& (3 : Int32))), .val (.ref wt), .unset, .unset] [(.ref b133), (.ref b133)])) _
    refine XS.iloadN X133.here hx rfl (hb hby at_121) rfl ?_
    show Steps p.tables e below (T133.setTop (mkF m 122 #[.val (.int k0), .val (.int k1), .val (.int k2), .val (.int k3), .val (.int hi), .val (.int (k3 &&& (7 : Int32))), .val (.int va), .val (.int (((k3.toUInt32 >>> ((3 : Int32) &&& 31).toUInt32).toInt32) &&& (3 : Int32))), .val (.ref wt), .unset, .unset] [(.int k2), (.ref b133), (.ref b133)])) _
    refine XS.sipush X133.here hx rfl (hb hby at_122) ?_
    show Steps p.tables e below (T133.setTop (mkF m 125 #[.val (.int k0), .val (.int k1), .val (.int k2), .val (.int k3), .val (.int hi), .val (.int (k3 &&& (7 : Int32))), .val (.int va), .val (.int (((k3.toUInt32 >>> ((3 : Int32) &&& 31).toUInt32).toInt32) &&& (3 : Int32))), .val (.ref wt), .unset, .unset] [(.int (255 : Int32)), (.int k2), (.ref b133), (.ref b133)])) _
    refine XS.iand X133.here hx rfl (hb hby at_125) rfl ?_
    show Steps p.tables e below (T133.setTop (mkF m 126 #[.val (.int k0), .val (.int k1), .val (.int k2), .val (.int k3), .val (.int hi), .val (.int (k3 &&& (7 : Int32))), .val (.int va), .val (.int (((k3.toUInt32 >>> ((3 : Int32) &&& 31).toUInt32).toInt32) &&& (3 : Int32))), .val (.ref wt), .unset, .unset] [(.int (k2 &&& (255 : Int32))), (.ref b133), (.ref b133)])) _
    refine XS.i2c X133.here hx rfl (hb hby at_126) rfl ?_
    show Steps p.tables e below (T133.setTop (mkF m 127 #[.val (.int k0), .val (.int k1), .val (.int k2), .val (.int k3), .val (.int hi), .val (.int (k3 &&& (7 : Int32))), .val (.int va), .val (.int (((k3.toUInt32 >>> ((3 : Int32) &&& 31).toUInt32).toInt32) &&& (3 : Int32))), .val (.ref wt), .unset, .unset] [(.int ((k2 &&& (255 : Int32)).toUInt32.toUInt16.toUInt32.toInt32)), (.ref b133), (.ref b133)])) _
    refine st139 _ ?_
    show Steps p.tables e below (T139.setTop (mkF m 130 #[.val (.int k0), .val (.int k1), .val (.int k2), .val (.int k3), .val (.int hi), .val (.int (k3 &&& (7 : Int32))), .val (.int va), .val (.int (((k3.toUInt32 >>> ((3 : Int32) &&& 31).toUInt32).toInt32) &&& (3 : Int32))), .val (.ref wt), .unset, .unset] [(.ref r139), (.ref b133), (.ref b133)])) _
    refine XS.iloadN X139.here hx rfl (hb hby at_130) rfl ?_
    show Steps p.tables e below (T139.setTop (mkF m 131 #[.val (.int k0), .val (.int k1), .val (.int k2), .val (.int k3), .val (.int hi), .val (.int (k3 &&& (7 : Int32))), .val (.int va), .val (.int (((k3.toUInt32 >>> ((3 : Int32) &&& 31).toUInt32).toInt32) &&& (3 : Int32))), .val (.ref wt), .unset, .unset] [(.int k3), (.ref r139), (.ref b133), (.ref b133)])) _
    refine XS.bipush X139.here hx rfl (hb hby at_131) ?_
    show Steps p.tables e below (T139.setTop (mkF m 133 #[.val (.int k0), .val (.int k1), .val (.int k2), .val (.int k3), .val (.int hi), .val (.int (k3 &&& (7 : Int32))), .val (.int va), .val (.int (((k3.toUInt32 >>> ((3 : Int32) &&& 31).toUInt32).toInt32) &&& (3 : Int32))), .val (.ref wt), .unset, .unset] [(.int (6 : Int32)), (.int k3), (.ref r139), (.ref b133), (.ref b133)])) _
    refine XS.iushr X139.here hx rfl (hb hby at_133) rfl ?_
    show Steps p.tables e below (T139.setTop (mkF m 134 #[.val (.int k0), .val (.int k1), .val (.int k2), .val (.int k3), .val (.int hi), .val (.int (k3 &&& (7 : Int32))), .val (.int va), .val (.int (((k3.toUInt32 >>> ((3 : Int32) &&& 31).toUInt32).toInt32) &&& (3 : Int32))), .val (.ref wt), .unset, .unset] [(.int ((k3.toUInt32 >>> ((6 : Int32) &&& 31).toUInt32).toInt32)), (.ref r139), (.ref b133), (.ref b133)])) _
    refine XS.aload X139.here hx rfl (hb hby at_134) rfl rfl ?_
    show Steps p.tables e below (T139.setTop (mkF m 136 #[.val (.int k0), .val (.int k1), .val (.int k2), .val (.int k3), .val (.int hi), .val (.int (k3 &&& (7 : Int32))), .val (.int va), .val (.int (((k3.toUInt32 >>> ((3 : Int32) &&& 31).toUInt32).toInt32) &&& (3 : Int32))), .val (.ref wt), .unset, .unset] [(.ref wt), (.int ((k3.toUInt32 >>> ((6 : Int32) &&& 31).toUInt32).toInt32)), (.ref r139), (.ref b133), (.ref b133)])) _
    refine XS.iloadN X139.here hx rfl (hb hby at_136) rfl ?_
    show Steps p.tables e below (T139.setTop (mkF m 137 #[.val (.int k0), .val (.int k1), .val (.int k2), .val (.int k3), .val (.int hi), .val (.int (k3 &&& (7 : Int32))), .val (.int va), .val (.int (((k3.toUInt32 >>> ((3 : Int32) &&& 31).toUInt32).toInt32) &&& (3 : Int32))), .val (.ref wt), .unset, .unset] [(.int k0), (.ref wt), (.int ((k3.toUInt32 >>> ((6 : Int32) &&& 31).toUInt32).toInt32)), (.ref r139), (.ref b133), (.ref b133)])) _
    refine XS.iload X139.here hx rfl (hb hby at_137) rfl ?_
    show Steps p.tables e below (T139.setTop (mkF m 139 #[.val (.int k0), .val (.int k1), .val (.int k2), .val (.int k3), .val (.int hi), .val (.int (k3 &&& (7 : Int32))), .val (.int va), .val (.int (((k3.toUInt32 >>> ((3 : Int32) &&& 31).toUInt32).toInt32) &&& (3 : Int32))), .val (.ref wt), .unset, .unset] [(.int hi), (.int k0), (.ref wt), (.int ((k3.toUInt32 >>> ((6 : Int32) &&& 31).toUInt32).toInt32)), (.ref r139), (.ref b133), (.ref b133)])) _
    refine XS.iloadN X139.here hx rfl (hb hby at_139) rfl ?_
    show Steps p.tables e below (T139.setTop (mkF m 140 #[.val (.int k0), .val (.int k1), .val (.int k2), .val (.int k3), .val (.int hi), .val (.int (k3 &&& (7 : Int32))), .val (.int va), .val (.int (((k3.toUInt32 >>> ((3 : Int32) &&& 31).toUInt32).toInt32) &&& (3 : Int32))), .val (.ref wt), .unset, .unset] [(.int k2), (.int hi), (.int k0), (.ref wt), (.int ((k3.toUInt32 >>> ((6 : Int32) &&& 31).toUInt32).toInt32)), (.ref r139), (.ref b133), (.ref b133)])) _
    refine st152.trans ?_
    show Steps p.tables e below (T152.setTop (mkF m 143 #[.val (.int k0), .val (.int k1), .val (.int k2), .val (.int k3), .val (.int hi), .val (.int (k3 &&& (7 : Int32))), .val (.int va), .val (.int (((k3.toUInt32 >>> ((3 : Int32) &&& 31).toUInt32).toInt32) &&& (3 : Int32))), .val (.ref wt), .unset, .unset] [(.ref b133)])) _
    refine XS.astore X152.here hx rfl (hb hby at_143) rfl rfl (l' := #[.val (.int k0), .val (.int k1), .val (.int k2), .val (.int k3), .val (.int hi), .val (.int (k3 &&& (7 : Int32))), .val (.int va), .val (.int (((k3.toUInt32 >>> ((3 : Int32) &&& 31).toUInt32).toInt32) &&& (3 : Int32))), .val (.ref wt), .val (.ref b133), .unset]) rfl ?_
    show Steps p.tables e below (T152.setTop (mkF m 145 #[.val (.int k0), .val (.int k1), .val (.int k2), .val (.int k3), .val (.int hi), .val (.int (k3 &&& (7 : Int32))), .val (.int va), .val (.int (((k3.toUInt32 >>> ((3 : Int32) &&& 31).toUInt32).toInt32) &&& (3 : Int32))), .val (.ref wt), .val (.ref b133), .unset] [])) _
    refine XS.iloadN X152.here hx rfl (hb hby at_145) rfl ?_
    show Steps p.tables e below (T152.setTop (mkF m 146 #[.val (.int k0), .val (.int k1), .val (.int k2), .val (.int k3), .val (.int hi), .val (.int (k3 &&& (7 : Int32))), .val (.int va), .val (.int (((k3.toUInt32 >>> ((3 : Int32) &&& 31).toUInt32).toInt32) &&& (3 : Int32))), .val (.ref wt), .val (.ref b133), .unset] [(.int k0)])) _
    refine XS.iload X152.here hx rfl (hb hby at_146) rfl ?_
    show Steps p.tables e below (T152.setTop (mkF m 148 #[.val (.int k0), .val (.int k1), .val (.int k2), .val (.int k3), .val (.int hi), .val (.int (k3 &&& (7 : Int32))), .val (.int va), .val (.int (((k3.toUInt32 >>> ((3 : Int32) &&& 31).toUInt32).toInt32) &&& (3 : Int32))), .val (.ref wt), .val (.ref b133), .unset] [(.int hi), (.int k0)])) _
    exact k_)
  by_cases hc148_156 : hi < k0
  · obtain ⟨cq157, kq157, q157a, q157b, q157c⟩ := isOf hZ rfl E152x
    obtain ⟨v157, _, ⟨T157, L157, k157, n157⟩, -, X157, ⟨Lc157, hQ157, l157, y157, z157⟩, st157⟩ := X152.virtualBack hx (y := (⟨"com/example/atropos/atropos/lang/Variable", "inRange", "(I)Z"⟩ : MethodName)) (z := (⟨"com/example/atropos/atropos/lang/Variable", "inRange", "(I)Z"⟩ : MethodName)) hown (mvT hZ (hw _ (List.mem_of_getElem? (i := 55) rfl))) (mvT hZ (hw _ (List.mem_of_getElem? (i := 56) rfl))) (notFace_of_selects (args := #[]) (mvT hZ (hw _ (List.mem_of_getElem? (i := 58) rfl)))) (mvT hZ (hw _ (List.mem_of_getElem? (i := 58) rfl))) (mvT hZ (hw _ (List.mem_of_getElem? (i := 57) rfl))) (by decide) (backOf (W := 0) (rm_inr l Z a0 hw [] b133 va k0 hi T152.heap n0 Zs153 F152_lower F152_upper) hZ (hw _ (List.mem_of_getElem? (i := 59) rfl)) (hw _ (List.mem_of_getElem? (i := 5) rfl)) (by decide) (by decide)) q157a q157c (g := (mkF m 178 #[.val (.int k0), .val (.int k1), .val (.int k2), .val (.int k3), .val (.int hi), .val (.int (k3 &&& (7 : Int32))), .val (.int va), .val (.int (((k3.toUInt32 >>> ((3 : Int32) &&& 31).toUInt32).toInt32) &&& (3 : Int32))), .val (.ref wt), .val (.ref b133), .val (.int (0 : Int32))] [(.int va), (.ref b133)])) rfl (by rw [hml]; rfl) (Steps.refl _) (argsL := [(.int va)]) (rest := []) (lenOf pd_5 rfl) rfl (by show 2 * 0 + _ ≤ _; exact Nat.le_of_eq rfl) (hb hby at_178) (fun _ _ => ⟨rfl, rfl, (by decide : 3 + 0 ≤ _), (by decide : 11 + 0 ≤ _)⟩)
    dsimp only [Pt.U, Pt.locs, Pt.cells, Pt.slots] at X157 l157 y157 z157 st157 hQ157
    subst l157 y157 z157
    obtain ⟨hv157, N157q, e157⟩ := hQ157
    have N157 := Fr.app N152 N157q
    have hw157 : v157 = some (.int (0 : Int32)) := hv157.trans (congrArg (fun z => some (Value.int z)) (own_in_no hc148_156))
    subst hw157
    have pre158 : ∀ t_, Steps p.tables e below (T157.setTop (mkF m 191 #[.val (.int k0), .val (.int k1), .val (.int k2), .val (.int k3), .val (.int hi), .val (.int (k3 &&& (7 : Int32))), .val (.int va), .val (.int (((k3.toUInt32 >>> ((3 : Int32) &&& 31).toUInt32).toInt32) &&& (3 : Int32))), .val (.ref wt), .val (.ref b133), .val (.int (0 : Int32))] [(.int (1 : Int32))])) t_ → Steps p.tables e below (s₁.setTop (entryFrame m #[(.int k0), (.int k1), (.int k2), (.int k3)] maxLocals)) t_ := fun t_ k_ => pre155 t_ (by
      show Steps p.tables e below (T152.setTop (mkF m 148 #[.val (.int k0), .val (.int k1), .val (.int k2), .val (.int k3), .val (.int hi), .val (.int (k3 &&& (7 : Int32))), .val (.int va), .val (.int (((k3.toUInt32 >>> ((3 : Int32) &&& 31).toUInt32).toInt32) &&& (3 : Int32))), .val (.ref wt), .val (.ref b133), .unset] [(.int hi), (.int k0)])) _
      refine XS.icmpYes X152.here hx rfl (pc0 := 148) (pc' := 171) rfl (hb hby at_148) rfl (tlt hc148_156).2.2.1 (by decide) (by decide) ?_
      show Steps p.tables e below (T152.setTop (mkF m 171 #[.val (.int k0), .val (.int k1), .val (.int k2), .val (.int k3), .val (.int hi), .val (.int (k3 &&& (7 : Int32))), .val (.int va), .val (.int (((k3.toUInt32 >>> ((3 : Int32) &&& 31).toUInt32).toInt32) &&& (3 : Int32))), .val (.ref wt), .val (.ref b133), .unset] [])) _
      refine XS.iconst X152.here hx rfl (hb hby at_171) ?_
      show Steps p.tables e below (T152.setTop (mkF m 172 #[.val (.int k0), .val (.int k1), .val (.int k2), .val (.int k3), .val (.int hi), .val (.int (k3 &&& (7 : Int32))), .val (.int va), .val (.int (((k3.toUInt32 >>> ((3 : Int32) &&& 31).toUInt32).toInt32) &&& (3 : Int32))), .val (.ref wt), .val (.ref b133), .unset] [(.int (0 : Int32))])) _
      refine XS.istore X152.here hx rfl (hb hby at_172) rfl (l' := #[.val (.int k0), .val (.int k1), .val (.int k2), .val (.int k3), .val (.int hi), .val (.int (k3 &&& (7 : Int32))), .val (.int va), .val (.int (((k3.toUInt32 >>> ((3 : Int32) &&& 31).toUInt32).toInt32) &&& (3 : Int32))), .val (.ref wt), .val (.ref b133), .val (.int (0 : Int32))]) rfl ?_
      show Steps p.tables e below (T152.setTop (mkF m 174 #[.val (.int k0), .val (.int k1), .val (.int k2), .val (.int k3), .val (.int hi), .val (.int (k3 &&& (7 : Int32))), .val (.int va), .val (.int (((k3.toUInt32 >>> ((3 : Int32) &&& 31).toUInt32).toInt32) &&& (3 : Int32))), .val (.ref wt), .val (.ref b133), .val (.int (0 : Int32))] [])) _
      refine XS.aload X152.here hx rfl (hb hby at_174) rfl rfl ?_
      show Steps p.tables e below (T152.setTop (mkF m 176 #[.val (.int k0), .val (.int k1), .val (.int k2), .val (.int k3), .val (.int hi), .val (.int (k3 &&& (7 : Int32))), .val (.int va), .val (.int (((k3.toUInt32 >>> ((3 : Int32) &&& 31).toUInt32).toInt32) &&& (3 : Int32))), .val (.ref wt), .val (.ref b133), .val (.int (0 : Int32))] [(.ref b133)])) _
      refine XS.iload X152.here hx rfl (hb hby at_176) rfl ?_
      show Steps p.tables e below (T152.setTop (mkF m 178 #[.val (.int k0), .val (.int k1), .val (.int k2), .val (.int k3), .val (.int hi), .val (.int (k3 &&& (7 : Int32))), .val (.int va), .val (.int (((k3.toUInt32 >>> ((3 : Int32) &&& 31).toUInt32).toInt32) &&& (3 : Int32))), .val (.ref wt), .val (.ref b133), .val (.int (0 : Int32))] [(.int va), (.ref b133)])) _
      refine st157.trans ?_
      show Steps p.tables e below (T157.setTop (mkF m 181 #[.val (.int k0), .val (.int k1), .val (.int k2), .val (.int k3), .val (.int hi), .val (.int (k3 &&& (7 : Int32))), .val (.int va), .val (.int (((k3.toUInt32 >>> ((3 : Int32) &&& 31).toUInt32).toInt32) &&& (3 : Int32))), .val (.ref wt), .val (.ref b133), .val (.int (0 : Int32))] [(.int (0 : Int32))])) _
      refine XS.iload X157.here hx rfl (hb hby at_181) rfl ?_
      show Steps p.tables e below (T157.setTop (mkF m 183 #[.val (.int k0), .val (.int k1), .val (.int k2), .val (.int k3), .val (.int hi), .val (.int (k3 &&& (7 : Int32))), .val (.int va), .val (.int (((k3.toUInt32 >>> ((3 : Int32) &&& 31).toUInt32).toInt32) &&& (3 : Int32))), .val (.ref wt), .val (.ref b133), .val (.int (0 : Int32))] [(.int (0 : Int32)), (.int (0 : Int32))])) _
      refine XS.icmpNo X157.here hx rfl (hb hby at_183) rfl (teq (rfl : (0 : Int32) = (0 : Int32))).2 ?_
      show Steps p.tables e below (T157.setTop (mkF m 186 #[.val (.int k0), .val (.int k1), .val (.int k2), .val (.int k3), .val (.int hi), .val (.int (k3 &&& (7 : Int32))), .val (.int va), .val (.int (((k3.toUInt32 >>> ((3 : Int32) &&& 31).toUInt32).toInt32) &&& (3 : Int32))), .val (.ref wt), .val (.ref b133), .val (.int (0 : Int32))] [])) _
      refine XS.iconst X157.here hx rfl (hb hby at_186) ?_
      show Steps p.tables e below (T157.setTop (mkF m 187 #[.val (.int k0), .val (.int k1), .val (.int k2), .val (.int k3), .val (.int hi), .val (.int (k3 &&& (7 : Int32))), .val (.int va), .val (.int (((k3.toUInt32 >>> ((3 : Int32) &&& 31).toUInt32).toInt32) &&& (3 : Int32))), .val (.ref wt), .val (.ref b133), .val (.int (0 : Int32))] [(.int (1 : Int32))])) _
      refine XS.goto X157.here hx rfl (pc0 := 187) (pc' := 191) rfl (hb hby at_187) (by decide) (by decide) ?_
      show Steps p.tables e below (T157.setTop (mkF m 191 #[.val (.int k0), .val (.int k1), .val (.int k2), .val (.int k3), .val (.int hi), .val (.int (k3 &&& (7 : Int32))), .val (.int va), .val (.int (((k3.toUInt32 >>> ((3 : Int32) &&& 31).toUInt32).toInt32) &&& (3 : Int32))), .val (.ref wt), .val (.ref b133), .val (.int (0 : Int32))] [(.int (1 : Int32))])) _
      exact k_)
    obtain ⟨fs, hr, hrun, hended, hW, hsame⟩ := X157.leave (v := some (.int (1 : Int32))) (fun h => by rw [Bd.returns] at h; cases h)
    refine ⟨_, _, pre158 _ ?_, hrun, hended, _, _, rfl, ?_, ⟨_, rfl⟩, hW, hsame.mono (by decide) (by decide)⟩
    · show Steps p.tables e below (T157.setTop (mkF m 191 #[.val (.int k0), .val (.int k1), .val (.int k2), .val (.int k3), .val (.int hi), .val (.int (k3 &&& (7 : Int32))), .val (.int va), .val (.int (((k3.toUInt32 >>> ((3 : Int32) &&& 31).toUInt32).toInt32) &&& (3 : Int32))), .val (.ref wt), .val (.ref b133), .val (.int (0 : Int32))] [(.int (1 : Int32))])) _
      exact retN X157 hx (t := .boolean) Bd.returns (by simp) (hb hby at_191) hr
    · show Q_0 Z k0 k1 k2 k3 cs w_INT w_DOUBLE w_BOOL h0 n0 _ T157.heap _
      rw [e157]
      exact ⟨rfl, N157⟩
  · obtain ⟨v159, _, ⟨T159, L159, k159, n159⟩, -, X159, ⟨Lc159, hQ159, l159, y159, z159⟩, st159⟩ := Jvm.LawKit.callS X152 hx (y := (⟨"java/lang/Math", "max", "(II)I"⟩ : MethodName)) hown (mvT hZ (hw _ (List.mem_of_getElem? (i := 48) rfl))) (mvT hZ (hw _ (List.mem_of_getElem? (i := 49) rfl))) (mvT hZ (hw _ (List.mem_of_getElem? (i := 50) rfl))) (mvT hZ (hw _ (List.mem_of_getElem? (i := 51) rfl))) (by decide) (backOf (W := 0) (rm_max l Z a0 hw [] va k0 T152.heap n0 Zs153 ) hZ (hw _ (List.mem_of_getElem? (i := 51) rfl)) (hw _ (List.mem_of_getElem? (i := 50) rfl)) (by decide) (by decide)) (g := (mkF m 154 #[.val (.int k0), .val (.int k1), .val (.int k2), .val (.int k3), .val (.int hi), .val (.int (k3 &&& (7 : Int32))), .val (.int va), .val (.int (((k3.toUInt32 >>> ((3 : Int32) &&& 31).toUInt32).toInt32) &&& (3 : Int32))), .val (.ref wt), .val (.ref b133), .unset] [(.int k0), (.int va)])) rfl (by rw [hml]; rfl) (argsL := [(.int va), (.int k0)]) (rest := []) (lenOf pd_6 rfl) rfl (by show 2 * 0 + _ ≤ _; exact Nat.le_of_eq rfl) (hb hby at_154) (fun _ _ => ⟨rfl, rfl, (by decide : 3 + 0 ≤ _), (by decide : 11 + 0 ≤ _)⟩)
    dsimp only [Pt.U, Pt.locs, Pt.cells, Pt.slots] at X159 l159 y159 z159 st159 hQ159
    subst l159 y159 z159
    obtain ⟨hv159, N159q, e159⟩ := hQ159
    have N159 := Fr.app N152 N159q
    subst hv159
    obtain ⟨v160, _, ⟨T160, L160, k160, n160⟩, -, X160, ⟨Lc160, hQ160, l160, y160, z160⟩, st160⟩ := Jvm.LawKit.callS X159 hx (y := (⟨"java/lang/Math", "min", "(II)I"⟩ : MethodName)) hown (mvT hZ (hw _ (List.mem_of_getElem? (i := 52) rfl))) (mvT hZ (hw _ (List.mem_of_getElem? (i := 53) rfl))) (mvT hZ (hw _ (List.mem_of_getElem? (i := 50) rfl))) (mvT hZ (hw _ (List.mem_of_getElem? (i := 54) rfl))) (by decide) (backOf (W := 0) (rm_min l Z a0 hw [] (own_max va k0) hi T152.heap n0 Zs153 ) hZ (hw _ (List.mem_of_getElem? (i := 54) rfl)) (hw _ (List.mem_of_getElem? (i := 50) rfl)) (by decide) (by decide)) (g := (mkF m 159 #[.val (.int k0), .val (.int k1), .val (.int k2), .val (.int k3), .val (.int hi), .val (.int (k3 &&& (7 : Int32))), .val (.int va), .val (.int (((k3.toUInt32 >>> ((3 : Int32) &&& 31).toUInt32).toInt32) &&& (3 : Int32))), .val (.ref wt), .val (.ref b133), .unset] [(.int hi), (.int (own_max va k0))])) rfl (by rw [hml]; rfl) (argsL := [(.int (own_max va k0)), (.int hi)]) (rest := []) (lenOf pd_6 rfl) rfl (by show 2 * 0 + _ ≤ _; exact Nat.le_of_eq rfl) (hb hby at_159) (fun _ _ => ⟨rfl, e159, (by decide : 3 + 0 ≤ _), (by decide : 11 + 0 ≤ _)⟩)
    dsimp only [Pt.U, Pt.locs, Pt.cells, Pt.slots] at X160 l160 y160 z160 st160 hQ160
    subst l160 y160 z160
    obtain ⟨hv160, N160q, e160⟩ := hQ160
    have N160 := Fr.app N159 N160q
    subst hv160
    have pre161 : ∀ t_, Steps p.tables e below (T160.setTop (mkF m 164 #[.val (.int k0), .val (.int k1), .val (.int k2), .val (.int k3), .val (.int hi), .val (.int (k3 &&& (7 : Int32))), .val (.int va), .val (.int (((k3.toUInt32 >>> ((3 : Int32) &&& 31).toUInt32).toInt32) &&& (3 : Int32))), .val (.ref wt), .val (.ref b133), .unset] [(.int va), (.int (own_min (own_max va k0) hi))])) t_ → Steps p.tables e below (s₁.setTop (entryFrame m #[(.int k0), (.int k1), (.int k2), (.int k3)] maxLocals)) t_ := fun t_ k_ => pre155 t_ (by
      show Steps p.tables e below (T152.setTop (mkF m 148 #[.val (.int k0), .val (.int k1), .val (.int k2), .val (.int k3), .val (.int hi), .val (.int (k3 &&& (7 : Int32))), .val (.int va), .val (.int (((k3.toUInt32 >>> ((3 : Int32) &&& 31).toUInt32).toInt32) &&& (3 : Int32))), .val (.ref wt), .val (.ref b133), .unset] [(.int hi), (.int k0)])) _
      refine XS.icmpNo X152.here hx rfl (hb hby at_148) rfl (flt hc148_156).2.2.1 ?_
      show Steps p.tables e below (T152.setTop (mkF m 151 #[.val (.int k0), .val (.int k1), .val (.int k2), .val (.int k3), .val (.int hi), .val (.int (k3 &&& (7 : Int32))), .val (.int va), .val (.int (((k3.toUInt32 >>> ((3 : Int32) &&& 31).toUInt32).toInt32) &&& (3 : Int32))), .val (.ref wt), .val (.ref b133), .unset] [])) _
      refine XS.iload X152.here hx rfl (hb hby at_151) rfl ?_
      show Steps p.tables e below (T152.setTop (mkF m 153 #[.val (.int k0), .val (.int k1), .val (.int k2), .val (.int k3), .val (.int hi), .val (.int (k3 &&& (7 : Int32))), .val (.int va), .val (.int (((k3.toUInt32 >>> ((3 : Int32) &&& 31).toUInt32).toInt32) &&& (3 : Int32))), .val (.ref wt), .val (.ref b133), .unset] [(.int va)])) _
      refine XS.iloadN X152.here hx rfl (hb hby at_153) rfl ?_
      show Steps p.tables e below (T152.setTop (mkF m 154 #[.val (.int k0), .val (.int k1), .val (.int k2), .val (.int k3), .val (.int hi), .val (.int (k3 &&& (7 : Int32))), .val (.int va), .val (.int (((k3.toUInt32 >>> ((3 : Int32) &&& 31).toUInt32).toInt32) &&& (3 : Int32))), .val (.ref wt), .val (.ref b133), .unset] [(.int k0), (.int va)])) _
      refine st159 _ ?_
      show Steps p.tables e below (T159.setTop (mkF m 157 #[.val (.int k0), .val (.int k1), .val (.int k2), .val (.int k3), .val (.int hi), .val (.int (k3 &&& (7 : Int32))), .val (.int va), .val (.int (((k3.toUInt32 >>> ((3 : Int32) &&& 31).toUInt32).toInt32) &&& (3 : Int32))), .val (.ref wt), .val (.ref b133), .unset] [(.int (own_max va k0))])) _
      refine XS.iload X159.here hx rfl (hb hby at_157) rfl ?_
      show Steps p.tables e below (T159.setTop (mkF m 159 #[.val (.int k0), .val (.int k1), .val (.int k2), .val (.int k3), .val (.int hi), .val (.int (k3 &&& (7 : Int32))), .val (.int va), .val (.int (((k3.toUInt32 >>> ((3 : Int32) &&& 31).toUInt32).toInt32) &&& (3 : Int32))), .val (.ref wt), .val (.ref b133), .unset] [(.int hi), (.int (own_max va k0))])) _
      refine st160 _ ?_
      show Steps p.tables e below (T160.setTop (mkF m 162 #[.val (.int k0), .val (.int k1), .val (.int k2), .val (.int k3), .val (.int hi), .val (.int (k3 &&& (7 : Int32))), .val (.int va), .val (.int (((k3.toUInt32 >>> ((3 : Int32) &&& 31).toUInt32).toInt32) &&& (3 : Int32))), .val (.ref wt), .val (.ref b133), .unset] [(.int (own_min (own_max va k0) hi))])) _
      refine XS.iload X160.here hx rfl (hb hby at_162) rfl ?_
      show Steps p.tables e below (T160.setTop (mkF m 164 #[.val (.int k0), .val (.int k1), .val (.int k2), .val (.int k3), .val (.int hi), .val (.int (k3 &&& (7 : Int32))), .val (.int va), .val (.int (((k3.toUInt32 >>> ((3 : Int32) &&& 31).toUInt32).toInt32) &&& (3 : Int32))), .val (.ref wt), .val (.ref b133), .unset] [(.int va), (.int (own_min (own_max va k0) hi))])) _
      exact k_)
    by_cases hc164_162 : (own_min (own_max va k0) hi) = va
    · obtain ⟨cq163, kq163, q163a, q163b, q163c⟩ := isOf hZ e160 E152x
      obtain ⟨v163, _, ⟨T163, L163, k163, n163⟩, -, X163, ⟨Lc163, hQ163, l163, y163, z163⟩, st163⟩ := X160.virtualBack hx (y := (⟨"com/example/atropos/atropos/lang/Variable", "inRange", "(I)Z"⟩ : MethodName)) (z := (⟨"com/example/atropos/atropos/lang/Variable", "inRange", "(I)Z"⟩ : MethodName)) hown (mvT hZ (hw _ (List.mem_of_getElem? (i := 55) rfl))) (mvT hZ (hw _ (List.mem_of_getElem? (i := 56) rfl))) (notFace_of_selects (args := #[]) (mvT hZ (hw _ (List.mem_of_getElem? (i := 58) rfl)))) (mvT hZ (hw _ (List.mem_of_getElem? (i := 58) rfl))) (mvT hZ (hw _ (List.mem_of_getElem? (i := 57) rfl))) (by decide) (backOf (W := 0) (rm_inr l Z a0 hw [] b133 va k0 hi T152.heap n0 Zs153 F152_lower F152_upper) hZ (hw _ (List.mem_of_getElem? (i := 59) rfl)) (hw _ (List.mem_of_getElem? (i := 5) rfl)) (by decide) (by decide)) q163a q163c (g := (mkF m 178 #[.val (.int k0), .val (.int k1), .val (.int k2), .val (.int k3), .val (.int hi), .val (.int (k3 &&& (7 : Int32))), .val (.int va), .val (.int (((k3.toUInt32 >>> ((3 : Int32) &&& 31).toUInt32).toInt32) &&& (3 : Int32))), .val (.ref wt), .val (.ref b133), .val (.int (1 : Int32))] [(.int va), (.ref b133)])) rfl (by rw [hml]; rfl) (Steps.refl _) (argsL := [(.int va)]) (rest := []) (lenOf pd_5 rfl) rfl (by show 2 * 0 + _ ≤ _; exact Nat.le_of_eq rfl) (hb hby at_178) (fun _ _ => ⟨rfl, e160, (by decide : 3 + 0 ≤ _), (by decide : 11 + 0 ≤ _)⟩)
      dsimp only [Pt.U, Pt.locs, Pt.cells, Pt.slots] at X163 l163 y163 z163 st163 hQ163
      subst l163 y163 z163
      obtain ⟨hv163, N163q, e163⟩ := hQ163
      have N163 := Fr.app N160 N163q
      have hw163 : v163 = some (.int (1 : Int32)) := hv163.trans (congrArg (fun z => some (Value.int z)) (own_in_yes hc148_156 hc164_162))
      subst hw163
      have pre164 : ∀ t_, Steps p.tables e below (T163.setTop (mkF m 191 #[.val (.int k0), .val (.int k1), .val (.int k2), .val (.int k3), .val (.int hi), .val (.int (k3 &&& (7 : Int32))), .val (.int va), .val (.int (((k3.toUInt32 >>> ((3 : Int32) &&& 31).toUInt32).toInt32) &&& (3 : Int32))), .val (.ref wt), .val (.ref b133), .val (.int (1 : Int32))] [(.int (1 : Int32))])) t_ → Steps p.tables e below (s₁.setTop (entryFrame m #[(.int k0), (.int k1), (.int k2), (.int k3)] maxLocals)) t_ := fun t_ k_ => pre161 t_ (by
        show Steps p.tables e below (T160.setTop (mkF m 164 #[.val (.int k0), .val (.int k1), .val (.int k2), .val (.int k3), .val (.int hi), .val (.int (k3 &&& (7 : Int32))), .val (.int va), .val (.int (((k3.toUInt32 >>> ((3 : Int32) &&& 31).toUInt32).toInt32) &&& (3 : Int32))), .val (.ref wt), .val (.ref b133), .unset] [(.int va), (.int (own_min (own_max va k0) hi))])) _
        refine XS.icmpNo X160.here hx rfl (hb hby at_164) rfl (teq hc164_162).2 ?_
        show Steps p.tables e below (T160.setTop (mkF m 167 #[.val (.int k0), .val (.int k1), .val (.int k2), .val (.int k3), .val (.int hi), .val (.int (k3 &&& (7 : Int32))), .val (.int va), .val (.int (((k3.toUInt32 >>> ((3 : Int32) &&& 31).toUInt32).toInt32) &&& (3 : Int32))), .val (.ref wt), .val (.ref b133), .unset] [])) _
        refine XS.iconst X160.here hx rfl (hb hby at_167) ?_
        show Steps p.tables e below (T160.setTop (mkF m 168 #[.val (.int k0), .val (.int k1), .val (.int k2), .val (.int k3), .val (.int hi), .val (.int (k3 &&& (7 : Int32))), .val (.int va), .val (.int (((k3.toUInt32 >>> ((3 : Int32) &&& 31).toUInt32).toInt32) &&& (3 : Int32))), .val (.ref wt), .val (.ref b133), .unset] [(.int (1 : Int32))])) _
        refine XS.goto X160.here hx rfl (pc0 := 168) (pc' := 172) rfl (hb hby at_168) (by decide) (by decide) ?_
        show Steps p.tables e below (T160.setTop (mkF m 172 #[.val (.int k0), .val (.int k1), .val (.int k2), .val (.int k3), .val (.int hi), .val (.int (k3 &&& (7 : Int32))), .val (.int va), .val (.int (((k3.toUInt32 >>> ((3 : Int32) &&& 31).toUInt32).toInt32) &&& (3 : Int32))), .val (.ref wt), .val (.ref b133), .unset] [(.int (1 : Int32))])) _
        refine XS.istore X160.here hx rfl (hb hby at_172) rfl (l' := #[.val (.int k0), .val (.int k1), .val (.int k2), .val (.int k3), .val (.int hi), .val (.int (k3 &&& (7 : Int32))), .val (.int va), .val (.int (((k3.toUInt32 >>> ((3 : Int32) &&& 31).toUInt32).toInt32) &&& (3 : Int32))), .val (.ref wt), .val (.ref b133), .val (.int (1 : Int32))]) rfl ?_
        show Steps p.tables e below (T160.setTop (mkF m 174 #[.val (.int k0), .val (.int k1), .val (.int k2), .val (.int k3), .val (.int hi), .val (.int (k3 &&& (7 : Int32))), .val (.int va), .val (.int (((k3.toUInt32 >>> ((3 : Int32) &&& 31).toUInt32).toInt32) &&& (3 : Int32))), .val (.ref wt), .val (.ref b133), .val (.int (1 : Int32))] [])) _
        refine XS.aload X160.here hx rfl (hb hby at_174) rfl rfl ?_
        show Steps p.tables e below (T160.setTop (mkF m 176 #[.val (.int k0), .val (.int k1), .val (.int k2), .val (.int k3), .val (.int hi), .val (.int (k3 &&& (7 : Int32))), .val (.int va), .val (.int (((k3.toUInt32 >>> ((3 : Int32) &&& 31).toUInt32).toInt32) &&& (3 : Int32))), .val (.ref wt), .val (.ref b133), .val (.int (1 : Int32))] [(.ref b133)])) _
        refine XS.iload X160.here hx rfl (hb hby at_176) rfl ?_
        show Steps p.tables e below (T160.setTop (mkF m 178 #[.val (.int k0), .val (.int k1), .val (.int k2), .val (.int k3), .val (.int hi), .val (.int (k3 &&& (7 : Int32))), .val (.int va), .val (.int (((k3.toUInt32 >>> ((3 : Int32) &&& 31).toUInt32).toInt32) &&& (3 : Int32))), .val (.ref wt), .val (.ref b133), .val (.int (1 : Int32))] [(.int va), (.ref b133)])) _
        refine st163.trans ?_
        show Steps p.tables e below (T163.setTop (mkF m 181 #[.val (.int k0), .val (.int k1), .val (.int k2), .val (.int k3), .val (.int hi), .val (.int (k3 &&& (7 : Int32))), .val (.int va), .val (.int (((k3.toUInt32 >>> ((3 : Int32) &&& 31).toUInt32).toInt32) &&& (3 : Int32))), .val (.ref wt), .val (.ref b133), .val (.int (1 : Int32))] [(.int (1 : Int32))])) _
        refine XS.iload X163.here hx rfl (hb hby at_181) rfl ?_
        show Steps p.tables e below (T163.setTop (mkF m 183 #[.val (.int k0), .val (.int k1), .val (.int k2), .val (.int k3), .val (.int hi), .val (.int (k3 &&& (7 : Int32))), .val (.int va), .val (.int (((k3.toUInt32 >>> ((3 : Int32) &&& 31).toUInt32).toInt32) &&& (3 : Int32))), .val (.ref wt), .val (.ref b133), .val (.int (1 : Int32))] [(.int (1 : Int32)), (.int (1 : Int32))])) _
        refine XS.icmpNo X163.here hx rfl (hb hby at_183) rfl (teq (rfl : (1 : Int32) = (1 : Int32))).2 ?_
        show Steps p.tables e below (T163.setTop (mkF m 186 #[.val (.int k0), .val (.int k1), .val (.int k2), .val (.int k3), .val (.int hi), .val (.int (k3 &&& (7 : Int32))), .val (.int va), .val (.int (((k3.toUInt32 >>> ((3 : Int32) &&& 31).toUInt32).toInt32) &&& (3 : Int32))), .val (.ref wt), .val (.ref b133), .val (.int (1 : Int32))] [])) _
        refine XS.iconst X163.here hx rfl (hb hby at_186) ?_
        show Steps p.tables e below (T163.setTop (mkF m 187 #[.val (.int k0), .val (.int k1), .val (.int k2), .val (.int k3), .val (.int hi), .val (.int (k3 &&& (7 : Int32))), .val (.int va), .val (.int (((k3.toUInt32 >>> ((3 : Int32) &&& 31).toUInt32).toInt32) &&& (3 : Int32))), .val (.ref wt), .val (.ref b133), .val (.int (1 : Int32))] [(.int (1 : Int32))])) _
        refine XS.goto X163.here hx rfl (pc0 := 187) (pc' := 191) rfl (hb hby at_187) (by decide) (by decide) ?_
        show Steps p.tables e below (T163.setTop (mkF m 191 #[.val (.int k0), .val (.int k1), .val (.int k2), .val (.int k3), .val (.int hi), .val (.int (k3 &&& (7 : Int32))), .val (.int va), .val (.int (((k3.toUInt32 >>> ((3 : Int32) &&& 31).toUInt32).toInt32) &&& (3 : Int32))), .val (.ref wt), .val (.ref b133), .val (.int (1 : Int32))] [(.int (1 : Int32))])) _
        exact k_)
      obtain ⟨fs, hr, hrun, hended, hW, hsame⟩ := X163.leave (v := some (.int (1 : Int32))) (fun h => by rw [Bd.returns] at h; cases h)
      refine ⟨_, _, pre164 _ ?_, hrun, hended, _, _, rfl, ?_, ⟨_, rfl⟩, hW, hsame.mono (by decide) (by decide)⟩
      · show Steps p.tables e below (T163.setTop (mkF m 191 #[.val (.int k0), .val (.int k1), .val (.int k2), .val (.int k3), .val (.int hi), .val (.int (k3 &&& (7 : Int32))), .val (.int va), .val (.int (((k3.toUInt32 >>> ((3 : Int32) &&& 31).toUInt32).toInt32) &&& (3 : Int32))), .val (.ref wt), .val (.ref b133), .val (.int (1 : Int32))] [(.int (1 : Int32))])) _
        exact retN X163 hx (t := .boolean) Bd.returns (by simp) (hb hby at_191) hr
      · show Q_0 Z k0 k1 k2 k3 cs w_INT w_DOUBLE w_BOOL h0 n0 _ T163.heap _
        rw [e163]
        exact ⟨rfl, N163⟩
    · obtain ⟨cq165, kq165, q165a, q165b, q165c⟩ := isOf hZ e160 E152x
      obtain ⟨v165, _, ⟨T165, L165, k165, n165⟩, -, X165, ⟨Lc165, hQ165, l165, y165, z165⟩, st165⟩ := X160.virtualBack hx (y := (⟨"com/example/atropos/atropos/lang/Variable", "inRange", "(I)Z"⟩ : MethodName)) (z := (⟨"com/example/atropos/atropos/lang/Variable", "inRange", "(I)Z"⟩ : MethodName)) hown (mvT hZ (hw _ (List.mem_of_getElem? (i := 55) rfl))) (mvT hZ (hw _ (List.mem_of_getElem? (i := 56) rfl))) (notFace_of_selects (args := #[]) (mvT hZ (hw _ (List.mem_of_getElem? (i := 58) rfl)))) (mvT hZ (hw _ (List.mem_of_getElem? (i := 58) rfl))) (mvT hZ (hw _ (List.mem_of_getElem? (i := 57) rfl))) (by decide) (backOf (W := 0) (rm_inr l Z a0 hw [] b133 va k0 hi T152.heap n0 Zs153 F152_lower F152_upper) hZ (hw _ (List.mem_of_getElem? (i := 59) rfl)) (hw _ (List.mem_of_getElem? (i := 5) rfl)) (by decide) (by decide)) q165a q165c (g := (mkF m 178 #[.val (.int k0), .val (.int k1), .val (.int k2), .val (.int k3), .val (.int hi), .val (.int (k3 &&& (7 : Int32))), .val (.int va), .val (.int (((k3.toUInt32 >>> ((3 : Int32) &&& 31).toUInt32).toInt32) &&& (3 : Int32))), .val (.ref wt), .val (.ref b133), .val (.int (0 : Int32))] [(.int va), (.ref b133)])) rfl (by rw [hml]; rfl) (Steps.refl _) (argsL := [(.int va)]) (rest := []) (lenOf pd_5 rfl) rfl (by show 2 * 0 + _ ≤ _; exact Nat.le_of_eq rfl) (hb hby at_178) (fun _ _ => ⟨rfl, e160, (by decide : 3 + 0 ≤ _), (by decide : 11 + 0 ≤ _)⟩)
      dsimp only [Pt.U, Pt.locs, Pt.cells, Pt.slots] at X165 l165 y165 z165 st165 hQ165
      subst l165 y165 z165
      obtain ⟨hv165, N165q, e165⟩ := hQ165
      have N165 := Fr.app N160 N165q
      have hw165 : v165 = some (.int (0 : Int32)) := hv165.trans (congrArg (fun z => some (Value.int z)) (own_in_not hc148_156 hc164_162))
      subst hw165
      have pre166 : ∀ t_, Steps p.tables e below (T165.setTop (mkF m 191 #[.val (.int k0), .val (.int k1), .val (.int k2), .val (.int k3), .val (.int hi), .val (.int (k3 &&& (7 : Int32))), .val (.int va), .val (.int (((k3.toUInt32 >>> ((3 : Int32) &&& 31).toUInt32).toInt32) &&& (3 : Int32))), .val (.ref wt), .val (.ref b133), .val (.int (0 : Int32))] [(.int (1 : Int32))])) t_ → Steps p.tables e below (s₁.setTop (entryFrame m #[(.int k0), (.int k1), (.int k2), (.int k3)] maxLocals)) t_ := fun t_ k_ => pre161 t_ (by
        show Steps p.tables e below (T160.setTop (mkF m 164 #[.val (.int k0), .val (.int k1), .val (.int k2), .val (.int k3), .val (.int hi), .val (.int (k3 &&& (7 : Int32))), .val (.int va), .val (.int (((k3.toUInt32 >>> ((3 : Int32) &&& 31).toUInt32).toInt32) &&& (3 : Int32))), .val (.ref wt), .val (.ref b133), .unset] [(.int va), (.int (own_min (own_max va k0) hi))])) _
        refine XS.icmpYes X160.here hx rfl (pc0 := 164) (pc' := 171) rfl (hb hby at_164) rfl (feq hc164_162).2 (by decide) (by decide) ?_
        show Steps p.tables e below (T160.setTop (mkF m 171 #[.val (.int k0), .val (.int k1), .val (.int k2), .val (.int k3), .val (.int hi), .val (.int (k3 &&& (7 : Int32))), .val (.int va), .val (.int (((k3.toUInt32 >>> ((3 : Int32) &&& 31).toUInt32).toInt32) &&& (3 : Int32))), .val (.ref wt), .val (.ref b133), .unset] [])) _
        refine XS.iconst X160.here hx rfl (hb hby at_171) ?_
        show Steps p.tables e below (T160.setTop (mkF m 172 #[.val (.int k0), .val (.int k1), .val (.int k2), .val (.int k3), .val (.int hi), .val (.int (k3 &&& (7 : Int32))), .val (.int va), .val (.int (((k3.toUInt32 >>> ((3 : Int32) &&& 31).toUInt32).toInt32) &&& (3 : Int32))), .val (.ref wt), .val (.ref b133), .unset] [(.int (0 : Int32))])) _
        refine XS.istore X160.here hx rfl (hb hby at_172) rfl (l' := #[.val (.int k0), .val (.int k1), .val (.int k2), .val (.int k3), .val (.int hi), .val (.int (k3 &&& (7 : Int32))), .val (.int va), .val (.int (((k3.toUInt32 >>> ((3 : Int32) &&& 31).toUInt32).toInt32) &&& (3 : Int32))), .val (.ref wt), .val (.ref b133), .val (.int (0 : Int32))]) rfl ?_
        show Steps p.tables e below (T160.setTop (mkF m 174 #[.val (.int k0), .val (.int k1), .val (.int k2), .val (.int k3), .val (.int hi), .val (.int (k3 &&& (7 : Int32))), .val (.int va), .val (.int (((k3.toUInt32 >>> ((3 : Int32) &&& 31).toUInt32).toInt32) &&& (3 : Int32))), .val (.ref wt), .val (.ref b133), .val (.int (0 : Int32))] [])) _
        refine XS.aload X160.here hx rfl (hb hby at_174) rfl rfl ?_
        show Steps p.tables e below (T160.setTop (mkF m 176 #[.val (.int k0), .val (.int k1), .val (.int k2), .val (.int k3), .val (.int hi), .val (.int (k3 &&& (7 : Int32))), .val (.int va), .val (.int (((k3.toUInt32 >>> ((3 : Int32) &&& 31).toUInt32).toInt32) &&& (3 : Int32))), .val (.ref wt), .val (.ref b133), .val (.int (0 : Int32))] [(.ref b133)])) _
        refine XS.iload X160.here hx rfl (hb hby at_176) rfl ?_
        show Steps p.tables e below (T160.setTop (mkF m 178 #[.val (.int k0), .val (.int k1), .val (.int k2), .val (.int k3), .val (.int hi), .val (.int (k3 &&& (7 : Int32))), .val (.int va), .val (.int (((k3.toUInt32 >>> ((3 : Int32) &&& 31).toUInt32).toInt32) &&& (3 : Int32))), .val (.ref wt), .val (.ref b133), .val (.int (0 : Int32))] [(.int va), (.ref b133)])) _
        refine st165.trans ?_
        show Steps p.tables e below (T165.setTop (mkF m 181 #[.val (.int k0), .val (.int k1), .val (.int k2), .val (.int k3), .val (.int hi), .val (.int (k3 &&& (7 : Int32))), .val (.int va), .val (.int (((k3.toUInt32 >>> ((3 : Int32) &&& 31).toUInt32).toInt32) &&& (3 : Int32))), .val (.ref wt), .val (.ref b133), .val (.int (0 : Int32))] [(.int (0 : Int32))])) _
        refine XS.iload X165.here hx rfl (hb hby at_181) rfl ?_
        show Steps p.tables e below (T165.setTop (mkF m 183 #[.val (.int k0), .val (.int k1), .val (.int k2), .val (.int k3), .val (.int hi), .val (.int (k3 &&& (7 : Int32))), .val (.int va), .val (.int (((k3.toUInt32 >>> ((3 : Int32) &&& 31).toUInt32).toInt32) &&& (3 : Int32))), .val (.ref wt), .val (.ref b133), .val (.int (0 : Int32))] [(.int (0 : Int32)), (.int (0 : Int32))])) _
        refine XS.icmpNo X165.here hx rfl (hb hby at_183) rfl (teq (rfl : (0 : Int32) = (0 : Int32))).2 ?_
        show Steps p.tables e below (T165.setTop (mkF m 186 #[.val (.int k0), .val (.int k1), .val (.int k2), .val (.int k3), .val (.int hi), .val (.int (k3 &&& (7 : Int32))), .val (.int va), .val (.int (((k3.toUInt32 >>> ((3 : Int32) &&& 31).toUInt32).toInt32) &&& (3 : Int32))), .val (.ref wt), .val (.ref b133), .val (.int (0 : Int32))] [])) _
        refine XS.iconst X165.here hx rfl (hb hby at_186) ?_
        show Steps p.tables e below (T165.setTop (mkF m 187 #[.val (.int k0), .val (.int k1), .val (.int k2), .val (.int k3), .val (.int hi), .val (.int (k3 &&& (7 : Int32))), .val (.int va), .val (.int (((k3.toUInt32 >>> ((3 : Int32) &&& 31).toUInt32).toInt32) &&& (3 : Int32))), .val (.ref wt), .val (.ref b133), .val (.int (0 : Int32))] [(.int (1 : Int32))])) _
        refine XS.goto X165.here hx rfl (pc0 := 187) (pc' := 191) rfl (hb hby at_187) (by decide) (by decide) ?_
        show Steps p.tables e below (T165.setTop (mkF m 191 #[.val (.int k0), .val (.int k1), .val (.int k2), .val (.int k3), .val (.int hi), .val (.int (k3 &&& (7 : Int32))), .val (.int va), .val (.int (((k3.toUInt32 >>> ((3 : Int32) &&& 31).toUInt32).toInt32) &&& (3 : Int32))), .val (.ref wt), .val (.ref b133), .val (.int (0 : Int32))] [(.int (1 : Int32))])) _
        exact k_)
      obtain ⟨fs, hr, hrun, hended, hW, hsame⟩ := X165.leave (v := some (.int (1 : Int32))) (fun h => by rw [Bd.returns] at h; cases h)
      refine ⟨_, _, pre166 _ ?_, hrun, hended, _, _, rfl, ?_, ⟨_, rfl⟩, hW, hsame.mono (by decide) (by decide)⟩
      · show Steps p.tables e below (T165.setTop (mkF m 191 #[.val (.int k0), .val (.int k1), .val (.int k2), .val (.int k3), .val (.int hi), .val (.int (k3 &&& (7 : Int32))), .val (.int va), .val (.int (((k3.toUInt32 >>> ((3 : Int32) &&& 31).toUInt32).toInt32) &&& (3 : Int32))), .val (.ref wt), .val (.ref b133), .val (.int (0 : Int32))] [(.int (1 : Int32))])) _
        exact retN X165 hx (t := .boolean) Bd.returns (by simp) (hb hby at_191) hr
      · show Q_0 Z k0 k1 k2 k3 cs w_INT w_DOUBLE w_BOOL h0 n0 _ T165.heap _
        rw [e165]
        exact ⟨rfl, N165⟩
set_option maxRecDepth 65536 in
set_option maxHeartbeats 40000000 in
theorem comes_1 {Post : Tables → Env → Array Value → State → Outcome → State → Prop} (hpost : ∀ tb e args s v u, (limb_1_1.after args s (.returned v) u = true ∧ limb_1_2.after args s (.returned v) u = true ∧ True) → FrameEnd s (.returned v) u (Jvm.fieldLocs frame_1_writes args s ++ Jvm.arrayLocs frame_1_arrays args s ++ Jvm.staticLocs frame_1_statics s) 16 128 → Post tb e args s (.returned v) u) :
    ArmFor flags0 classFile x code maxLocals ret World_1 tables_1 room_1 Calls_1 rest_1 Pre_1 Post := by
  intro l hfl _ _ p e ha hc hk s m args below hf hA hF happ hP
  obtain ⟨hcalls, hrest, hpre⟩ := hP
  obtain ⟨-, -, -, hnamed, -, -, -, hat⟩ := (Spec.applies_iff hf).mp happ
  obtain ⟨hg, hn⟩ := and_e (Cond.before_iff.mp (show (Jvm.Cond.and given_1 narrow_1).before args s = true from hpre))
  obtain ⟨hcount, hg0⟩ := and_e hg
  obtain ⟨hi0, hg1⟩ := and_e hg0
  obtain ⟨hi1, hg2⟩ := and_e hg1
  obtain ⟨hi2, hg3⟩ := and_e hg2
  obtain ⟨w0, w1, w2, w3, rfl⟩ : ∃ w0 w1 w2 w3 : Value, args = #[w0, w1, w2, w3] := by
    have hs : args.size = 4 := by simpa [Cond.value, given_1] using hcount
    obtain ⟨L⟩ := args
    match L, hs with
    | [w0, w1, w2, w3], _ => exact ⟨w0, w1, w2, w3, rfl⟩
  have hw := fun d (hd : d ∈ tables_1) => atoms_spec (ws := Jvm.Cond.code x code maxLocals ret :: tables_1) hat d (List.mem_cons_of_mem _ hd)
  have hfit : Fit s := fun {y c} hc i hi => by
    obtain ⟨ha, rfl⟩ := Array.getElem?_eq_some_iff.mp hc
    have q := List.all_eq_true.mp ((Array.all_eq_true_iff_forall_mem.mp hF) _ (Array.getElem_mem ha)) i (List.mem_range.mpr hi)
    simpa [Array.getElem?_eq_getElem hi] using q
  obtain ⟨i0, ei0⟩ := is_v hi0
  obtain rfl : w0 = (.int i0) := Option.some.inj ei0
  obtain ⟨i1, ei1⟩ := is_v hi1
  obtain rfl : w1 = (.int i1) := Option.some.inj ei1
  obtain ⟨i2, ei2⟩ := is_v hi2
  obtain rfl : w2 = (.int i2) := Option.some.inj ei2
  obtain ⟨i3, ei3⟩ := is_v hg3
  obtain rfl : w3 = (.int i3) := Option.some.inj ei3
  obtain ⟨g0, hn_0⟩ := and_e hn
  obtain ⟨g1, hn_1⟩ := and_e hn_0
  have g2 := hn_1
  obtain ⟨w_INT, ev_INT, S_INT, E_INT⟩ := own_sta (hw _ (List.mem_of_getElem? (i := 1) rfl)) (hw _ (List.mem_of_getElem? (i := 2) rfl)) g0
  obtain ⟨w_DOUBLE, ev_DOUBLE, S_DOUBLE, E_DOUBLE⟩ := own_sta (hw _ (List.mem_of_getElem? (i := 1) rfl)) (hw _ (List.mem_of_getElem? (i := 61) rfl)) g1
  obtain ⟨w_BOOL, ev_BOOL, S_BOOL, E_BOOL⟩ := own_sta (hw _ (List.mem_of_getElem? (i := 1) rfl)) (hw _ (List.mem_of_getElem? (i := 63) rfl)) g2
  obtain ⟨hsets, hown0⟩ := atoms_of _ (rest_1_c_eq ▸ (show rest_1_c.before _ s = true from hrest))
  have hsv := fun d (hd : d ∈ jdkStatics_1) => Cond.before_iff.mp (hsets d hd)
  obtain ⟨cs, ev_cs⟩ := is_v (hsv _ (List.mem_of_getElem? (i := 1) rfl))
  have S_CS : Sta s s.heap "java/lang/String" "COMPACT_STRINGS" "Z" (.int cs) := Sta.start ev_cs (Or.inl (hsets _ (List.mem_of_getElem? (i := 0) rfl)))
  have hcs : ¬ cs = (0 : Int32) := by
    have q := not_v (hsv _ (List.mem_of_getElem? (i := 2) rfl))
    exact gotF (own_eqI ev_cs rfl) q
  obtain ⟨n, o, h1, h2, h3, _, L, rfl, ⟨rfl, N⟩, hq⟩ := rm_0 l s _ hw tables_1 i0 i1 i2 i3 cs w_INT w_DOUBLE w_BOOL s.heap s.heap.size (Nat.le_refl _) S_CS hcs S_INT S_DOUBLE S_BOOL p e ha hc hk s m _ below hf ((Spec.applies_iff_loose hf).mp happ).1 ⟨rfl, State.Warmed39.refl s, rfl⟩ trivial
  refine ⟨n, _, h1, h2, h3, hpost _ _ _ _ _ _ ⟨Cond.after_iff.mpr rfl, Cond.after_iff.mpr (eq_i res_at (Term.int_eval (1)) rfl), trivial⟩ ⟨hq.1, hq.2.1, (hq.2.2.sift fun y hy => Or.inr (N y hy)).mono (by decide) (by decide)⟩⟩
theorem main_1_1 : Claimed_1_1 := comes_1 fun _ _ _ _ _ _ h hF => ⟨h.1, hF⟩
theorem main_1_2 : Claimed_1_2 := comes_1 fun _ _ _ _ _ _ h hF => ⟨h.2.1, hF⟩
end Jvm.Pilot.@@N@@
namespace Jvm.Pilot.@@N@@
open Jvm Jvm.ClassFile Sem Op Lib Jvm.Free Jvm.Stand Jvm.Pilot.@@N@@.Jvm.D
/-! MADE BY PROGRAM (witnessworld.py) out of the Statement's table words and the real class files: 20 classes; the members and pool entries that the words name. The judged class is class 1, her method 1. -/
namespace start1
open Jvm.ClassFile
def u (s : String) : CpInfo := .utf8 (stringToUtf16 s)
/-- a pool by its gaps: so many unusable entries, then the entry; so many at the end -/
def gap : Nat → List CpInfo → List CpInfo
  | 0, r => r
  | n + 1, r => .unusable :: gap n r
def poolList (es : List (Nat × CpInfo)) (last : Nat) : List CpInfo := es.foldr (fun e r => gap e.1 (e.2 :: r)) (gap last [])
def pool (es : List (Nat × CpInfo)) (last : Nat) : Array CpInfo := ⟨poolList es last⟩
def fileOf (pool : Array CpInfo) (this : Nat) (attrs : Array Attribute := #[]) (ms : Array MethodInfo := #[]) (fl : Nat := 33) (sup : Nat := 0) (ifs : Array Nat := #[]) (fds : Array FieldInfo := #[]) : ClassFile where
  minorVersion := 0
  majorVersion := 65
  constantPool := pool
  accessFlags := fl
  thisClass := this
  superClass := sup
  interfaces := ifs
  fields := fds
  methods := ms
  attributes := attrs
def plain (name : String) (sup : Option ClassId) : Class where
  name := name
  kind := .ordinary
  loader := none
  accessFlags := 33
  super := sup
  interfaces := #[]
  cf := none
  fields := #[]
  methods := #[]
  instanceTypes := #[]
  staticTypes := #[]
  resolved := #[]
  callSites := []
  init := .initialized
  statics := none
  mirror := none

def pool0 : Array CpInfo := pool [(5, u "<init>"), (0, u "()V"), (1, .class_ 10), (1, u "java/lang/Object")] 113

def k0c0 : Code := { maxStack := 0, maxLocals := 1, code := object_method_1_code, exceptionTable := #[], attributes := #[] }
def k0m0 : Method := { name := "<init>", desc := "()V", sig := { parameters := [], returnType := none }, accessFlags := 1, code := some k0c0 }
/-- java/lang/Object -/
def k0 : Class := { plain "java/lang/Object" none with
  accessFlags := 33
  interfaces := #[]
  cf := some (fileOf pool0 8 #[] #[{ accessFlags := 1, nameIndex := 5, descriptorIndex := 6, attributes := #[] }] 33 0 #[] #[])
  fields := #[]
  methods := #[k0m0]
  instanceTypes := #[]
  staticTypes := #[]
  resolved := Array.replicate 124 none
  statics := none }

def pool1 : Array CpInfo := pool [(2, .class_ 4), (1, u "java/lang/Object"), (0, u "<init>"), (0, u "()V"), (0, .fieldref 8 9), (0, .class_ 10), (0, .nameAndType 11 12), (0, u "com/example/atropos/atropos/lang/Type"), (0, u "INT"), (0, u "Lcom/example/atropos/atropos/lang/Type;"), (0, .fieldref 8 14), (0, .nameAndType 15 12), (0, u "DOUBLE"), (0, .fieldref 8 17), (0, .nameAndType 18 12), (0, u "BOOL"), (0, .class_ 20), (0, u "com/example/atropos/atropos/lang/Variable"), (0, .methodref 22 23), (0, .class_ 24), (0, .nameAndType 25 26), (0, u "java/lang/String"), (0, u "valueOf"), (0, u "(C)Ljava/lang/String;"), (0, .methodref 19 28), (0, .nameAndType 5 29), (0, u "(Ljava/lang/String;ILcom/example/atropos/atropos/lang/Type;III)V"), (0, .methodref 31 32), (0, .class_ 33), (0, .nameAndType 34 35), (0, u "java/lang/Math"), (0, u "max"), (0, u "(II)I"), (0, .methodref 31 37), (0, .nameAndType 38 35), (0, u "min"), (0, .methodref 19 40), (0, .nameAndType 41 42), (0, u "inRange"), (0, u "(I)Z"), (0, .class_ 44), (0, u "com/example/atropos/atropos/lang/VariableInRangePinLaw"), (2, u "law"), (0, u "(IIII)Z")] 3

def k1m0 : Method := { name := "<init>", desc := "()V", sig := { parameters := [], returnType := none }, accessFlags := 1, code := none }
def k1c1 : Code := { maxStack := 8, maxLocals := 11, code := code, exceptionTable := #[], attributes := #[] }
def k1m1 : Method := { name := "law", desc := "(IIII)Z", sig := { parameters := [.int, .int, .int, .int], returnType := some .boolean }, accessFlags := 9, code := some k1c1 }
/-- com/example/atropos/atropos/lang/VariableInRangePinLaw -/
def k1 : Class := { plain "com/example/atropos/atropos/lang/VariableInRangePinLaw" (some 0) with
  accessFlags := 49
  interfaces := #[]
  cf := some (fileOf pool1 43 #[] #[{ accessFlags := 1, nameIndex := 5, descriptorIndex := 6, attributes := #[] }, { accessFlags := 9, nameIndex := 47, descriptorIndex := 48, attributes := #[] }] 49 2 #[] #[])
  fields := #[]
  methods := #[k1m0, k1m1]
  instanceTypes := #[]
  staticTypes := #[]
  resolved := Array.replicate 52 none
  statics := none }

def pool2 : Array CpInfo := pool [(1, .class_ 2), (0, u "java/lang/constant/Constable"), (0, .class_ 4), (0, u "java/lang/Object")] 6

/-- java/lang/constant/Constable -/
def k2 : Class := { plain "java/lang/constant/Constable" (some 0) with
  accessFlags := 1537
  interfaces := #[]
  cf := some (fileOf pool2 1 #[] #[] 1537 3 #[] #[])
  fields := #[]
  methods := #[]
  instanceTypes := #[]
  staticTypes := #[]
  resolved := Array.replicate 11 none
  statics := none }

def pool3 : Array CpInfo := pool [(1, .class_ 2), (0, u "java/lang/Comparable"), (0, .class_ 4), (0, u "java/lang/Object")] 7

/-- java/lang/Comparable -/
def k3 : Class := { plain "java/lang/Comparable" (some 0) with
  accessFlags := 1537
  interfaces := #[]
  cf := some (fileOf pool3 1 #[] #[] 1537 3 #[] #[])
  fields := #[]
  methods := #[]
  instanceTypes := #[]
  staticTypes := #[]
  resolved := Array.replicate 12 none
  statics := none }

def pool4 : Array CpInfo := pool [(1, .class_ 2), (0, u "java/io/Serializable"), (0, .class_ 4), (0, u "java/lang/Object")] 2

/-- java/io/Serializable -/
def k4 : Class := { plain "java/io/Serializable" (some 0) with
  accessFlags := 1537
  interfaces := #[]
  cf := some (fileOf pool4 1 #[] #[] 1537 3 #[] #[])
  fields := #[]
  methods := #[]
  instanceTypes := #[]
  staticTypes := #[]
  resolved := Array.replicate 7 none
  statics := none }

def pool5 : Array CpInfo := pool [(2, .class_ 4), (1, u "java/lang/Enum"), (0, u "name"), (0, u "Ljava/lang/String;"), (2, u "ordinal"), (0, u "I"), (1, .class_ 14), (1, u "java/lang/Object"), (4, u "hash"), (86, .class_ 108), (1, u "java/lang/Enum$EnumDesc"), (2, .class_ 112), (0, u "java/lang/constant/Constable"), (0, .class_ 114), (0, u "java/lang/Comparable"), (0, .class_ 116), (0, u "java/io/Serializable")] 87

/-- java/lang/Enum -/
def k5 : Class := { plain "java/lang/Enum" (some 0) with
  accessFlags := 1057
  interfaces := #[2, 3, 4]
  cf := some (fileOf pool5 2 #[.nestMembers #[106]] #[] 1057 12 #[111, 113, 115] #[{ accessFlags := 18, nameIndex := 5, descriptorIndex := 6, attributes := #[] }, { accessFlags := 18, nameIndex := 9, descriptorIndex := 10, attributes := #[] }, { accessFlags := 2, nameIndex := 19, descriptorIndex := 10, attributes := #[] }])
  fields := #[{ name := "name", type := (.object "java/lang/String"), accessFlags := 18, slot := 0, constantValue := 0 }, { name := "ordinal", type := .int, accessFlags := 18, slot := 1, constantValue := 0 }, { name := "hash", type := .int, accessFlags := 2, slot := 2, constantValue := 0 }]
  methods := #[]
  instanceTypes := #[(.object "java/lang/String"), .int, .int]
  staticTypes := #[]
  resolved := Array.replicate 204 none
  statics := none }

def pool6 : Array CpInfo := pool [(1, .class_ 2), (0, u "com/example/atropos/atropos/lang/Type"), (2, u "INT"), (0, u "Lcom/example/atropos/atropos/lang/Type;"), (2, u "DOUBLE"), (2, u "BOOL"), (2, u "$VALUES"), (0, u "[Lcom/example/atropos/atropos/lang/Type;"), (6, .class_ 25), (1, u "java/lang/Enum"), (8, u "keyword"), (0, u "Ljava/lang/String;")] 33

/-- com/example/atropos/atropos/lang/Type -/
def k6 : Class := { plain "com/example/atropos/atropos/lang/Type" (some 5) with
  accessFlags := 16433
  interfaces := #[]
  cf := some (fileOf pool6 1 #[] #[] 16433 23 #[] #[{ accessFlags := 16409, nameIndex := 5, descriptorIndex := 6, attributes := #[] }, { accessFlags := 16409, nameIndex := 9, descriptorIndex := 6, attributes := #[] }, { accessFlags := 16409, nameIndex := 12, descriptorIndex := 6, attributes := #[] }, { accessFlags := 18, nameIndex := 34, descriptorIndex := 35, attributes := #[] }, { accessFlags := 4122, nameIndex := 15, descriptorIndex := 16, attributes := #[] }])
  fields := #[{ name := "INT", type := (.object "com/example/atropos/atropos/lang/Type"), accessFlags := 16409, slot := 0, constantValue := 0 }, { name := "DOUBLE", type := (.object "com/example/atropos/atropos/lang/Type"), accessFlags := 16409, slot := 1, constantValue := 0 }, { name := "BOOL", type := (.object "com/example/atropos/atropos/lang/Type"), accessFlags := 16409, slot := 2, constantValue := 0 }, { name := "keyword", type := (.object "java/lang/String"), accessFlags := 18, slot := 3, constantValue := 0 }, { name := "$VALUES", type := (.array (.object "com/example/atropos/atropos/lang/Type")), accessFlags := 4122, slot := 3, constantValue := 0 }]
  methods := #[]
  instanceTypes := #[(.object "java/lang/String"), .int, .int, (.object "java/lang/String")]
  staticTypes := #[(.object "com/example/atropos/atropos/lang/Type"), (.object "com/example/atropos/atropos/lang/Type"), (.object "com/example/atropos/atropos/lang/Type"), (.array (.object "com/example/atropos/atropos/lang/Type"))]
  resolved := Array.replicate 69 none
  statics := some 0 }

def pool7 : Array CpInfo := pool [(1, .methodref 2 3), (0, .class_ 4), (0, .nameAndType 5 6), (0, u "java/lang/Object"), (0, u "<init>"), (0, u "()V"), (0, .fieldref 8 9), (0, .class_ 10), (0, .nameAndType 11 12), (0, u "com/example/atropos/atropos/lang/Variable"), (0, u "name"), (0, u "Ljava/lang/String;"), (0, .fieldref 8 14), (0, .nameAndType 15 16), (0, u "index"), (0, u "I"), (0, .fieldref 8 18), (0, .nameAndType 19 20), (0, u "type"), (0, u "Lcom/example/atropos/atropos/lang/Type;"), (0, .fieldref 8 22), (0, .nameAndType 23 16), (0, u "lower"), (0, .fieldref 8 25), (0, .nameAndType 26 16), (0, u "upper"), (0, .fieldref 8 28), (0, .nameAndType 29 16), (0, u "initial"), (27, u "(Ljava/lang/String;ILcom/example/atropos/atropos/lang/Type;III)V"), (9, u "inRange"), (0, u "(I)Z")] 21

def k7c0 : Code := { maxStack := 2, maxLocals := 7, code := prog_60_method_1_code, exceptionTable := #[], attributes := #[] }
def k7m0 : Method := { name := "<init>", desc := "(Ljava/lang/String;ILcom/example/atropos/atropos/lang/Type;III)V", sig := { parameters := [(.object "java/lang/String"), .int, (.object "com/example/atropos/atropos/lang/Type"), .int, .int, .int], returnType := none }, accessFlags := 0, code := some k7c0 }
def k7c1 : Code := { maxStack := 2, maxLocals := 2, code := prog_60_method_6_code, exceptionTable := #[], attributes := #[] }
def k7m1 : Method := { name := "inRange", desc := "(I)Z", sig := { parameters := [.int], returnType := some .boolean }, accessFlags := 1, code := some k7c1 }
/-- com/example/atropos/atropos/lang/Variable -/
def k7 : Class := { plain "com/example/atropos/atropos/lang/Variable" (some 0) with
  accessFlags := 49
  interfaces := #[]
  cf := some (fileOf pool7 8 #[] #[{ accessFlags := 0, nameIndex := 5, descriptorIndex := 57, attributes := #[] }, { accessFlags := 1, nameIndex := 67, descriptorIndex := 68, attributes := #[] }] 49 2 #[] #[{ accessFlags := 18, nameIndex := 11, descriptorIndex := 12, attributes := #[] }, { accessFlags := 18, nameIndex := 15, descriptorIndex := 16, attributes := #[] }, { accessFlags := 18, nameIndex := 19, descriptorIndex := 20, attributes := #[] }, { accessFlags := 18, nameIndex := 23, descriptorIndex := 16, attributes := #[] }, { accessFlags := 18, nameIndex := 26, descriptorIndex := 16, attributes := #[] }, { accessFlags := 18, nameIndex := 29, descriptorIndex := 16, attributes := #[] }])
  fields := #[{ name := "name", type := (.object "java/lang/String"), accessFlags := 18, slot := 0, constantValue := 0 }, { name := "index", type := .int, accessFlags := 18, slot := 1, constantValue := 0 }, { name := "type", type := (.object "com/example/atropos/atropos/lang/Type"), accessFlags := 18, slot := 2, constantValue := 0 }, { name := "lower", type := .int, accessFlags := 18, slot := 3, constantValue := 0 }, { name := "upper", type := .int, accessFlags := 18, slot := 4, constantValue := 0 }, { name := "initial", type := .int, accessFlags := 18, slot := 5, constantValue := 0 }]
  methods := #[k7m0, k7m1]
  instanceTypes := #[(.object "java/lang/String"), .int, (.object "com/example/atropos/atropos/lang/Type"), .int, .int, .int]
  staticTypes := #[]
  resolved := Array.replicate 90 none
  statics := none }

def pool8 : Array CpInfo := pool [(2, .class_ 4), (1, u "java/lang/CharSequence"), (42, .class_ 48), (0, u "java/lang/CharSequence$1CodePointIterator"), (10, .class_ 60), (0, u "java/lang/CharSequence$1CharIterator"), (5, .class_ 67), (0, u "java/lang/Object")] 63

/-- java/lang/CharSequence -/
def k8 : Class := { plain "java/lang/CharSequence" (some 0) with
  accessFlags := 1537
  interfaces := #[]
  cf := some (fileOf pool8 2 #[.nestMembers #[47, 59]] #[] 1537 66 #[] #[])
  fields := #[]
  methods := #[]
  instanceTypes := #[]
  staticTypes := #[]
  resolved := Array.replicate 131 none
  statics := none }

def pool9 : Array CpInfo := pool [(1, .class_ 2), (0, u "java/lang/constant/ConstantDesc"), (0, .class_ 4), (0, u "java/lang/Object")] 32

/-- java/lang/constant/ConstantDesc -/
def k9 : Class := { plain "java/lang/constant/ConstantDesc" (some 0) with
  accessFlags := 1537
  interfaces := #[]
  cf := some (fileOf pool9 1 #[] #[] 1537 3 #[] #[])
  fields := #[]
  methods := #[]
  instanceTypes := #[]
  staticTypes := #[]
  resolved := Array.replicate 37 none
  statics := none }

def pool10 : Array CpInfo := pool [(1, .methodref 2 3), (0, .class_ 4), (0, .nameAndType 5 6), (0, u "java/lang/Object"), (0, u "<init>"), (0, u "()V"), (2, .fieldref 10 11), (0, .class_ 12), (0, .nameAndType 13 14), (0, u "java/lang/String"), (0, u "value"), (0, u "[B"), (0, .fieldref 10 16), (0, .nameAndType 17 18), (0, u "coder"), (0, u "B"), (2, u "hash"), (0, u "I"), (2, u "hashIsZero"), (0, u "Z"), (11, .fieldref 10 39), (0, .nameAndType 40 26), (0, u "COMPACT_STRINGS"), (12, u "toBytes"), (53, .class_ 109), (1, u "java/lang/StringLatin1"), (99, .methodref 10 210), (0, .nameAndType 5 211), (0, u "([BB)V"), (157, u "(C)Z"), (205, .class_ 576), (0, u "java/lang/CharSequence"), (22, u "CASE_INSENSITIVE_ORDER"), (0, u "Ljava/util/Comparator;"), (181, u "valueOf"), (0, u "(C)Ljava/lang/String;"), (231, .methodref 107 1016), (0, .nameAndType 1017 369), (0, u "canEncode"), (0, .methodref 107 1019), (0, .nameAndType 53 1020), (0, u "(C)[B"), (80, u "serialPersistentFields"), (0, u "[Ljava/io/ObjectStreamField;"), (0, .class_ 1104), (0, u "java/lang/String$CaseInsensitiveComparator"), (1, .class_ 1107), (0, u "java/io/Serializable"), (0, .class_ 1109), (0, u "java/lang/Comparable"), (0, .class_ 1111), (0, u "java/lang/constant/Constable"), (0, .class_ 1113), (0, u "java/lang/constant/ConstantDesc"), (2, u "serialVersionUID"), (0, u "J"), (3, u "REPL"), (0, u "C"), (2, u "LATIN1"), (1, u "UTF16")] 323

def k10m0 : Method := { name := "<init>", desc := "()V", sig := { parameters := [], returnType := none }, accessFlags := 1, code := none }
def k10c1 : Code := { maxStack := 4, maxLocals := 1, code := jdk_42_method_139_code, exceptionTable := #[], attributes := #[] }
def k10m1 : Method := { name := "valueOf", desc := "(C)Ljava/lang/String;", sig := { parameters := [.char], returnType := some (.object "java/lang/String") }, accessFlags := 9, code := some k10c1 }
def k10c2 : Code := { maxStack := 2, maxLocals := 3, code := jdk_42_method_151_code, exceptionTable := #[], attributes := #[] }
def k10m2 : Method := { name := "<init>", desc := "([BB)V", sig := { parameters := [(.array .byte), .byte], returnType := none }, accessFlags := 0, code := some k10c2 }
/-- java/lang/String -/
def k10 : Class := { plain "java/lang/String" (some 0) with
  accessFlags := 49
  interfaces := #[4, 3, 8, 2, 9]
  cf := some (fileOf pool10 10 #[.nestMembers #[1103]] #[{ accessFlags := 1, nameIndex := 5, descriptorIndex := 6, attributes := #[] }, { accessFlags := 9, nameIndex := 782, descriptorIndex := 783, attributes := #[] }, { accessFlags := 0, nameIndex := 5, descriptorIndex := 211, attributes := #[] }] 49 2 #[1106, 1108, 575, 1110, 1112] #[{ accessFlags := 18, nameIndex := 13, descriptorIndex := 14, attributes := #[] }, { accessFlags := 18, nameIndex := 17, descriptorIndex := 18, attributes := #[] }, { accessFlags := 2, nameIndex := 21, descriptorIndex := 22, attributes := #[] }, { accessFlags := 2, nameIndex := 25, descriptorIndex := 26, attributes := #[] }, { accessFlags := 26, nameIndex := 1116, descriptorIndex := 1117, attributes := #[] }, { accessFlags := 24, nameIndex := 40, descriptorIndex := 26, attributes := #[] }, { accessFlags := 26, nameIndex := 1101, descriptorIndex := 1102, attributes := #[] }, { accessFlags := 26, nameIndex := 1121, descriptorIndex := 1122, attributes := #[] }, { accessFlags := 25, nameIndex := 599, descriptorIndex := 600, attributes := #[] }, { accessFlags := 24, nameIndex := 1125, descriptorIndex := 18, attributes := #[] }, { accessFlags := 24, nameIndex := 1127, descriptorIndex := 18, attributes := #[] }])
  fields := #[{ name := "value", type := (.array .byte), accessFlags := 18, slot := 0, constantValue := 0 }, { name := "coder", type := .byte, accessFlags := 18, slot := 1, constantValue := 0 }, { name := "hash", type := .int, accessFlags := 2, slot := 2, constantValue := 0 }, { name := "hashIsZero", type := .boolean, accessFlags := 2, slot := 3, constantValue := 0 }, { name := "serialVersionUID", type := .long, accessFlags := 26, slot := 0, constantValue := 0 }, { name := "COMPACT_STRINGS", type := .boolean, accessFlags := 24, slot := 1, constantValue := 0 }, { name := "serialPersistentFields", type := (.array (.object "java/io/ObjectStreamField")), accessFlags := 26, slot := 2, constantValue := 0 }, { name := "REPL", type := .char, accessFlags := 26, slot := 3, constantValue := 0 }, { name := "CASE_INSENSITIVE_ORDER", type := (.object "java/util/Comparator"), accessFlags := 25, slot := 4, constantValue := 0 }, { name := "LATIN1", type := .byte, accessFlags := 24, slot := 5, constantValue := 0 }, { name := "UTF16", type := .byte, accessFlags := 24, slot := 6, constantValue := 0 }]
  methods := #[k10m0, k10m1, k10m2]
  instanceTypes := #[(.array .byte), .byte, .int, .boolean]
  staticTypes := #[.long, .boolean, (.array (.object "java/io/ObjectStreamField")), .char, (.object "java/util/Comparator"), .byte, .byte]
  resolved := Array.replicate 1451 none
  statics := some 1 }

def pool11 : Array CpInfo := pool [(4, .class_ 6), (1, u "java/lang/Object"), (0, u "<init>"), (0, u "()V"), (5, .class_ 16), (1, u "java/lang/StringLatin1"), (73, u "canEncode"), (14, u "(C)Z"), (15, u "$assertionsDisabled"), (0, u "Z"), (98, .class_ 223), (1, u "java/lang/StringLatin1$LinesSpliterator"), (156, u "toBytes"), (1, u "(C)[B"), (7, .class_ 391), (0, u "java/lang/StringLatin1$CharsSpliterator")] 3

def k11m0 : Method := { name := "<init>", desc := "()V", sig := { parameters := [], returnType := none }, accessFlags := 0, code := none }
def k11c1 : Code := { maxStack := 2, maxLocals := 1, code := jdk_43_method_3_code, exceptionTable := #[], attributes := #[] }
def k11m1 : Method := { name := "canEncode", desc := "(C)Z", sig := { parameters := [.char], returnType := some .boolean }, accessFlags := 9, code := some k11c1 }
def k11c2 : Code := { maxStack := 4, maxLocals := 1, code := jdk_43_method_46_code, exceptionTable := #[], attributes := #[] }
def k11m2 : Method := { name := "toBytes", desc := "(C)[B", sig := { parameters := [.char], returnType := some (.array .byte) }, accessFlags := 9, code := some k11c2 }
/-- java/lang/StringLatin1 -/
def k11 : Class := { plain "java/lang/StringLatin1" (some 0) with
  accessFlags := 48
  interfaces := #[]
  cf := some (fileOf pool11 14 #[.nestMembers #[390, 221]] #[{ accessFlags := 0, nameIndex := 7, descriptorIndex := 8, attributes := #[] }, { accessFlags := 9, nameIndex := 90, descriptorIndex := 105, attributes := #[] }, { accessFlags := 9, nameIndex := 380, descriptorIndex := 382, attributes := #[] }] 48 4 #[] #[{ accessFlags := 4120, nameIndex := 121, descriptorIndex := 122, attributes := #[] }])
  fields := #[{ name := "$assertionsDisabled", type := .boolean, accessFlags := 4120, slot := 0, constantValue := 0 }]
  methods := #[k11m0, k11m1, k11m2]
  instanceTypes := #[]
  staticTypes := #[.boolean]
  resolved := Array.replicate 395 none
  statics := none }

def pool12 : Array CpInfo := pool [(1, .class_ 2), (0, u "java/lang/Math"), (1, .class_ 6), (1, u "java/lang/Object"), (0, u "<init>"), (0, u "()V"), (89, .class_ 100), (1, u "java/lang/Math$RandomNumberGeneratorHolder"), (71, u "negativeZeroFloatBits"), (0, u "J"), (2, u "negativeZeroDoubleBits"), (21, u "max"), (2, u "min"), (43, u "$assertionsDisabled"), (0, u "Z"), (88, u "(II)I"), (2, u "twoToTheDoubleScaleDown"), (0, u "D"), (4, u "twoToTheDoubleScaleUp"), (9, u "E"), (3, u "PI"), (2, u "TAU"), (2, u "DEGREES_TO_RADIANS"), (0, u "RADIANS_TO_DEGREES")] 94

def k12m0 : Method := { name := "<init>", desc := "()V", sig := { parameters := [], returnType := none }, accessFlags := 2, code := none }
def k12c1 : Code := { maxStack := 2, maxLocals := 2, code := jdk_29_method_65_code, exceptionTable := #[], attributes := #[] }
def k12m1 : Method := { name := "max", desc := "(II)I", sig := { parameters := [.int, .int], returnType := some .int }, accessFlags := 9, code := some k12c1 }
def k12c2 : Code := { maxStack := 2, maxLocals := 2, code := jdk_29_method_69_code, exceptionTable := #[], attributes := #[] }
def k12m2 : Method := { name := "min", desc := "(II)I", sig := { parameters := [.int, .int], returnType := some .int }, accessFlags := 9, code := some k12c2 }
/-- java/lang/Math -/
def k12 : Class := { plain "java/lang/Math" (some 0) with
  accessFlags := 49
  interfaces := #[]
  cf := some (fileOf pool12 1 #[.nestMembers #[98]] #[{ accessFlags := 2, nameIndex := 7, descriptorIndex := 8, attributes := #[] }, { accessFlags := 9, nameIndex := 198, descriptorIndex := 335, attributes := #[] }, { accessFlags := 9, nameIndex := 201, descriptorIndex := 335, attributes := #[] }] 49 4 #[] #[{ accessFlags := 25, nameIndex := 354, descriptorIndex := 339, attributes := #[] }, { accessFlags := 25, nameIndex := 358, descriptorIndex := 339, attributes := #[] }, { accessFlags := 25, nameIndex := 361, descriptorIndex := 339, attributes := #[] }, { accessFlags := 26, nameIndex := 364, descriptorIndex := 339, attributes := #[] }, { accessFlags := 26, nameIndex := 365, descriptorIndex := 339, attributes := #[] }, { accessFlags := 26, nameIndex := 172, descriptorIndex := 173, attributes := #[] }, { accessFlags := 26, nameIndex := 176, descriptorIndex := 173, attributes := #[] }, { accessFlags := 8, nameIndex := 344, descriptorIndex := 339, attributes := #[] }, { accessFlags := 8, nameIndex := 338, descriptorIndex := 339, attributes := #[] }, { accessFlags := 4120, nameIndex := 245, descriptorIndex := 246, attributes := #[] }])
  fields := #[{ name := "E", type := .double, accessFlags := 25, slot := 0, constantValue := 0 }, { name := "PI", type := .double, accessFlags := 25, slot := 1, constantValue := 0 }, { name := "TAU", type := .double, accessFlags := 25, slot := 2, constantValue := 0 }, { name := "DEGREES_TO_RADIANS", type := .double, accessFlags := 26, slot := 3, constantValue := 0 }, { name := "RADIANS_TO_DEGREES", type := .double, accessFlags := 26, slot := 4, constantValue := 0 }, { name := "negativeZeroFloatBits", type := .long, accessFlags := 26, slot := 5, constantValue := 0 }, { name := "negativeZeroDoubleBits", type := .long, accessFlags := 26, slot := 6, constantValue := 0 }, { name := "twoToTheDoubleScaleUp", type := .double, accessFlags := 8, slot := 7, constantValue := 0 }, { name := "twoToTheDoubleScaleDown", type := .double, accessFlags := 8, slot := 8, constantValue := 0 }, { name := "$assertionsDisabled", type := .boolean, accessFlags := 4120, slot := 9, constantValue := 0 }]
  methods := #[k12m0, k12m1, k12m2]
  instanceTypes := #[]
  staticTypes := #[.double, .double, .double, .double, .double, .long, .long, .double, .double, .boolean]
  resolved := Array.replicate 460 none
  statics := none }

def pool13 : Array CpInfo := pool [(2, .class_ 4), (1, u "java/lang/Object"), (0, u "<init>"), (0, u "()V"), (17, .class_ 26), (1, u "jdk/internal/util/Preconditions"), (28, .class_ 56), (0, u "jdk/internal/util/Preconditions$4"), (57, .class_ 115), (0, u "jdk/internal/util/Preconditions$1"), (7, u "SIOOBE_FORMATTER"), (0, u "Ljava/util/function/BiFunction;"), (0, .class_ 126), (0, u "jdk/internal/util/Preconditions$2"), (3, u "AIOOBE_FORMATTER"), (0, .class_ 132), (0, u "jdk/internal/util/Preconditions$3"), (3, u "IOOBE_FORMATTER")] 57

def k13m0 : Method := { name := "<init>", desc := "()V", sig := { parameters := [], returnType := none }, accessFlags := 1, code := none }
/-- jdk/internal/util/Preconditions -/
def k13 : Class := { plain "jdk/internal/util/Preconditions" (some 0) with
  accessFlags := 33
  interfaces := #[]
  cf := some (fileOf pool13 24 #[.nestMembers #[55, 131, 125, 114]] #[{ accessFlags := 1, nameIndex := 5, descriptorIndex := 6, attributes := #[] }] 33 2 #[] #[{ accessFlags := 25, nameIndex := 123, descriptorIndex := 124, attributes := #[] }, { accessFlags := 25, nameIndex := 130, descriptorIndex := 124, attributes := #[] }, { accessFlags := 25, nameIndex := 136, descriptorIndex := 124, attributes := #[] }])
  fields := #[{ name := "SIOOBE_FORMATTER", type := (.object "java/util/function/BiFunction"), accessFlags := 25, slot := 0, constantValue := 0 }, { name := "AIOOBE_FORMATTER", type := (.object "java/util/function/BiFunction"), accessFlags := 25, slot := 1, constantValue := 0 }, { name := "IOOBE_FORMATTER", type := (.object "java/util/function/BiFunction"), accessFlags := 25, slot := 2, constantValue := 0 }]
  methods := #[k13m0]
  instanceTypes := #[]
  staticTypes := #[(.object "java/util/function/BiFunction"), (.object "java/util/function/BiFunction"), (.object "java/util/function/BiFunction")]
  resolved := Array.replicate 194 none
  statics := some 2 }

def pool14 : Array CpInfo := pool [(9, u "<init>"), (6, .class_ 18), (1, u "java/lang/Object"), (0, u "()V"), (1, .class_ 23), (1, u "jdk/internal/util/ArraysSupport"), (0, u "LOG2_ARRAY_LONG_INDEX_SCALE"), (0, u "I"), (2, u "U"), (0, u "Ljdk/internal/misc/Unsafe;"), (8, u "BIG_ENDIAN"), (0, u "Z"), (8, u "LOG2_BYTE_BIT_SIZE"), (4, u "LOG2_ARRAY_INT_INDEX_SCALE"), (54, u "JLA"), (0, u "Ljdk/internal/access/JavaLangAccess;"), (11, u "LOG2_ARRAY_BOOLEAN_INDEX_SCALE"), (9, u "LOG2_ARRAY_BYTE_INDEX_SCALE"), (5, u "LOG2_ARRAY_CHAR_INDEX_SCALE"), (5, u "LOG2_ARRAY_SHORT_INDEX_SCALE"), (18, u "LOG2_ARRAY_FLOAT_INDEX_SCALE"), (24, u "LOG2_ARRAY_DOUBLE_INDEX_SCALE"), (89, u "T_BOOLEAN"), (2, u "T_CHAR"), (1, u "T_FLOAT"), (1, u "T_DOUBLE"), (1, u "T_BYTE"), (1, u "T_SHORT"), (1, u "T_INT"), (1, u "T_LONG"), (1, u "SOFT_MAX_ARRAY_LENGTH")] 83

def k14m0 : Method := { name := "<init>", desc := "()V", sig := { parameters := [], returnType := none }, accessFlags := 2, code := none }
/-- jdk/internal/util/ArraysSupport -/
def k14 : Class := { plain "jdk/internal/util/ArraysSupport" (some 0) with
  accessFlags := 33
  interfaces := #[]
  cf := some (fileOf pool14 21 #[] #[{ accessFlags := 2, nameIndex := 9, descriptorIndex := 19, attributes := #[] }] 33 16 #[] #[{ accessFlags := 24, nameIndex := 28, descriptorIndex := 29, attributes := #[] }, { accessFlags := 26, nameIndex := 38, descriptorIndex := 39, attributes := #[] }, { accessFlags := 25, nameIndex := 121, descriptorIndex := 25, attributes := #[] }, { accessFlags := 25, nameIndex := 131, descriptorIndex := 25, attributes := #[] }, { accessFlags := 25, nameIndex := 137, descriptorIndex := 25, attributes := #[] }, { accessFlags := 25, nameIndex := 143, descriptorIndex := 25, attributes := #[] }, { accessFlags := 25, nameIndex := 53, descriptorIndex := 25, attributes := #[] }, { accessFlags := 25, nameIndex := 24, descriptorIndex := 25, attributes := #[] }, { accessFlags := 25, nameIndex := 162, descriptorIndex := 25, attributes := #[] }, { accessFlags := 25, nameIndex := 187, descriptorIndex := 25, attributes := #[] }, { accessFlags := 26, nameIndex := 48, descriptorIndex := 25, attributes := #[] }, { accessFlags := 25, nameIndex := 277, descriptorIndex := 25, attributes := #[] }, { accessFlags := 25, nameIndex := 280, descriptorIndex := 25, attributes := #[] }, { accessFlags := 25, nameIndex := 282, descriptorIndex := 25, attributes := #[] }, { accessFlags := 25, nameIndex := 284, descriptorIndex := 25, attributes := #[] }, { accessFlags := 25, nameIndex := 286, descriptorIndex := 25, attributes := #[] }, { accessFlags := 25, nameIndex := 288, descriptorIndex := 25, attributes := #[] }, { accessFlags := 25, nameIndex := 290, descriptorIndex := 25, attributes := #[] }, { accessFlags := 25, nameIndex := 292, descriptorIndex := 25, attributes := #[] }, { accessFlags := 26, nameIndex := 108, descriptorIndex := 109, attributes := #[] }, { accessFlags := 25, nameIndex := 294, descriptorIndex := 25, attributes := #[] }])
  fields := #[{ name := "U", type := (.object "jdk/internal/misc/Unsafe"), accessFlags := 24, slot := 0, constantValue := 0 }, { name := "BIG_ENDIAN", type := .boolean, accessFlags := 26, slot := 1, constantValue := 0 }, { name := "LOG2_ARRAY_BOOLEAN_INDEX_SCALE", type := .int, accessFlags := 25, slot := 2, constantValue := 0 }, { name := "LOG2_ARRAY_BYTE_INDEX_SCALE", type := .int, accessFlags := 25, slot := 3, constantValue := 0 }, { name := "LOG2_ARRAY_CHAR_INDEX_SCALE", type := .int, accessFlags := 25, slot := 4, constantValue := 0 }, { name := "LOG2_ARRAY_SHORT_INDEX_SCALE", type := .int, accessFlags := 25, slot := 5, constantValue := 0 }, { name := "LOG2_ARRAY_INT_INDEX_SCALE", type := .int, accessFlags := 25, slot := 6, constantValue := 0 }, { name := "LOG2_ARRAY_LONG_INDEX_SCALE", type := .int, accessFlags := 25, slot := 7, constantValue := 0 }, { name := "LOG2_ARRAY_FLOAT_INDEX_SCALE", type := .int, accessFlags := 25, slot := 8, constantValue := 0 }, { name := "LOG2_ARRAY_DOUBLE_INDEX_SCALE", type := .int, accessFlags := 25, slot := 9, constantValue := 0 }, { name := "LOG2_BYTE_BIT_SIZE", type := .int, accessFlags := 26, slot := 10, constantValue := 0 }, { name := "T_BOOLEAN", type := .int, accessFlags := 25, slot := 11, constantValue := 0 }, { name := "T_CHAR", type := .int, accessFlags := 25, slot := 12, constantValue := 0 }, { name := "T_FLOAT", type := .int, accessFlags := 25, slot := 13, constantValue := 0 }, { name := "T_DOUBLE", type := .int, accessFlags := 25, slot := 14, constantValue := 0 }, { name := "T_BYTE", type := .int, accessFlags := 25, slot := 15, constantValue := 0 }, { name := "T_SHORT", type := .int, accessFlags := 25, slot := 16, constantValue := 0 }, { name := "T_INT", type := .int, accessFlags := 25, slot := 17, constantValue := 0 }, { name := "T_LONG", type := .int, accessFlags := 25, slot := 18, constantValue := 0 }, { name := "JLA", type := (.object "jdk/internal/access/JavaLangAccess"), accessFlags := 26, slot := 19, constantValue := 0 }, { name := "SOFT_MAX_ARRAY_LENGTH", type := .int, accessFlags := 25, slot := 20, constantValue := 0 }]
  methods := #[k14m0]
  instanceTypes := #[]
  staticTypes := #[(.object "jdk/internal/misc/Unsafe"), .boolean, .int, .int, .int, .int, .int, .int, .int, .int, .int, .int, .int, .int, .int, .int, .int, .int, .int, (.object "jdk/internal/access/JavaLangAccess"), .int]
  resolved := Array.replicate 378 none
  statics := none }

def pool15 : Array CpInfo := pool [(1, u "java/lang/Cloneable"), (0, .class_ 1), (0, u "java/lang/Object"), (0, .class_ 3)] 3

/-- java/lang/Cloneable -/
def k15 : Class := { plain "java/lang/Cloneable" (some 0) with
  accessFlags := 1537
  interfaces := #[]
  cf := some (fileOf pool15 2 #[] #[] 1537 4 #[] #[])
  fields := #[]
  methods := #[]
  instanceTypes := #[]
  staticTypes := #[]
  resolved := Array.replicate 8 none
  statics := none }

/-- the primitive byte -/
def k16 : Class := { plain "byte" none with kind := .primitive 'B', accessFlags := 0x411 }
/-- [B -/
def k17 : Class := { plain "[B" (some 0) with kind := .array 16 .byte, interfaces := #[15, 4], accessFlags := 1041 }

/-- the primitive int -/
def k18 : Class := { plain "int" none with kind := .primitive 'I', accessFlags := 0x411 }
/-- [I -/
def k19 : Class := { plain "[I" (some 0) with kind := .array 18 .int, interfaces := #[15, 4], accessFlags := 1041 }

def heap : Heap := #[{ cls := 6, slots := #[.ref 3, .ref 4, .ref 5, .null], vm := .statics 6 },
  { cls := 10, slots := #[.long 0, .int 1, .null, .int 0, .null, .int 0, .int 0], vm := .statics 10 },
  { cls := 13, slots := #[.null, .null, .null], vm := .statics 13 },
  { cls := 6, slots := #[.null, .int 0, .int 0, .null], vm := .none },
  { cls := 6, slots := #[.null, .int 0, .int 0, .null], vm := .none },
  { cls := 6, slots := #[.null, .int 0, .int 0, .null], vm := .none }]
def classes : Array Class := #[k0, k1, k2, k3, k4, k5, k6, k7, k8, k9, k10, k11, k12, k13, k14, k15, k16, k17, k18, k19]
def interned : List (Array UInt16 × Addr) := []
def slotsUsed : Nat := 26
def theMethod : MethodId := ⟨1, 1⟩
def args0 : Array Value := #[.int 5, .int 5, .int 5, .int 5]
def aboutOver (below : List Frame) : State where
  vm := { classes := classes, interned := interned.toArray }
  heap := heap
  slotsUsed := slotsUsed
  threads := #[{ frames := .invoking theMethod args0 :: below }]
def below0 : List Frame := [.native { method := ⟨0, 0⟩, args := #[] }]
def about1 : State := aboutOver below0
def p0 : Program := .bare "" "" ""
def e0 : Env := launch0.env 0 0 0
theorem w_frames : about1.frames = Frame.invoking theMethod args0 :: below0 := rfl
set_option maxRecDepth 65536 in
theorem w_args : argsFit about1.vm theMethod args0 = true := by decide +kernel
set_option maxRecDepth 65536 in
theorem w_heap : heapFits about1 = true := by decide +kernel
set_option maxRecDepth 65536 in
theorem w_runnable : about1.curStatus? = some .runnable := by decide +kernel
set_option maxRecDepth 65536 in
theorem w_alone : about1.alone = true := by decide +kernel
set_option maxRecDepth 65536 in
theorem w_named : about1.methodNamed? x = some theMethod := by decide +kernel
set_option maxRecDepth 65536 in
theorem w_hears : about1.hears theMethod below0 = true := by decide +kernel
set_option maxRecDepth 65536 in
theorem w_ripe : about1.ripe theMethod args0 below0 = true := by decide +kernel
theorem w_running : about1.status = .running := rfl
set_option maxRecDepth 65536 in
theorem w_room : about1.hasRoom e0.platform room_1 = true :=
  launch0.hasRoom_least _ room_1 (by decide +kernel) (by decide +kernel) (by decide +kernel) (by decide +kernel) (by decide +kernel) (by decide +kernel)
theorem allAtoms_all (ts : List Jvm.Cond) (a : Array Jvm.Value) (st : Jvm.State) : (allAtoms ts).before a st = ts.all (fun c => c.before a st) := by
  induction ts with
  | nil => rfl
  | cons c t ih =>
    show (Jvm.Cond.and c (allAtoms t)).before a st = _
    rw [Jvm.Cond.before_and, ih, List.all_cons]
def words1 : List Jvm.Cond := Jvm.Cond.code x code maxLocals ret :: tables_1
/-- a 'code' word, met by the world's own term for the bytes: nothing is compared byte by byte -/
theorem code_word {y : MethodName} {bytes : ByteArray} {mx : Nat} {rt : Option FieldType} {a : Array Value} {s : State} {m : MethodId} {meth : Method} {c : Code} (h1 : s.methodNamed? y = some m) (h2 : s.vm.method? m = some meth) (h3 : meth.code = some c) (h4 : c.code = bytes)
    (h5 : (c.maxLocals == mx && c.exceptionTable.isEmpty && decide (c.maxStack ≤ mostOperands) && decide (meth.sig.returnType = rt) && !meth.locks && decide (parseMethodDescriptor y.desc = some meth.sig)) = true) : (Jvm.Cond.code y bytes mx rt).before a s = true := by
  simp only [Bool.and_eq_true, beq_iff_eq, Bool.not_eq_true', decide_eq_true_eq] at h5
  obtain ⟨⟨⟨⟨⟨g1, g2⟩, g3⟩, g4⟩, g5⟩, g6⟩ := h5
  simp [Cond.before, Cond.holds, Cond.value, h1, h2, h3, h4, g1, g2, g3, g4, g5, g6]
def isCode : Jvm.Cond → Bool
  | .code _ _ _ _ => true
  | _ => false
theorem all_split {L : List Jvm.Cond} {P : Jvm.Cond → Bool} (h1 : L.all (fun c => isCode c || P c) = true) (h2 : ∀ c ∈ L.filter isCode, P c = true) : L.all P = true := by
  refine List.all_eq_true.mpr fun c hc => ?_
  have h := List.all_eq_true.mp h1 c hc
  rcases Bool.eq_false_or_eq_true (isCode c) with hi | hi
  · exact h2 c (List.mem_filter.mpr ⟨hc, hi⟩)
  · simpa [hi] using h
set_option maxRecDepth 65536 in
theorem w_c0 : (Jvm.Cond.code x code maxLocals ret).before args0 about1 = true := code_word (m := ⟨1, 1⟩) (meth := k1m1) (c := k1c1) (by decide +kernel) rfl rfl rfl (by decide +kernel)
set_option maxRecDepth 65536 in
theorem w_c1 : (Jvm.Cond.code ({ cls := "java/lang/String", name := "valueOf", desc := "(C)Ljava/lang/String;" } : Jvm.MethodName) jdk_42_method_139_code (1 : Nat) (Option.some (Jvm.ClassFile.FieldType.object "java/lang/String"))).before args0 about1 = true := code_word (m := ⟨10, 1⟩) (meth := k10m1) (c := k10c1) (by decide +kernel) rfl rfl rfl (by decide +kernel)
set_option maxRecDepth 65536 in
theorem w_c2 : (Jvm.Cond.code ({ cls := "java/lang/StringLatin1", name := "canEncode", desc := "(C)Z" } : Jvm.MethodName) jdk_43_method_3_code (1 : Nat) (Option.some Jvm.ClassFile.FieldType.boolean)).before args0 about1 = true := code_word (m := ⟨11, 1⟩) (meth := k11m1) (c := k11c1) (by decide +kernel) rfl rfl rfl (by decide +kernel)
set_option maxRecDepth 65536 in
theorem w_c3 : (Jvm.Cond.code ({ cls := "java/lang/StringLatin1", name := "toBytes", desc := "(C)[B" } : Jvm.MethodName) jdk_43_method_46_code (1 : Nat) (Option.some (Jvm.ClassFile.FieldType.array Jvm.ClassFile.FieldType.byte))).before args0 about1 = true := code_word (m := ⟨11, 2⟩) (meth := k11m2) (c := k11c2) (by decide +kernel) rfl rfl rfl (by decide +kernel)
set_option maxRecDepth 65536 in
theorem w_c4 : (Jvm.Cond.code ({ cls := "java/lang/String", name := "<init>", desc := "([BB)V" } : Jvm.MethodName) jdk_42_method_151_code (3 : Nat) (Option.none : Option Jvm.ClassFile.FieldType)).before args0 about1 = true := code_word (m := ⟨10, 2⟩) (meth := k10m2) (c := k10c2) (by decide +kernel) rfl rfl rfl (by decide +kernel)
set_option maxRecDepth 65536 in
theorem w_c5 : (Jvm.Cond.code ({ cls := "java/lang/Object", name := "<init>", desc := "()V" } : Jvm.MethodName) object_method_1_code (1 : Nat) (Option.none : Option Jvm.ClassFile.FieldType)).before args0 about1 = true := code_word (m := ⟨0, 0⟩) (meth := k0m0) (c := k0c0) (by decide +kernel) rfl rfl rfl (by decide +kernel)
set_option maxRecDepth 65536 in
theorem w_c6 : (Jvm.Cond.code ({ cls := "com/example/atropos/atropos/lang/Variable", name := "<init>", desc := "(Ljava/lang/String;ILcom/example/atropos/atropos/lang/Type;III)V" } : Jvm.MethodName) prog_60_method_1_code (7 : Nat) (Option.none : Option Jvm.ClassFile.FieldType)).before args0 about1 = true := code_word (m := ⟨7, 0⟩) (meth := k7m0) (c := k7c0) (by decide +kernel) rfl rfl rfl (by decide +kernel)
set_option maxRecDepth 65536 in
theorem w_c7 : (Jvm.Cond.code ({ cls := "java/lang/Math", name := "max", desc := "(II)I" } : Jvm.MethodName) jdk_29_method_65_code (2 : Nat) (Option.some Jvm.ClassFile.FieldType.int)).before args0 about1 = true := code_word (m := ⟨12, 1⟩) (meth := k12m1) (c := k12c1) (by decide +kernel) rfl rfl rfl (by decide +kernel)
set_option maxRecDepth 65536 in
theorem w_c8 : (Jvm.Cond.code ({ cls := "java/lang/Math", name := "min", desc := "(II)I" } : Jvm.MethodName) jdk_29_method_69_code (2 : Nat) (Option.some Jvm.ClassFile.FieldType.int)).before args0 about1 = true := code_word (m := ⟨12, 2⟩) (meth := k12m2) (c := k12c2) (by decide +kernel) rfl rfl rfl (by decide +kernel)
set_option maxRecDepth 65536 in
theorem w_c9 : (Jvm.Cond.code ({ cls := "com/example/atropos/atropos/lang/Variable", name := "inRange", desc := "(I)Z" } : Jvm.MethodName) prog_60_method_6_code (2 : Nat) (Option.some Jvm.ClassFile.FieldType.boolean)).before args0 about1 = true := code_word (m := ⟨7, 1⟩) (meth := k7m1) (c := k7c1) (by decide +kernel) rfl rfl rfl (by decide +kernel)
def codes1 : List Jvm.Cond := [Jvm.Cond.code x code maxLocals ret, Jvm.Cond.code ({ cls := "java/lang/String", name := "valueOf", desc := "(C)Ljava/lang/String;" } : Jvm.MethodName) jdk_42_method_139_code (1 : Nat) (Option.some (Jvm.ClassFile.FieldType.object "java/lang/String")), Jvm.Cond.code ({ cls := "java/lang/StringLatin1", name := "canEncode", desc := "(C)Z" } : Jvm.MethodName) jdk_43_method_3_code (1 : Nat) (Option.some Jvm.ClassFile.FieldType.boolean), Jvm.Cond.code ({ cls := "java/lang/StringLatin1", name := "toBytes", desc := "(C)[B" } : Jvm.MethodName) jdk_43_method_46_code (1 : Nat) (Option.some (Jvm.ClassFile.FieldType.array Jvm.ClassFile.FieldType.byte)), Jvm.Cond.code ({ cls := "java/lang/String", name := "<init>", desc := "([BB)V" } : Jvm.MethodName) jdk_42_method_151_code (3 : Nat) (Option.none : Option Jvm.ClassFile.FieldType), Jvm.Cond.code ({ cls := "java/lang/Object", name := "<init>", desc := "()V" } : Jvm.MethodName) object_method_1_code (1 : Nat) (Option.none : Option Jvm.ClassFile.FieldType), Jvm.Cond.code ({ cls := "com/example/atropos/atropos/lang/Variable", name := "<init>", desc := "(Ljava/lang/String;ILcom/example/atropos/atropos/lang/Type;III)V" } : Jvm.MethodName) prog_60_method_1_code (7 : Nat) (Option.none : Option Jvm.ClassFile.FieldType), Jvm.Cond.code ({ cls := "java/lang/Math", name := "max", desc := "(II)I" } : Jvm.MethodName) jdk_29_method_65_code (2 : Nat) (Option.some Jvm.ClassFile.FieldType.int), Jvm.Cond.code ({ cls := "java/lang/Math", name := "min", desc := "(II)I" } : Jvm.MethodName) jdk_29_method_69_code (2 : Nat) (Option.some Jvm.ClassFile.FieldType.int), Jvm.Cond.code ({ cls := "com/example/atropos/atropos/lang/Variable", name := "inRange", desc := "(I)Z" } : Jvm.MethodName) prog_60_method_6_code (2 : Nat) (Option.some Jvm.ClassFile.FieldType.boolean)]
set_option maxRecDepth 65536 in
theorem codes_eq : words1.filter isCode = codes1 := rfl
theorem w_codes : ∀ c ∈ words1.filter isCode, c.before args0 about1 = true := by
  rw [codes_eq]
  intro c hc
  simp only [codes1, List.mem_cons, List.not_mem_nil, or_false] at hc
  rcases hc with rfl | rfl | rfl | rfl | rfl | rfl | rfl | rfl | rfl | rfl
  · exact w_c0
  · exact w_c1
  · exact w_c2
  · exact w_c3
  · exact w_c4
  · exact w_c5
  · exact w_c6
  · exact w_c7
  · exact w_c8
  · exact w_c9
set_option maxRecDepth 65536 in
theorem w_t1 : (words1.take 24).all (fun c => isCode c || c.before args0 about1) = true := by decide +kernel
set_option maxRecDepth 65536 in
theorem w_t2 : ((words1.drop 24).take 24).all (fun c => isCode c || c.before args0 about1) = true := by decide +kernel
set_option maxRecDepth 65536 in
theorem w_t3 : ((words1.drop 24).drop 24).all (fun c => isCode c || c.before args0 about1) = true := by decide +kernel
theorem w_tables : (allAtoms (Jvm.Cond.code x code maxLocals ret :: tables_1)).before args0 about1 = true := by
  rw [allAtoms_all]
  show words1.all (fun c => c.before args0 about1) = true
  refine all_split ?_ w_codes
  rw [← List.take_append_drop 24 words1, List.all_append, w_t1, ← List.take_append_drop 24 (words1.drop 24), List.all_append, w_t2, w_t3]
  rfl
set_option maxRecDepth 65536 in
theorem w_rest : rest_1_c.before args0 about1 = true := by decide +kernel
set_option maxRecDepth 65536 in
theorem w_case : (Jvm.Cond.and given_1 narrow_1).before args0 about1 = true := by decide +kernel
theorem w_applies : (headSpec (Jvm.Cond.code x code maxLocals ret :: tables_1) room_1).applies x e0.platform about1 = true :=
  (Spec.applies_iff w_frames).mpr ⟨w_running, w_runnable, w_alone, w_named, w_hears, w_ripe, w_room, w_tables⟩
theorem atStart : AtStart classFile x code maxLocals ret World_1 tables_1 room_1 Calls_1 rest_1 Pre_1 launch0 p0 e0 about1 theMethod args0 below0 :=
  ⟨lists_1, trivial, launch0.admits_env _ _ _, launch0.least_env, fairChoices_fair.cas, fairChoices_fair.clock, w_frames, w_args, w_heap, w_applies, trivial, w_rest, w_case⟩
end start1
theorem witness_1 : WitnessClaimed_1 := ⟨start1.p0, start1.e0, start1.about1, start1.theMethod, start1.args0, start1.below0, start1.atStart⟩
end Jvm.Pilot.@@N@@
