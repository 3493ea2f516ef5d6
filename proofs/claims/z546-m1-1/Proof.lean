import JvmDerived
import JvmDerived.Pilot.@@N@@Statement
import JvmDerived.Pilot.@@N@@Code
set_option linter.unusedVariables false
set_option linter.unusedSimpArgs false
namespace Jvm.RoadKit
open Sem ClassFile Op Lib Jvm.Stand Jvm.Free Jvm.LawKit
section New
variable {p : Program} {l : Launch} {e : Env} {R : Room} {s : State} {m : MethodId} {args : Array Value} {below : List Frame} {meth : Method} {c : Code} {T : State} {locs : List Loc} {cells slots : Nat}
theorem retI (X : Stand p l e R s m args below meth c T locs cells slots) (hx : p.tables.exec = Jvm.exec) {pc : Nat} {Ls : Array Slot} {z : Int32} {rest : List Value} (hret : meth.sig.returnType = some .int) (hd : decode c.code pc = .ok (.ireturn, 1)) {fs : List Frame}
    (hl : ∀ (f : JFrame) (acts : List Action), f.method = m → f.locked = none → f.entered = [] → (doReturn e (T.setTop f) acts (some (.int z))).1 = T.setFrames fs) : Steps p.tables e below (T.setTop (mkF m pc Ls (.int z :: rest))) (T.setFrames fs) := by
  have hm' : T.vm.method? m = some meth := X.method'
  have hn : narrow .int (.int z) = .int z := rfl
  show Steps p.tables e below (T.setTop { method := m, pc := pc, locals := Ls, stack := _ :: rest, locked := none }) _
  jvm_step X.here [X.here.top, hx, hd, hm', hret, hn]
  first | (intro acts; rw [hl _ acts rfl rfl rfl]) | rw [hl _ _ rfl rfl rfl]
  exact Steps.refl _
theorem retA (X : Stand p l e R s m args below meth c T locs cells slots) (hx : p.tables.exec = Jvm.exec) {pc : Nat} {Ls : Array Slot} {w : Value} {t : FieldType} {rest : List Value} (hret : meth.sig.returnType = some t) (ht : t.isReference = true) (hw : w.isRef = true) (hn : narrow t w = w) (hd : decode c.code pc = .ok (.areturn, 1)) {fs : List Frame}
    (hl : ∀ (f : JFrame) (acts : List Action), f.method = m → f.locked = none → f.entered = [] → (doReturn e (T.setTop f) acts (some w)).1 = T.setFrames fs) : Steps p.tables e below (T.setTop (mkF m pc Ls (w :: rest))) (T.setFrames fs) :=
  retOut X hx hret hn (Or.inr (Or.inr (Or.inr (Or.inr ⟨rfl, ht, hw⟩)))) hd hl
end New
/-- all that was there is there still: a write to a cell above -/
theorem own_ext_wr {h0 h h' : Heap} {a : Addr} {sl : Nat} {v : Value} (E : Ext h0 h) (W : Wr h h' a sl v) (q : h0.size ≤ a) : Ext h0 h' := by
  refine ⟨Nat.le_trans E.1 (Keep.of_wr W).1, fun x c hc => (Keep.of_wr W).2.1 x c (E.2 x c hc) fun hm => ?_⟩
  cases List.mem_singleton.mp hm
  exact absurd (Array.getElem?_eq_some_iff.mp hc).1 (Nat.not_lt.mpr q)
theorem own_ext_keep {h0 h h' : Heap} {ws : List Addr} (E : Ext h0 h) (K : Keep h h' ws) (q : ∀ x ∈ ws, h0.size ≤ x) : Ext h0 h' :=
  ⟨Nat.le_trans E.1 K.1, fun x c hc => K.2.1 x c (E.2 x c hc) fun hm => absurd (Array.getElem?_eq_some_iff.mp hc).1 (Nat.not_lt.mpr (q x hm))⟩
theorem own_ext_trans {h0 h h' : Heap} (E : Ext h0 h) (E' : Ext h h') : Ext h0 h' := ⟨Nat.le_trans E.1 E'.1, fun x c hc => E'.2 x c (E.2 x c hc)⟩
theorem own_ext_refl (h : Heap) : Ext h h := ⟨Nat.le_refl _, fun _ _ q => q⟩
/-- a static that holds an object of this very class -/
theorem own_sta {Z : State} {a0 : Array Value} {C n d K : String} (wi : (Cond.initialized C).before a0 Z = true) (wl : (Cond.laysStatic C n d).before a0 Z = true) (hx : (Cond.exactly (.static C n d) K).value a0 Z none Z [] = some true) :
    ∃ w, (Term.static C n d).eval a0 Z none [] Z = some (.ref w) ∧ Sta Z Z.heap C n d (.ref w) ∧ Exa Z Z.heap w K := by
  obtain ⟨w, ev⟩ := exa_v hx
  exact ⟨w, ev, Sta.start ev (Or.inr ⟨wi, wl⟩), Exa.start ev hx⟩
/-- a field of an object that a term names, by an 'eq' of ints -/
theorem own_fld {Z : State} {a0 : Array Value} {t : Term} {w : Addr} {C n d : String} {k : Int32} (ev : t.eval a0 Z none [] Z = some (.ref w)) (h : (Cond.eq (.field t C n d) (.int k)).value a0 Z none Z [] = some true) : Fld Z Z.heap w C n d (.int k) :=
  Fld.start ((fld_at ev).symm.trans (eqv_i (F := .int k) rfl h))
end Jvm.RoadKit
namespace Jvm.RoadKit
open Sem ClassFile Op Lib Jvm.Stand Jvm.Free Jvm.LawKit
theorem own_fldR {Z : State} {a0 : Array Value} {t u : Term} {w w' : Addr} {C n d : String} (ev : t.eval a0 Z none [] Z = some (.ref w)) (eu : u.eval a0 Z none [] Z = some (.ref w')) (h : (Cond.eq (.field t C n d) u).value a0 Z none Z [] = some true) : Fld Z Z.heap w C n d (.ref w') := by
  refine Fld.start ((fld_at ev).symm.trans ?_)
  obtain ⟨x, y, hx, hy, -, -⟩ := cmp_v (Or.inl h)
  cases eu.symm.trans hy
  simp only [Cond.value, hx, hy] at h
  cases x <;> simp at h
  rw [hx, h]
theorem own_staA {Z : State} {a0 : Array Value} {C n d : String} {ty : FieldType} (wi : (Cond.initialized C).before a0 Z = true) (wl : (Cond.laysStatic C n d).before a0 Z = true) (hx : (Cond.arrayOf (.static C n d) ty).value a0 Z none Z [] = some true) :
    ∃ w, (Term.static C n d).eval a0 Z none [] Z = some (.ref w) ∧ Sta Z Z.heap C n d (.ref w) ∧ ∃ c, Arr Z Z.heap w c ty := by
  obtain ⟨w, ev⟩ := arr_v hx
  exact ⟨w, ev, Sta.start ev (Or.inr ⟨wi, wl⟩), Arr.start ev hx⟩
theorem own_len {Z : State} {a0 : Array Value} {t : Term} {w : Addr} {c : Cell} {ty : FieldType} {k : Int32} {n : Nat} (ev : t.eval a0 Z none [] Z = some (.ref w)) (A : Arr Z Z.heap w c ty) (h : (Cond.eq (.length t) (.int k)).value a0 Z none Z [] = some true) (hk : k.toInt = n) : c.slots.size = n := by
  have e := eqv_i (F := .int k) rfl h
  have ha : Z.arrayAt? w = some c := Arr.fin (Vm.Alike.refl _) A
  simp only [Term.eval, ev, ha, Option.bind_eq_bind, Option.bind_some] at e
  split at e
  · rename_i hl
    have q : c.slots.size.toInt32 = k := by simpa using e
    have q2 := len_toInt hl
    rw [q, hk] at q2
    omega
  · cases e
theorem own_elem {Z : State} {a0 : Array Value} {t : Term} {w : Addr} {c : Cell} {ty : FieldType} {k : Int32} {n : Nat} {v : Value} (ev : t.eval a0 Z none [] Z = some (.ref w)) (A : Arr Z Z.heap w c ty) (h : (Term.elem t (.int k)).eval a0 Z none [] Z = some v) (hk : k.toNatClampNeg = n) : c.slots[n]? = some v := by
  have q := (elem_in h ev (j := k) rfl A.1).2
  rw [hk] at q; exact q
theorem own_elN {Z : State} {a0 : Array Value} {t : Term} {w : Addr} {c : Cell} {ty : FieldType} {k : Int32} {n : Nat} (ev : t.eval a0 Z none [] Z = some (.ref w)) (A : Arr Z Z.heap w c ty) (h : (Cond.eq (.elem t (.int k)) .null).value a0 Z none Z [] = some true) (hk : k.toNatClampNeg = n) : c.slots[n]? = some .null := own_elem ev A (null_v h) hk
theorem own_elI {Z : State} {a0 : Array Value} {t : Term} {w : Addr} {c : Cell} {ty : FieldType} {k i : Int32} {n : Nat} (ev : t.eval a0 Z none [] Z = some (.ref w)) (A : Arr Z Z.heap w c ty) (h : (Cond.eq (.elem t (.int k)) (.int i)).value a0 Z none Z [] = some true) (hk : k.toNatClampNeg = n) : c.slots[n]? = some (.int i) := own_elem ev A (eqv_i (F := .int i) rfl h) hk
theorem own_elR {Z : State} {a0 : Array Value} {t u : Term} {w w' : Addr} {c : Cell} {ty : FieldType} {k : Int32} {n : Nat} (ev : t.eval a0 Z none [] Z = some (.ref w)) (A : Arr Z Z.heap w c ty) (eu : u.eval a0 Z none [] Z = some (.ref w')) (h : (Cond.eq (.elem t (.int k)) u).value a0 Z none Z [] = some true) (hk : k.toNatClampNeg = n) : c.slots[n]? = some (.ref w') := by
  refine own_elem ev A ?_ hk
  obtain ⟨x, y, hx, hy, -, -⟩ := cmp_v (Or.inl h)
  cases eu.symm.trans hy
  simp only [Cond.value, hx, hy] at h
  cases x <;> simp at h
  rw [hx, h]
end Jvm.RoadKit
namespace Jvm.Pilot.@@N@@
open Jvm Jvm.ClassFile Sem Op Lib Jvm.Free Jvm.Stand Jvm.LawKit Jvm.RoadKit Bundle Jvm.Pilot.@@N@@.Jvm.D
def own_max (a b : Int32) : Int32 := if a < b then b else a
def own_valid (x : Int32) : Int32 := if (x &&& (2147483647 : Int32)) = (0 : Int32) then (1 : Int32) else (x &&& (2147483647 : Int32))
theorem own_max_ge (x : Int32) : ¬ (own_max (1 : Int32) x < (1 : Int32)) := by
  unfold own_max
  split
  · rename_i h
    rw [Int32.lt_iff_toInt_lt] at *
    omega
  · decide
theorem own_valid_ge (x : Int32) : ¬ (own_valid x < (1 : Int32)) := by
  unfold own_valid
  split
  · decide
  · rename_i h
    have q := c_mask x (2147483647 : Int32) 31 (by decide) (by decide)
    have h' : ¬ (x &&& (2147483647 : Int32)).toInt = 0 := fun z => h (Int32.toInt_inj.mp z)
    rw [Int32.lt_iff_toInt_lt]
    have e1 : (1 : Int32).toInt = 1 := by decide
    rw [e1]
    omega
theorem ef_max (m : MethodId) (ma : Int32) (mb : Int32) : entryFrame m #[(.int ma), (.int mb)] 2 = mkF m 0 #[.val (.int ma), .val (.int mb)] [] := by first | (simp [entryFrame, mkF, argsToLocals, Value.category]; done) | rfl
def Q_max (Z : State) (ma : Int32) (mb : Int32) (h0 : Heap) (n0 : Nat) (v : Option Value) (h : Heap) (L : List Loc) : Prop := v = some (.int (own_max ma mb)) ∧ Fr n0 L ∧ h = h0
theorem d1_0 : decode jdk_29_method_65_code 0 = .ok (.iload_n 0, 1) := by decide +kernel
theorem d1_1 : decode jdk_29_method_65_code 1 = .ok (.iload_n 1, 1) := by decide +kernel
theorem d1_2 : decode jdk_29_method_65_code 2 = .ok (.if_icmp .lt 7, 3) := by decide +kernel
theorem d1_9 : decode jdk_29_method_65_code 9 = .ok (.iload_n 1, 1) := by decide +kernel
theorem d1_10 : decode jdk_29_method_65_code 10 = .ok (.ireturn, 1) := by decide +kernel
theorem d1_5 : decode jdk_29_method_65_code 5 = .ok (.iload_n 0, 1) := by decide +kernel
theorem d1_6 : decode jdk_29_method_65_code 6 = .ok (.goto 4, 3) := by decide +kernel
set_option maxRecDepth 65536 in
set_option maxHeartbeats 40000000 in
theorem rm_max (l : Launch) (Z : State) (a0 : Array Value) (hw : ∀ d ∈ tables_1, d.before a0 Z = true) (ws : List Jvm.Cond) (ma : Int32) (mb : Int32) (h0 : Heap) (n0 : Nat) (Z0 : n0 ≤ h0.size) :
    MetFree l (⟨"java/lang/Math", "max", "(II)I"⟩ : MethodName) (head1 (Jvm.Cond.code (⟨"java/lang/Math", "max", "(II)I"⟩ : MethodName) jdk_29_method_65_code 2 (some .int) :: ws) ({ frames := 0, cells := 0, slots := 0, locals := 0 } : Room)) (fun a_ U_ => a_ = #[(.int ma), (.int mb)] ∧ Z.Warmed39 U_.vm ∧ U_.heap = h0) (fun _ _ _ _ _ => True) (fun _ U_ o_ V_ => ∃ v_ L_, o_ = .returned v_ ∧ Q_max Z ma mb h0 n0 v_ V_.heap L_ ∧ FrameEnd U_ o_ V_ L_ ({ frames := 0, cells := 0, slots := 0, locals := 0 } : Room).cells ({ frames := 0, cells := 0, slots := 0, locals := 0 } : Room).slots) := by
  refine MetFree.of_bodySF (Jvm.Free.JP.mathPlain rfl (by decide +kernel)) hisR ?_
  intro p e s m args below meth c s₁ Bd hml0 hP hK
  obtain ⟨rfl, hZ, hh⟩ := hP
  have hx := Bd.exec
  have hby := Bd.bytes
  have hml : c.maxLocals = 2 := hml0
  have hown : s.vm.findClass "java/lang/Math" = some m.cls := findClass_of_methodNamed Bd.named
  have hnm := (name_of_methodNamed Bd.named Bd.method).1
  have X0 : Stand p l e ({ frames := 0, cells := 0, slots := 0, locals := 0 } : Room) s m #[(.int ma), (.int mb)] below meth c s₁ [] 0 0 := Stand.of_body Bd
  have e0 : s₁.heap = h0 := by rw [← hh, Bd.state]; rfl
  have N0 := Fr.nil n0
  have pre0 : ∀ t_, Steps p.tables e below (s₁.setTop (mkF m 0 #[.val (.int ma), .val (.int mb)] [])) t_ → Steps p.tables e below (s₁.setTop (entryFrame m #[(.int ma), (.int mb)] 2)) t_ := fun t_ k_ => castTop (ef_max m ma mb) k_
  have pre1 : ∀ t_, Steps p.tables e below (s₁.setTop (mkF m 2 #[.val (.int ma), .val (.int mb)] [(.int mb), (.int ma)])) t_ → Steps p.tables e below (s₁.setTop (entryFrame m #[(.int ma), (.int mb)] 2)) t_ := fun t_ k_ => pre0 t_ (by
    show Steps p.tables e below (s₁.setTop (mkF m 0 #[.val (.int ma), .val (.int mb)] [])) _
    refine XS.iloadN X0.here hx rfl (hb hby d1_0) rfl ?_
    show Steps p.tables e below (s₁.setTop (mkF m 1 #[.val (.int ma), .val (.int mb)] [(.int ma)])) _
    refine XS.iloadN X0.here hx rfl (hb hby d1_1) rfl ?_
    show Steps p.tables e below (s₁.setTop (mkF m 2 #[.val (.int ma), .val (.int mb)] [(.int mb), (.int ma)])) _
    exact k_)
  by_cases hc2_2 : ma < mb
  · have pre3 : ∀ t_, Steps p.tables e below (s₁.setTop (mkF m 10 #[.val (.int ma), .val (.int mb)] [(.int mb)])) t_ → Steps p.tables e below (s₁.setTop (entryFrame m #[(.int ma), (.int mb)] 2)) t_ := fun t_ k_ => pre1 t_ (by
      show Steps p.tables e below (s₁.setTop (mkF m 2 #[.val (.int ma), .val (.int mb)] [(.int mb), (.int ma)])) _
      refine XS.icmpYes X0.here hx rfl (pc0 := 2) (pc' := 9) rfl (hb hby d1_2) rfl (tlt hc2_2).1 (by decide) (by decide) ?_
      show Steps p.tables e below (s₁.setTop (mkF m 9 #[.val (.int ma), .val (.int mb)] [])) _
      refine XS.iloadN X0.here hx rfl (hb hby d1_9) rfl ?_
      show Steps p.tables e below (s₁.setTop (mkF m 10 #[.val (.int ma), .val (.int mb)] [(.int mb)])) _
      exact k_)
    obtain ⟨fs, hr, hrun, hended, hW, hsame⟩ := X0.leave (v := some (.int mb)) (fun h => by rw [Bd.returns] at h; cases h)
    refine ⟨_, _, pre3 _ ?_, hrun, hended, _, _, rfl, ?_, ⟨_, rfl⟩, hW, hsame.mono (by decide) (by decide)⟩
    · show Steps p.tables e below (s₁.setTop (mkF m 10 #[.val (.int ma), .val (.int mb)] [(.int mb)])) _
      exact retI X0 hx Bd.returns (hb hby d1_10) hr
    · show Q_max Z ma mb h0 n0 _ s₁.heap _
      rw [e0]
      exact ⟨by rw [own_max, if_pos hc2_2], N0, rfl⟩
  · have pre4 : ∀ t_, Steps p.tables e below (s₁.setTop (mkF m 10 #[.val (.int ma), .val (.int mb)] [(.int ma)])) t_ → Steps p.tables e below (s₁.setTop (entryFrame m #[(.int ma), (.int mb)] 2)) t_ := fun t_ k_ => pre1 t_ (by
      show Steps p.tables e below (s₁.setTop (mkF m 2 #[.val (.int ma), .val (.int mb)] [(.int mb), (.int ma)])) _
      refine XS.icmpNo X0.here hx rfl (hb hby d1_2) rfl (flt hc2_2).1 ?_
      show Steps p.tables e below (s₁.setTop (mkF m 5 #[.val (.int ma), .val (.int mb)] [])) _
      refine XS.iloadN X0.here hx rfl (hb hby d1_5) rfl ?_
      show Steps p.tables e below (s₁.setTop (mkF m 6 #[.val (.int ma), .val (.int mb)] [(.int ma)])) _
      refine XS.goto X0.here hx rfl (pc0 := 6) (pc' := 10) rfl (hb hby d1_6) (by decide) (by decide) ?_
      show Steps p.tables e below (s₁.setTop (mkF m 10 #[.val (.int ma), .val (.int mb)] [(.int ma)])) _
      exact k_)
    obtain ⟨fs, hr, hrun, hended, hW, hsame⟩ := X0.leave (v := some (.int ma)) (fun h => by rw [Bd.returns] at h; cases h)
    refine ⟨_, _, pre4 _ ?_, hrun, hended, _, _, rfl, ?_, ⟨_, rfl⟩, hW, hsame.mono (by decide) (by decide)⟩
    · show Steps p.tables e below (s₁.setTop (mkF m 10 #[.val (.int ma), .val (.int mb)] [(.int ma)])) _
      exact retI X0 hx Bd.returns (hb hby d1_10) hr
    · show Q_max Z ma mb h0 n0 _ s₁.heap _
      rw [e0]
      exact ⟨by rw [own_max, if_neg hc2_2], N0, rfl⟩
theorem ef_dinit (m : MethodId) (a : Addr) (js : Int64) (kn : Int32) : entryFrame m #[(.ref a), (.long js), (.int kn)] 4 = mkF m 0 #[.val (.ref a), .val (.long js), .second, .val (.int kn)] [] := by first | (simp [entryFrame, mkF, argsToLocals, Value.category]; done) | rfl
def Q_dinit (Z : State) (a : Addr) (js : Int64) (kn : Int32) (o_seconds : Value) (o_nanos : Value) (h0 : Heap) (n0 : Nat) (v : Option Value) (h : Heap) (L : List Loc) : Prop := v = none ∧ Fr n0 L ∧ Keep h0 h [a] ∧ Exa Z h a "java/time/Duration"
theorem pn_0 : plainName "java/time/Duration" = true := by first | (simp [plainName, overriddenIn]; done) | decide +kernel
theorem d6_0 : decode jdk_2316_method_17_code 0 = .ok (.aload_n 0, 1) := by decide +kernel
theorem d6_1 : decode jdk_2316_method_17_code 1 = .ok (.invokespecial 218, 3) := by decide +kernel
theorem d6_4 : decode jdk_2316_method_17_code 4 = .ok (.aload_n 0, 1) := by decide +kernel
theorem d6_5 : decode jdk_2316_method_17_code 5 = .ok (.lload_n 1, 1) := by decide +kernel
theorem d6_6 : decode jdk_2316_method_17_code 6 = .ok (.putfield 221, 3) := by decide +kernel
theorem d6_9 : decode jdk_2316_method_17_code 9 = .ok (.aload_n 0, 1) := by decide +kernel
theorem d6_10 : decode jdk_2316_method_17_code 10 = .ok (.iload_n 3, 1) := by decide +kernel
theorem d6_11 : decode jdk_2316_method_17_code 11 = .ok (.putfield 224, 3) := by decide +kernel
theorem d6_14 : decode jdk_2316_method_17_code 14 = .ok (.return_, 1) := by decide +kernel
set_option maxRecDepth 65536 in
set_option maxHeartbeats 40000000 in
theorem rm_dinit (l : Launch) (Z : State) (a0 : Array Value) (hw : ∀ d ∈ tables_1, d.before a0 Z = true) (ws : List Jvm.Cond) (a : Addr) (js : Int64) (kn : Int32) (o_seconds : Value) (o_nanos : Value) (h0 : Heap) (n0 : Nat) (Z0 : n0 ≤ h0.size) (E_a : Exa Z h0 a "java/time/Duration") (gg_a : n0 ≤ a) (F_seconds : Fld Z h0 a "java/time/Duration" "seconds" "J" o_seconds) (F_nanos : Fld Z h0 a "java/time/Duration" "nanos" "I" o_nanos) :
    MetFree l (⟨"java/time/Duration", "<init>", "(JI)V"⟩ : MethodName) (head1 (Jvm.Cond.code (⟨"java/time/Duration", "<init>", "(JI)V"⟩ : MethodName) jdk_2316_method_17_code 4 none :: ws) ({ frames := 1, cells := 0, slots := 0, locals := 12 } : Room)) (fun a_ U_ => a_ = #[(.ref a), (.long js), (.int kn)] ∧ Z.Warmed39 U_.vm ∧ U_.heap = h0) (fun _ _ _ _ _ => True) (fun _ U_ o_ V_ => ∃ v_ L_, o_ = .returned v_ ∧ Q_dinit Z a js kn o_seconds o_nanos h0 n0 v_ V_.heap L_ ∧ FrameEnd U_ o_ V_ L_ ({ frames := 1, cells := 0, slots := 0, locals := 12 } : Room).cells ({ frames := 1, cells := 0, slots := 0, locals := 12 } : Room).slots) := by
  refine MetFree.of_bodySF (plainFor_of_name pn_0) hisR ?_
  intro p e s m args below meth c s₁ Bd hml0 hP hK
  obtain ⟨rfl, hZ, hh⟩ := hP
  have hx := Bd.exec
  have hby := Bd.bytes
  have hml : c.maxLocals = 4 := hml0
  have hown : s.vm.findClass "java/time/Duration" = some m.cls := findClass_of_methodNamed Bd.named
  have hnm := (name_of_methodNamed Bd.named Bd.method).1
  have X0 : Stand p l e ({ frames := 1, cells := 0, slots := 0, locals := 12 } : Room) s m #[(.ref a), (.long js), (.int kn)] below meth c s₁ [] 0 0 := Stand.of_body Bd
  have e0 : s₁.heap = h0 := by rw [← hh, Bd.state]; rfl
  have N0 := Fr.nil n0
  have pre0 : ∀ t_, Steps p.tables e below (s₁.setTop (mkF m 0 #[.val (.ref a), .val (.long js), .second, .val (.int kn)] [])) t_ → Steps p.tables e below (s₁.setTop (entryFrame m #[(.ref a), (.long js), (.int kn)] 4)) t_ := fun t_ k_ => castTop (ef_dinit m a js kn) k_
  have O0 := own_ext_refl h0
  have K0 := Keep.refl h0 [a]
  obtain ⟨T5, X5, e5, st5⟩ := initO X0 hx hZ hown (hw _ (List.mem_of_getElem? (i := 37) rfl)) (hw _ (List.mem_of_getElem? (i := 12) rfl)) (hw _ (List.mem_of_getElem? (i := 13) rfl)) e0 (g := (mkF m 1 #[.val (.ref a), .val (.long js), .second, .val (.int kn)] [(.ref a)])) rfl (by rw [hml]; rfl) rfl (hb hby d6_1) (by decide) (W := 0) (by show 2 * 0 + _ ≤ _; exact Nat.le_of_eq rfl) (by decide)
  obtain ⟨T6, h6, X6, e6, W6, st6⟩ := putF X5 hx hZ hown (host := "") (Or.inl (hw _ (List.mem_of_getElem? (i := 38) rfl))) Via.refl e5 F_seconds E_a (Or.inr ⟨(hw _ (List.mem_of_getElem? (i := 39) rfl)), rfl, hnm⟩) (hw _ (List.mem_of_getElem? (i := 32) rfl)) (ty := .long) (by decide) rfl rfl (g := (mkF m 6 #[.val (.ref a), .val (.long js), .second, .val (.int kn)] [(.long js), (.ref a)])) rfl rfl (hb hby d6_6)
  have N6 := Fr.snoc X6 N0 gg_a
  have K6 := Keep.wr K0 W6 (Or.inl (List.mem_of_getElem? (i := 0) rfl))
  have Zs6 := Nat.le_trans Z0 (Keep.of_wr W6).1
  have c7 : Exa Z h6 a "java/time/Duration" := E_a.wr W6
  have c8 : Fld Z h6 a "java/time/Duration" "seconds" "J" (.long js) := F_seconds.same W6
  have c9 : Fld Z h6 a "java/time/Duration" "nanos" "I" o_nanos := F_nanos.other W6 (Or.inr (slot_ne (Or.inr (hw _ (List.mem_of_getElem? (i := 41) rfl))) (Or.inr (hw _ (List.mem_of_getElem? (i := 39) rfl))) (by decide) (t := .int) (t' := .long) (by decide) (by decide)))
  obtain ⟨T10, h10, X10, e10, W10, st10⟩ := putF X6 hx hZ hown (host := "") (Or.inl (hw _ (List.mem_of_getElem? (i := 40) rfl))) Via.refl e6 c9 c7 (Or.inr ⟨(hw _ (List.mem_of_getElem? (i := 41) rfl)), rfl, hnm⟩) (hw _ (List.mem_of_getElem? (i := 32) rfl)) (ty := .int) (by decide) rfl rfl (g := (mkF m 11 #[.val (.ref a), .val (.long js), .second, .val (.int kn)] [(.int kn), (.ref a)])) rfl rfl (hb hby d6_11)
  have N10 := Fr.snoc X10 N6 gg_a
  have K10 := Keep.wr K6 W10 (Or.inl (List.mem_of_getElem? (i := 0) rfl))
  have Zs10 := Nat.le_trans Zs6 (Keep.of_wr W10).1
  have c11 : Exa Z h10 a "java/time/Duration" := c7.wr W10
  have c12 : Fld Z h10 a "java/time/Duration" "seconds" "J" (.long js) := c8.other W10 (Or.inr (slot_ne (Or.inr (hw _ (List.mem_of_getElem? (i := 39) rfl))) (Or.inr (hw _ (List.mem_of_getElem? (i := 41) rfl))) (by decide) (t := .long) (t' := .int) (by decide) (by decide)))
  have c13 : Fld Z h10 a "java/time/Duration" "nanos" "I" (.int kn) := c9.same W10
  have pre14 : ∀ t_, Steps p.tables e below (T10.setTop (mkF m 14 #[.val (.ref a), .val (.long js), .second, .val (.int kn)] [])) t_ → Steps p.tables e below (s₁.setTop (entryFrame m #[(.ref a), (.long js), (.int kn)] 4)) t_ := fun t_ k_ => pre0 t_ (by
    show Steps p.tables e below (s₁.setTop (mkF m 0 #[.val (.ref a), .val (.long js), .second, .val (.int kn)] [])) _
    refine XS.aloadN X0.here hx rfl (hb hby d6_0) rfl rfl ?_
    show Steps p.tables e below (s₁.setTop (mkF m 1 #[.val (.ref a), .val (.long js), .second, .val (.int kn)] [(.ref a)])) _
    refine st5 _ ?_
    show Steps p.tables e below (T5.setTop (mkF m 4 #[.val (.ref a), .val (.long js), .second, .val (.int kn)] [])) _
    refine XS.aloadN X5.here hx rfl (hb hby d6_4) rfl rfl ?_
    show Steps p.tables e below (T5.setTop (mkF m 5 #[.val (.ref a), .val (.long js), .second, .val (.int kn)] [(.ref a)])) _
    refine XS.lloadN X5.here hx rfl (hb hby d6_5) rfl ?_
    show Steps p.tables e below (T5.setTop (mkF m 6 #[.val (.ref a), .val (.long js), .second, .val (.int kn)] [(.long js), (.ref a)])) _
    refine st6 _ ?_
    show Steps p.tables e below (T6.setTop (mkF m 9 #[.val (.ref a), .val (.long js), .second, .val (.int kn)] [])) _
    refine XS.aloadN X6.here hx rfl (hb hby d6_9) rfl rfl ?_
    show Steps p.tables e below (T6.setTop (mkF m 10 #[.val (.ref a), .val (.long js), .second, .val (.int kn)] [(.ref a)])) _
    refine XS.iloadN X6.here hx rfl (hb hby d6_10) rfl ?_
    show Steps p.tables e below (T6.setTop (mkF m 11 #[.val (.ref a), .val (.long js), .second, .val (.int kn)] [(.int kn), (.ref a)])) _
    refine st10 _ ?_
    show Steps p.tables e below (T10.setTop (mkF m 14 #[.val (.ref a), .val (.long js), .second, .val (.int kn)] [])) _
    exact k_)
  obtain ⟨fs, hr, hrun, hended, hW, hsame⟩ := X10.leave (v := none) (fun _ => rfl)
  refine ⟨_, _, pre14 _ ?_, hrun, hended, _, _, rfl, ?_, ⟨_, rfl⟩, hW, hsame.mono (by decide) (by decide)⟩
  · show Steps p.tables e below (T10.setTop (mkF m 14 #[.val (.ref a), .val (.long js), .second, .val (.int kn)] [])) _
    exact X10.returnOut hx Bd.returns (hb hby d6_14) hr
  · show Q_dinit Z a js kn o_seconds o_nanos h0 n0 _ T10.heap _
    rw [e10]
    exact ⟨rfl, N10, K10, c11⟩
theorem ef_create (m : MethodId) (js : Int64) (kn : Int32) : entryFrame m #[(.long js), (.int kn)] 3 = mkF m 0 #[.val (.long js), .second, .val (.int kn)] [] := by first | (simp [entryFrame, mkF, argsToLocals, Value.category]; done) | rfl
def Q_create (Z : State) (js : Int64) (kn : Int32) (h0 : Heap) (n0 : Nat) (v : Option Value) (h : Heap) (L : List Loc) : Prop := (∃ r : Addr, v = some (.ref r)) ∧ Fr n0 L ∧ Ext h0 h
theorem d5_0 : decode jdk_2316_method_16_code 0 = .ok (.lload_n 0, 1) := by decide +kernel
theorem d5_1 : decode jdk_2316_method_16_code 1 = .ok (.iload_n 2, 1) := by decide +kernel
theorem d5_2 : decode jdk_2316_method_16_code 2 = .ok (.i2l, 1) := by decide +kernel
theorem d5_3 : decode jdk_2316_method_16_code 3 = .ok (.lor, 1) := by decide +kernel
theorem d5_4 : decode jdk_2316_method_16_code 4 = .ok (.lconst 0, 1) := by decide +kernel
theorem d5_5 : decode jdk_2316_method_16_code 5 = .ok (.lcmp, 1) := by decide +kernel
theorem d5_6 : decode jdk_2316_method_16_code 6 = .ok (.ifCond .ne 7, 3) := by decide +kernel
theorem d5_13 : decode jdk_2316_method_16_code 13 = .ok (.new 11, 3) := by decide +kernel
theorem d5_16 : decode jdk_2316_method_16_code 16 = .ok (.dup, 1) := by decide +kernel
theorem d5_17 : decode jdk_2316_method_16_code 17 = .ok (.lload_n 0, 1) := by decide +kernel
theorem d5_18 : decode jdk_2316_method_16_code 18 = .ok (.iload_n 2, 1) := by decide +kernel
theorem d5_19 : decode jdk_2316_method_16_code 19 = .ok (.invokespecial 215, 3) := by decide +kernel
theorem pd_0 : parseMethodDescriptor "(JI)V" = some ⟨[.long, .int], none⟩ := by decide +kernel
theorem d5_22 : decode jdk_2316_method_16_code 22 = .ok (.areturn, 1) := by decide +kernel
set_option maxRecDepth 65536 in
set_option maxHeartbeats 40000000 in
theorem rm_create (l : Launch) (Z : State) (a0 : Array Value) (hw : ∀ d ∈ tables_1, d.before a0 Z = true) (ws : List Jvm.Cond) (js : Int64) (kn : Int32) (h0 : Heap) (n0 : Nat) (Z0 : n0 ≤ h0.size) (hne : ¬ ((js ||| (kn.toInt64)) = (0 : Int64))) :
    MetFree l (⟨"java/time/Duration", "create", "(JI)Ljava/time/Duration;"⟩ : MethodName) (head1 (Jvm.Cond.code (⟨"java/time/Duration", "create", "(JI)Ljava/time/Duration;"⟩ : MethodName) jdk_2316_method_16_code 3 (some (.object "java/time/Duration")) :: ws) ({ frames := 2, cells := 1, slots := 2, locals := 28 } : Room)) (fun a_ U_ => a_ = #[(.long js), (.int kn)] ∧ Z.Warmed39 U_.vm ∧ U_.heap = h0) (fun _ _ _ _ _ => True) (fun _ U_ o_ V_ => ∃ v_ L_, o_ = .returned v_ ∧ Q_create Z js kn h0 n0 v_ V_.heap L_ ∧ FrameEnd U_ o_ V_ L_ ({ frames := 2, cells := 1, slots := 2, locals := 28 } : Room).cells ({ frames := 2, cells := 1, slots := 2, locals := 28 } : Room).slots) := by
  refine MetFree.of_bodySF (plainFor_of_name pn_0) hisR ?_
  intro p e s m args below meth c s₁ Bd hml0 hP hK
  obtain ⟨rfl, hZ, hh⟩ := hP
  have hx := Bd.exec
  have hby := Bd.bytes
  have hml : c.maxLocals = 3 := hml0
  have hown : s.vm.findClass "java/time/Duration" = some m.cls := findClass_of_methodNamed Bd.named
  have hnm := (name_of_methodNamed Bd.named Bd.method).1
  have X0 : Stand p l e ({ frames := 2, cells := 1, slots := 2, locals := 28 } : Room) s m #[(.long js), (.int kn)] below meth c s₁ [] 0 0 := Stand.of_body Bd
  have e0 : s₁.heap = h0 := by rw [← hh, Bd.state]; rfl
  have N0 := Fr.nil n0
  have pre0 : ∀ t_, Steps p.tables e below (s₁.setTop (mkF m 0 #[.val (.long js), .second, .val (.int kn)] [])) t_ → Steps p.tables e below (s₁.setTop (entryFrame m #[(.long js), (.int kn)] 3)) t_ := fun t_ k_ => castTop (ef_create m js kn) k_
  have O0 := own_ext_refl h0
  obtain ⟨T15, h15, X15, e15, E15, A15, D15, -, st15⟩ := newO X0 hx hZ hown (hw _ (List.mem_of_getElem? (i := 31) rfl)) (hw _ (List.mem_of_getElem? (i := 32) rfl)) (hw _ (List.mem_of_getElem? (i := 26) rfl)) e0 (g := (mkF m 13 #[.val (.long js), .second, .val (.int kn)] [])) rfl (hb hby d5_13) (by decide) (by decide)
  obtain ⟨b15, g15⟩ : ∃ z, z = h0.size := ⟨_, rfl⟩
  rw [← g15] at A15 D15 st15
  have gg_b15 : n0 ≤ b15 := Nat.le_trans Z0 (Nat.le_of_eq g15.symm)
  have sz_b15 : h0.size ≤ b15 := Nat.le_trans O0.1 (Nat.le_of_eq g15.symm)
  have O16 := own_ext_trans O0 E15
  have Zs16 := Nat.le_trans Z0 (E15).1
  have F15_seconds : Fld Z h15 b15 "java/time/Duration" "seconds" "J" (.long (0 : Int64)) := D15 (Or.inr (hw _ (List.mem_of_getElem? (i := 39) rfl))) (ty := .long) (by decide)
  have F15_nanos : Fld Z h15 b15 "java/time/Duration" "nanos" "I" (.int (0 : Int32)) := D15 (Or.inr (hw _ (List.mem_of_getElem? (i := 41) rfl))) (ty := .int) (by decide)
  obtain ⟨v17, _, ⟨T17, L17, k17, n17⟩, -, X17, ⟨Lc17, hQ17, l17, y17, z17⟩, st17⟩ := X15.specialBack hx (y := (⟨"java/time/Duration", "<init>", "(JI)V"⟩ : MethodName)) rfl hown (mvT hZ (hw _ (List.mem_of_getElem? (i := 33) rfl))) (mvT hZ (hw _ (List.mem_of_getElem? (i := 34) rfl))) (mvT hZ (hw _ (List.mem_of_getElem? (i := 36) rfl))) (by decide) (backOf (W := 1) (rm_dinit l Z a0 hw [] b15 js kn (.long (0 : Int64)) (.int (0 : Int32)) h15 n0 Zs16 A15 gg_b15 F15_seconds F15_nanos) hZ (hw _ (List.mem_of_getElem? (i := 36) rfl)) (hw _ (List.mem_of_getElem? (i := 26) rfl)) (by decide) (by decide)) (g := (mkF m 19 #[.val (.long js), .second, .val (.int kn)] [(.int kn), (.long js), (.ref b15), (.ref b15)])) rfl (by rw [hml]; rfl) (Steps.refl _) (a := b15) (argsL := [(.long js), (.int kn)]) (rest := [(.ref b15)]) (lenOf pd_0 rfl) rfl (by show 2 * 0 + _ ≤ _; exact Nat.le_of_eq rfl) (hb hby d5_19) (fun _ _ => ⟨rfl, e15, (by decide : 1 + 0 ≤ _), (by decide : 2 + 0 ≤ _)⟩)
  dsimp only [Pt.U, Pt.locs, Pt.cells, Pt.slots] at X17 l17 y17 z17 st17 hQ17
  subst l17 y17 z17
  obtain ⟨hv17, N17q, M17⟩ := hQ17
  have N17 := Fr.app N0 N17q
  subst hv17
  obtain ⟨K17k, E17x⟩ := M17
  have O18 := own_ext_keep O16 K17k (allS sz_b15 all0)
  have Zs18 := Nat.le_trans Zs16 K17k.1
  have c19 : Exa Z T17.heap b15 "java/time/Duration" := A15.keep K17k
  have pre20 : ∀ t_, Steps p.tables e below (T17.setTop (mkF m 22 #[.val (.long js), .second, .val (.int kn)] [(.ref b15)])) t_ → Steps p.tables e below (s₁.setTop (entryFrame m #[(.long js), (.int kn)] 3)) t_ := fun t_ k_ => pre0 t_ (by
    show Steps p.tables e below (s₁.setTop (mkF m 0 #[.val (.long js), .second, .val (.int kn)] [])) _
    refine XS.lloadN X0.here hx rfl (hb hby d5_0) rfl ?_
    show Steps p.tables e below (s₁.setTop (mkF m 1 #[.val (.long js), .second, .val (.int kn)] [(.long js)])) _
    refine XS.iloadN X0.here hx rfl (hb hby d5_1) rfl ?_
    show Steps p.tables e below (s₁.setTop (mkF m 2 #[.val (.long js), .second, .val (.int kn)] [(.int kn), (.long js)])) _
    refine XS.i2l X0.here hx rfl (hb hby d5_2) rfl ?_
    show Steps p.tables e below (s₁.setTop (mkF m 3 #[.val (.long js), .second, .val (.int kn)] [(.long (kn.toInt64)), (.long js)])) _
    refine XS.lor X0.here hx rfl (hb hby d5_3) rfl ?_
    show Steps p.tables e below (s₁.setTop (mkF m 4 #[.val (.long js), .second, .val (.int kn)] [(.long (js ||| (kn.toInt64)))])) _
    refine XS.lconst X0.here hx rfl (hb hby d5_4) ?_
    show Steps p.tables e below (s₁.setTop (mkF m 5 #[.val (.long js), .second, .val (.int kn)] [(.long (0 : Int64)), (.long (js ||| (kn.toInt64)))])) _
    refine XS.lcmp X0.here hx rfl (hb hby d5_5) rfl ?_
    show Steps p.tables e below (s₁.setTop (mkF m 6 #[.val (.long js), .second, .val (.int kn)] [(.int (lcmpW (js ||| (kn.toInt64)) (0 : Int64)))])) _
    refine XS.ifYes X0.here hx rfl (pc0 := 6) (pc' := 13) rfl (hb hby d5_6) rfl ((if0 _ _).trans (feq (fun q_ => hne ((lw_eq (js ||| (kn.toInt64)) (0 : Int64)).mp q_))).2) (by decide) (by decide) ?_
    show Steps p.tables e below (s₁.setTop (mkF m 13 #[.val (.long js), .second, .val (.int kn)] [])) _
    refine st15 _ ?_
    show Steps p.tables e below (T15.setTop (mkF m 16 #[.val (.long js), .second, .val (.int kn)] [(.ref b15)])) _
    refine XS.dup X15.here hx rfl (hb hby d5_16) rfl rfl ?_
    show Steps p.tables e below (T15.setTop (mkF m 17 #[.val (.long js), .second, .val (.int kn)] [(.ref b15), (.ref b15)])) _
    refine XS.lloadN X15.here hx rfl (hb hby d5_17) rfl ?_
    show Steps p.tables e below (T15.setTop (mkF m 18 #[.val (.long js), .second, .val (.int kn)] [(.long js), (.ref b15), (.ref b15)])) _
    refine XS.iloadN X15.here hx rfl (hb hby d5_18) rfl ?_
    show Steps p.tables e below (T15.setTop (mkF m 19 #[.val (.long js), .second, .val (.int kn)] [(.int kn), (.long js), (.ref b15), (.ref b15)])) _
    refine st17.trans ?_
    show Steps p.tables e below (T17.setTop (mkF m 22 #[.val (.long js), .second, .val (.int kn)] [(.ref b15)])) _
    exact k_)
  obtain ⟨fs, hr, hrun, hended, hW, hsame⟩ := X17.leave (v := some (.ref b15)) (fun h => by rw [Bd.returns] at h; cases h)
  refine ⟨_, _, pre20 _ ?_, hrun, hended, _, _, rfl, ?_, ⟨_, rfl⟩, hW, hsame.mono (by decide) (by decide)⟩
  · show Steps p.tables e below (T17.setTop (mkF m 22 #[.val (.long js), .second, .val (.int kn)] [(.ref b15)])) _
    exact retA X17 hx Bd.returns rfl rfl rfl (hb hby d5_22) hr
  · show Q_create Z js kn h0 n0 _ T17.heap _
    exact ⟨⟨b15, rfl⟩, N17, O18⟩
theorem ef_ofs (m : MethodId) (js : Int64) : entryFrame m #[(.long js)] 2 = mkF m 0 #[.val (.long js), .second] [] := by first | (simp [entryFrame, mkF, argsToLocals, Value.category]; done) | rfl
def Q_ofs (Z : State) (js : Int64) (h0 : Heap) (n0 : Nat) (v : Option Value) (h : Heap) (L : List Loc) : Prop := (∃ r : Addr, v = some (.ref r)) ∧ Fr n0 L ∧ Ext h0 h
theorem d4_0 : decode jdk_2316_method_4_code 0 = .ok (.lload_n 0, 1) := by decide +kernel
theorem d4_1 : decode jdk_2316_method_4_code 1 = .ok (.iconst 0, 1) := by decide +kernel
theorem d4_2 : decode jdk_2316_method_4_code 2 = .ok (.invokestatic 10, 3) := by decide +kernel
theorem pd_1 : parseMethodDescriptor "(JI)Ljava/time/Duration;" = some ⟨[.long, .int], some (.object "java/time/Duration")⟩ := by decide +kernel
theorem d4_5 : decode jdk_2316_method_4_code 5 = .ok (.areturn, 1) := by decide +kernel
set_option maxRecDepth 65536 in
set_option maxHeartbeats 40000000 in
theorem rm_ofs (l : Launch) (Z : State) (a0 : Array Value) (hw : ∀ d ∈ tables_1, d.before a0 Z = true) (ws : List Jvm.Cond) (js : Int64) (h0 : Heap) (n0 : Nat) (Z0 : n0 ≤ h0.size) (hne : ¬ ((js ||| ((0 : Int32).toInt64)) = (0 : Int64))) :
    MetFree l (⟨"java/time/Duration", "ofSeconds", "(J)Ljava/time/Duration;"⟩ : MethodName) (head1 (Jvm.Cond.code (⟨"java/time/Duration", "ofSeconds", "(J)Ljava/time/Duration;"⟩ : MethodName) jdk_2316_method_4_code 2 (some (.object "java/time/Duration")) :: ws) ({ frames := 3, cells := 1, slots := 2, locals := 42 } : Room)) (fun a_ U_ => a_ = #[(.long js)] ∧ Z.Warmed39 U_.vm ∧ U_.heap = h0) (fun _ _ _ _ _ => True) (fun _ U_ o_ V_ => ∃ v_ L_, o_ = .returned v_ ∧ Q_ofs Z js h0 n0 v_ V_.heap L_ ∧ FrameEnd U_ o_ V_ L_ ({ frames := 3, cells := 1, slots := 2, locals := 42 } : Room).cells ({ frames := 3, cells := 1, slots := 2, locals := 42 } : Room).slots) := by
  refine MetFree.of_bodySF (plainFor_of_name pn_0) hisR ?_
  intro p e s m args below meth c s₁ Bd hml0 hP hK
  obtain ⟨rfl, hZ, hh⟩ := hP
  have hx := Bd.exec
  have hby := Bd.bytes
  have hml : c.maxLocals = 2 := hml0
  have hown : s.vm.findClass "java/time/Duration" = some m.cls := findClass_of_methodNamed Bd.named
  have hnm := (name_of_methodNamed Bd.named Bd.method).1
  have X0 : Stand p l e ({ frames := 3, cells := 1, slots := 2, locals := 42 } : Room) s m #[(.long js)] below meth c s₁ [] 0 0 := Stand.of_body Bd
  have e0 : s₁.heap = h0 := by rw [← hh, Bd.state]; rfl
  have N0 := Fr.nil n0
  have pre0 : ∀ t_, Steps p.tables e below (s₁.setTop (mkF m 0 #[.val (.long js), .second] [])) t_ → Steps p.tables e below (s₁.setTop (entryFrame m #[(.long js)] 2)) t_ := fun t_ k_ => castTop (ef_ofs m js) k_
  have O0 := own_ext_refl h0
  obtain ⟨v21, _, ⟨T21, L21, k21, n21⟩, -, X21, ⟨Lc21, hQ21, l21, y21, z21⟩, st21⟩ := Jvm.LawKit.callS X0 hx (y := (⟨"java/time/Duration", "create", "(JI)Ljava/time/Duration;"⟩ : MethodName)) hown (mvT hZ (hw _ (List.mem_of_getElem? (i := 28) rfl))) (mvT hZ (hw _ (List.mem_of_getElem? (i := 29) rfl))) (mvT hZ (hw _ (List.mem_of_getElem? (i := 26) rfl))) (mvT hZ (hw _ (List.mem_of_getElem? (i := 30) rfl))) (by decide) (backOf (W := 0) (rm_create l Z a0 hw [] js (0 : Int32) h0 n0 Z0 hne) hZ (hw _ (List.mem_of_getElem? (i := 30) rfl)) (hw _ (List.mem_of_getElem? (i := 26) rfl)) (by decide) (by decide)) (g := (mkF m 2 #[.val (.long js), .second] [(.int (0 : Int32)), (.long js)])) rfl (by rw [hml]; rfl) (argsL := [(.long js), (.int (0 : Int32))]) (rest := []) (lenOf pd_1 rfl) rfl (by show 2 * 0 + _ ≤ _; exact Nat.le_of_eq rfl) (hb hby d4_2) (fun _ _ => ⟨rfl, e0, (by decide : 0 + 1 ≤ _), (by decide : 0 + 2 ≤ _)⟩)
  dsimp only [Pt.U, Pt.locs, Pt.cells, Pt.slots] at X21 l21 y21 z21 st21 hQ21
  subst l21 y21 z21
  obtain ⟨⟨r21, hv21⟩, N21q, M21⟩ := hQ21
  have N21 := Fr.app N0 N21q
  subst hv21
  have O22 := own_ext_trans O0 M21
  have Zs22 := Nat.le_trans Z0 (M21).1
  have pre23 : ∀ t_, Steps p.tables e below (T21.setTop (mkF m 5 #[.val (.long js), .second] [(.ref r21)])) t_ → Steps p.tables e below (s₁.setTop (entryFrame m #[(.long js)] 2)) t_ := fun t_ k_ => pre0 t_ (by
    show Steps p.tables e below (s₁.setTop (mkF m 0 #[.val (.long js), .second] [])) _
    refine XS.lloadN X0.here hx rfl (hb hby d4_0) rfl ?_
    show Steps p.tables e below (s₁.setTop (mkF m 1 #[.val (.long js), .second] [(.long js)])) _
    refine XS.iconst X0.here hx rfl (hb hby d4_1) ?_
    show Steps p.tables e below (s₁.setTop (mkF m 2 #[.val (.long js), .second] [(.int (0 : Int32)), (.long js)])) _
    refine st21 _ ?_
    show Steps p.tables e below (T21.setTop (mkF m 5 #[.val (.long js), .second] [(.ref r21)])) _
    exact k_)
  obtain ⟨fs, hr, hrun, hended, hW, hsame⟩ := X21.leave (v := some (.ref r21)) (fun h => by rw [Bd.returns] at h; cases h)
  refine ⟨_, _, pre23 _ ?_, hrun, hended, _, _, rfl, ?_, ⟨_, rfl⟩, hW, hsame.mono (by decide) (by decide)⟩
  · show Steps p.tables e below (T21.setTop (mkF m 5 #[.val (.long js), .second] [(.ref r21)])) _
    exact retA X21 hx Bd.returns rfl rfl rfl (hb hby d4_5) hr
  · show Q_ofs Z js h0 n0 _ T21.heap _
    exact ⟨⟨r21, rfl⟩, N21, O22⟩
theorem ef_ofm (m : MethodId)  : entryFrame m #[(.long (1 : Int64))] 5 = mkF m 0 #[.val (.long (1 : Int64)), .second, .unset, .unset, .unset] [] := by first | (simp [entryFrame, mkF, argsToLocals, Value.category]; done) | rfl
def Q_ofm (Z : State) (h0 : Heap) (n0 : Nat) (v : Option Value) (h : Heap) (L : List Loc) : Prop := (∃ r : Addr, v = some (.ref r)) ∧ Fr n0 L ∧ Ext h0 h
theorem d7_0 : decode jdk_2316_method_6_code 0 = .ok (.lload_n 0, 1) := by decide +kernel
theorem d7_1 : decode jdk_2316_method_6_code 1 = .ok (.ldc2_w 28, 3) := by decide +kernel
theorem d7_4 : decode jdk_2316_method_6_code 4 = .ok (.ldiv, 1) := by decide +kernel
theorem d7_5 : decode jdk_2316_method_6_code 5 = .ok (.lstore_n 2, 1) := by decide +kernel
theorem d7_6 : decode jdk_2316_method_6_code 6 = .ok (.lload_n 0, 1) := by decide +kernel
theorem d7_7 : decode jdk_2316_method_6_code 7 = .ok (.ldc2_w 28, 3) := by decide +kernel
theorem d7_10 : decode jdk_2316_method_6_code 10 = .ok (.lrem, 1) := by decide +kernel
theorem d7_11 : decode jdk_2316_method_6_code 11 = .ok (.l2i, 1) := by decide +kernel
theorem d7_12 : decode jdk_2316_method_6_code 12 = .ok (.istore 4, 2) := by decide +kernel
theorem d7_14 : decode jdk_2316_method_6_code 14 = .ok (.iload 4, 2) := by decide +kernel
theorem d7_16 : decode jdk_2316_method_6_code 16 = .ok (.ifCond .ge 13, 3) := by decide +kernel
theorem d7_29 : decode jdk_2316_method_6_code 29 = .ok (.lload_n 2, 1) := by decide +kernel
theorem d7_30 : decode jdk_2316_method_6_code 30 = .ok (.iload 4, 2) := by decide +kernel
theorem d7_32 : decode jdk_2316_method_6_code 32 = .ok (.ldc 30, 2) := by decide +kernel
theorem d7_34 : decode jdk_2316_method_6_code 34 = .ok (.imul, 1) := by decide +kernel
theorem d7_35 : decode jdk_2316_method_6_code 35 = .ok (.invokestatic 10, 3) := by decide +kernel
theorem d7_38 : decode jdk_2316_method_6_code 38 = .ok (.areturn, 1) := by decide +kernel
set_option maxRecDepth 65536 in
set_option maxHeartbeats 40000000 in
theorem rm_ofm (l : Launch) (Z : State) (a0 : Array Value) (hw : ∀ d ∈ tables_1, d.before a0 Z = true) (ws : List Jvm.Cond) (h0 : Heap) (n0 : Nat) (Z0 : n0 ≤ h0.size) :
    MetFree l (⟨"java/time/Duration", "ofMillis", "(J)Ljava/time/Duration;"⟩ : MethodName) (head1 (Jvm.Cond.code (⟨"java/time/Duration", "ofMillis", "(J)Ljava/time/Duration;"⟩ : MethodName) jdk_2316_method_6_code 5 (some (.object "java/time/Duration")) :: ws) ({ frames := 3, cells := 1, slots := 2, locals := 42 } : Room)) (fun a_ U_ => a_ = #[(.long (1 : Int64))] ∧ Z.Warmed39 U_.vm ∧ U_.heap = h0) (fun _ _ _ _ _ => True) (fun _ U_ o_ V_ => ∃ v_ L_, o_ = .returned v_ ∧ Q_ofm Z  h0 n0 v_ V_.heap L_ ∧ FrameEnd U_ o_ V_ L_ ({ frames := 3, cells := 1, slots := 2, locals := 42 } : Room).cells ({ frames := 3, cells := 1, slots := 2, locals := 42 } : Room).slots) := by
  refine MetFree.of_bodySF (plainFor_of_name pn_0) hisR ?_
  intro p e s m args below meth c s₁ Bd hml0 hP hK
  obtain ⟨rfl, hZ, hh⟩ := hP
  have hx := Bd.exec
  have hby := Bd.bytes
  have hml : c.maxLocals = 5 := hml0
  have hown : s.vm.findClass "java/time/Duration" = some m.cls := findClass_of_methodNamed Bd.named
  have hnm := (name_of_methodNamed Bd.named Bd.method).1
  have X0 : Stand p l e ({ frames := 3, cells := 1, slots := 2, locals := 42 } : Room) s m #[(.long (1 : Int64))] below meth c s₁ [] 0 0 := Stand.of_body Bd
  have e0 : s₁.heap = h0 := by rw [← hh, Bd.state]; rfl
  have N0 := Fr.nil n0
  have pre0 : ∀ t_, Steps p.tables e below (s₁.setTop (mkF m 0 #[.val (.long (1 : Int64)), .second, .unset, .unset, .unset] [])) t_ → Steps p.tables e below (s₁.setTop (entryFrame m #[(.long (1 : Int64))] 5)) t_ := fun t_ k_ => castTop (ef_ofm m ) k_
  have O0 := own_ext_refl h0
  obtain ⟨v24, _, ⟨T24, L24, k24, n24⟩, -, X24, ⟨Lc24, hQ24, l24, y24, z24⟩, st24⟩ := Jvm.LawKit.callS X0 hx (y := (⟨"java/time/Duration", "create", "(JI)Ljava/time/Duration;"⟩ : MethodName)) hown (mvT hZ (hw _ (List.mem_of_getElem? (i := 28) rfl))) (mvT hZ (hw _ (List.mem_of_getElem? (i := 29) rfl))) (mvT hZ (hw _ (List.mem_of_getElem? (i := 26) rfl))) (mvT hZ (hw _ (List.mem_of_getElem? (i := 30) rfl))) (by decide) (backOf (W := 0) (rm_create l Z a0 hw [] ((1 : Int64) / (1000 : Int64)) ((((1 : Int64) - ((1 : Int64) / (1000 : Int64)) * (1000 : Int64)).toInt32) * (1000000 : Int32)) h0 n0 Z0 (by decide)) hZ (hw _ (List.mem_of_getElem? (i := 30) rfl)) (hw _ (List.mem_of_getElem? (i := 26) rfl)) (by decide) (by decide)) (g := (mkF m 35 #[.val (.long (1 : Int64)), .second, .val (.long ((1 : Int64) / (1000 : Int64))), .second, .val (.int (((1 : Int64) - ((1 : Int64) / (1000 : Int64)) * (1000 : Int64)).toInt32))] [(.int ((((1 : Int64) - ((1 : Int64) / (1000 : Int64)) * (1000 : Int64)).toInt32) * (1000000 : Int32))), (.long ((1 : Int64) / (1000 : Int64)))])) rfl (by rw [hml]; rfl) (argsL := [(.long ((1 : Int64) / (1000 : Int64))), (.int ((((1 : Int64) - ((1 : Int64) / (1000 : Int64)) * (1000 : Int64)).toInt32) * (1000000 : Int32)))]) (rest := []) (lenOf pd_1 rfl) rfl (by show 2 * 0 + _ ≤ _; exact Nat.le_of_eq rfl) (hb hby d7_35) (fun _ _ => ⟨rfl, e0, (by decide : 0 + 1 ≤ _), (by decide : 0 + 2 ≤ _)⟩)
  dsimp only [Pt.U, Pt.locs, Pt.cells, Pt.slots] at X24 l24 y24 z24 st24 hQ24
  subst l24 y24 z24
  obtain ⟨⟨r24, hv24⟩, N24q, M24⟩ := hQ24
  have N24 := Fr.app N0 N24q
  subst hv24
  have O25 := own_ext_trans O0 M24
  have Zs25 := Nat.le_trans Z0 (M24).1
  have pre26 : ∀ t_, Steps p.tables e below (T24.setTop (mkF m 38 #[.val (.long (1 : Int64)), .second, .val (.long ((1 : Int64) / (1000 : Int64))), .second, .val (.int (((1 : Int64) - ((1 : Int64) / (1000 : Int64)) * (1000 : Int64)).toInt32))] [(.ref r24)])) t_ → Steps p.tables e below (s₁.setTop (entryFrame m #[(.long (1 : Int64))] 5)) t_ := fun t_ k_ => pre0 t_ (by
    show Steps p.tables e below (s₁.setTop (mkF m 0 #[.val (.long (1 : Int64)), .second, .unset, .unset, .unset] [])) _
    refine XS.lloadN X0.here hx rfl (hb hby d7_0) rfl ?_
    show Steps p.tables e below (s₁.setTop (mkF m 1 #[.val (.long (1 : Int64)), .second, .unset, .unset, .unset] [(.long (1 : Int64))])) _
    refine X0.ldc2Long hx hown (mvT hZ (hw _ (List.mem_of_getElem? (i := 58) rfl))) (g := (mkF m 1 #[.val (.long (1 : Int64)), .second, .unset, .unset, .unset] [(.long (1 : Int64))])) rfl (hb hby d7_1) _ ?_
    show Steps p.tables e below (s₁.setTop (mkF m 4 #[.val (.long (1 : Int64)), .second, .unset, .unset, .unset] [(.long (1000 : Int64)), (.long (1 : Int64))])) _
    refine XS.ldiv X0.here hx rfl (hb hby d7_4) rfl (by decide) ?_
    show Steps p.tables e below (s₁.setTop (mkF m 5 #[.val (.long (1 : Int64)), .second, .unset, .unset, .unset] [(.long ((1 : Int64) / (1000 : Int64)))])) _
    refine XS.lstoreN X0.here hx rfl (hb hby d7_5) rfl (l' := #[.val (.long (1 : Int64)), .second, .val (.long ((1 : Int64) / (1000 : Int64))), .second, .unset]) rfl ?_
    show Steps p.tables e below (s₁.setTop (mkF m 6 #[.val (.long (1 : Int64)), .second, .val (.long ((1 : Int64) / (1000 : Int64))), .second, .unset] [])) _
    refine XS.lloadN X0.here hx rfl (hb hby d7_6) rfl ?_
    show Steps p.tables e below (s₁.setTop (mkF m 7 #[.val (.long (1 : Int64)), .second, .val (.long ((1 : Int64) / (1000 : Int64))), .second, .unset] [(.long (1 : Int64))])) _
    refine X0.ldc2Long hx hown (mvT hZ (hw _ (List.mem_of_getElem? (i := 58) rfl))) (g := (mkF m 7 #[.val (.long (1 : Int64)), .second, .val (.long ((1 : Int64) / (1000 : Int64))), .second, .unset] [(.long (1 : Int64))])) rfl (hb hby d7_7) _ ?_
    show Steps p.tables e below (s₁.setTop (mkF m 10 #[.val (.long (1 : Int64)), .second, .val (.long ((1 : Int64) / (1000 : Int64))), .second, .unset] [(.long (1000 : Int64)), (.long (1 : Int64))])) _
    refine XS.lrem X0.here hx rfl (hb hby d7_10) rfl (by decide) ?_
    show Steps p.tables e below (s₁.setTop (mkF m 11 #[.val (.long (1 : Int64)), .second, .val (.long ((1 : Int64) / (1000 : Int64))), .second, .unset] [(.long ((1 : Int64) - ((1 : Int64) / (1000 : Int64)) * (1000 : Int64)))])) _
    refine XS.l2i X0.here hx rfl (hb hby d7_11) rfl ?_
    show Steps p.tables e below (s₁.setTop (mkF m 12 #[.val (.long (1 : Int64)), .second, .val (.long ((1 : Int64) / (1000 : Int64))), .second, .unset] [(.int (((1 : Int64) - ((1 : Int64) / (1000 : Int64)) * (1000 : Int64)).toInt32))])) _
    refine XS.istore X0.here hx rfl (hb hby d7_12) rfl (l' := #[.val (.long (1 : Int64)), .second, .val (.long ((1 : Int64) / (1000 : Int64))), .second, .val (.int (((1 : Int64) - ((1 : Int64) / (1000 : Int64)) * (1000 : Int64)).toInt32))]) rfl ?_
    show Steps p.tables e below (s₁.setTop (mkF m 14 #[.val (.long (1 : Int64)), .second, .val (.long ((1 : Int64) / (1000 : Int64))), .second, .val (.int (((1 : Int64) - ((1 : Int64) / (1000 : Int64)) * (1000 : Int64)).toInt32))] [])) _
    refine XS.iload X0.here hx rfl (hb hby d7_14) rfl ?_
    show Steps p.tables e below (s₁.setTop (mkF m 16 #[.val (.long (1 : Int64)), .second, .val (.long ((1 : Int64) / (1000 : Int64))), .second, .val (.int (((1 : Int64) - ((1 : Int64) / (1000 : Int64)) * (1000 : Int64)).toInt32))] [(.int (((1 : Int64) - ((1 : Int64) / (1000 : Int64)) * (1000 : Int64)).toInt32))])) _
    refine XS.ifYes X0.here hx rfl (pc0 := 16) (pc' := 29) rfl (hb hby d7_16) rfl ((if0 _ _).trans (flt (by decide : ¬ ((((1 : Int64) - ((1 : Int64) / (1000 : Int64)) * (1000 : Int64)).toInt32) < (0 : Int32)))).2.1) (by decide) (by decide) ?_
    show Steps p.tables e below (s₁.setTop (mkF m 29 #[.val (.long (1 : Int64)), .second, .val (.long ((1 : Int64) / (1000 : Int64))), .second, .val (.int (((1 : Int64) - ((1 : Int64) / (1000 : Int64)) * (1000 : Int64)).toInt32))] [])) _
    refine XS.lloadN X0.here hx rfl (hb hby d7_29) rfl ?_
    show Steps p.tables e below (s₁.setTop (mkF m 30 #[.val (.long (1 : Int64)), .second, .val (.long ((1 : Int64) / (1000 : Int64))), .second, .val (.int (((1 : Int64) - ((1 : Int64) / (1000 : Int64)) * (1000 : Int64)).toInt32))] [(.long ((1 : Int64) / (1000 : Int64)))])) _
    refine XS.iload X0.here hx rfl (hb hby d7_30) rfl ?_
    show Steps p.tables e below (s₁.setTop (mkF m 32 #[.val (.long (1 : Int64)), .second, .val (.long ((1 : Int64) / (1000 : Int64))), .second, .val (.int (((1 : Int64) - ((1 : Int64) / (1000 : Int64)) * (1000 : Int64)).toInt32))] [(.int (((1 : Int64) - ((1 : Int64) / (1000 : Int64)) * (1000 : Int64)).toInt32)), (.long ((1 : Int64) / (1000 : Int64)))])) _
    refine X0.ldcInt hx hown (mvT hZ (hw _ (List.mem_of_getElem? (i := 59) rfl))) (g := (mkF m 32 #[.val (.long (1 : Int64)), .second, .val (.long ((1 : Int64) / (1000 : Int64))), .second, .val (.int (((1 : Int64) - ((1 : Int64) / (1000 : Int64)) * (1000 : Int64)).toInt32))] [(.int (((1 : Int64) - ((1 : Int64) / (1000 : Int64)) * (1000 : Int64)).toInt32)), (.long ((1 : Int64) / (1000 : Int64)))])) rfl (hb hby d7_32) _ ?_
    show Steps p.tables e below (s₁.setTop (mkF m 34 #[.val (.long (1 : Int64)), .second, .val (.long ((1 : Int64) / (1000 : Int64))), .second, .val (.int (((1 : Int64) - ((1 : Int64) / (1000 : Int64)) * (1000 : Int64)).toInt32))] [(.int (1000000 : Int32)), (.int (((1 : Int64) - ((1 : Int64) / (1000 : Int64)) * (1000 : Int64)).toInt32)), (.long ((1 : Int64) / (1000 : Int64)))])) _
    refine XS.imul X0.here hx rfl (hb hby d7_34) rfl ?_
    show Steps p.tables e below (s₁.setTop (mkF m 35 #[.val (.long (1 : Int64)), .second, .val (.long ((1 : Int64) / (1000 : Int64))), .second, .val (.int (((1 : Int64) - ((1 : Int64) / (1000 : Int64)) * (1000 : Int64)).toInt32))] [(.int ((((1 : Int64) - ((1 : Int64) / (1000 : Int64)) * (1000 : Int64)).toInt32) * (1000000 : Int32))), (.long ((1 : Int64) / (1000 : Int64)))])) _
    refine st24 _ ?_
    show Steps p.tables e below (T24.setTop (mkF m 38 #[.val (.long (1 : Int64)), .second, .val (.long ((1 : Int64) / (1000 : Int64))), .second, .val (.int (((1 : Int64) - ((1 : Int64) / (1000 : Int64)) * (1000 : Int64)).toInt32))] [(.ref r24)])) _
    exact k_)
  obtain ⟨fs, hr, hrun, hended, hW, hsame⟩ := X24.leave (v := some (.ref r24)) (fun h => by rw [Bd.returns] at h; cases h)
  refine ⟨_, _, pre26 _ ?_, hrun, hended, _, _, rfl, ?_, ⟨_, rfl⟩, hW, hsame.mono (by decide) (by decide)⟩
  · show Steps p.tables e below (T24.setTop (mkF m 38 #[.val (.long (1 : Int64)), .second, .val (.long ((1 : Int64) / (1000 : Int64))), .second, .val (.int (((1 : Int64) - ((1 : Int64) / (1000 : Int64)) * (1000 : Int64)).toInt32))] [(.ref r24)])) _
    exact retA X24 hx Bd.returns rfl rfl rfl (hb hby d7_38) hr
  · show Q_ofm Z  h0 n0 _ T24.heap _
    exact ⟨⟨r24, rfl⟩, N24, O25⟩
theorem ef_listof (m : MethodId)  : entryFrame m #[] 0 = mkF m 0 #[] [] := by first | (simp [entryFrame, mkF, argsToLocals, Value.category]; done) | rfl
def Q_listof (Z : State) (w_EL : Addr) (h0 : Heap) (n0 : Nat) (v : Option Value) (h : Heap) (L : List Loc) : Prop := v = some (.ref w_EL) ∧ Fr n0 L ∧ h = h0
theorem pn_1 : plainName "java/util/List" = true := by first | (simp [plainName, overriddenIn]; done) | decide +kernel
theorem d8_0 : decode jdk_40_method_36_code 0 = .ok (.getstatic 90, 3) := by decide +kernel
theorem d8_3 : decode jdk_40_method_36_code 3 = .ok (.areturn, 1) := by decide +kernel
set_option maxRecDepth 65536 in
set_option maxHeartbeats 40000000 in
theorem rm_listof (l : Launch) (Z : State) (a0 : Array Value) (hw : ∀ d ∈ tables_1, d.before a0 Z = true) (ws : List Jvm.Cond) (w_EL : Addr) (h0 : Heap) (n0 : Nat) (Z0 : n0 ≤ h0.size) (S_EL : Sta Z h0 "java/util/ImmutableCollections" "EMPTY_LIST" "Ljava/util/ImmutableCollections$ListN;" (.ref w_EL)) :
    MetFree l (⟨"java/util/List", "of", "()Ljava/util/List;"⟩ : MethodName) (head1 (Jvm.Cond.code (⟨"java/util/List", "of", "()Ljava/util/List;"⟩ : MethodName) jdk_40_method_36_code 0 (some (.object "java/util/List")) :: ws) ({ frames := 0, cells := 0, slots := 0, locals := 0 } : Room)) (fun a_ U_ => a_ = #[] ∧ Z.Warmed39 U_.vm ∧ U_.heap = h0) (fun _ _ _ _ _ => True) (fun _ U_ o_ V_ => ∃ v_ L_, o_ = .returned v_ ∧ Q_listof Z w_EL h0 n0 v_ V_.heap L_ ∧ FrameEnd U_ o_ V_ L_ ({ frames := 0, cells := 0, slots := 0, locals := 0 } : Room).cells ({ frames := 0, cells := 0, slots := 0, locals := 0 } : Room).slots) := by
  refine MetFree.of_bodySF (plainFor_of_name pn_1) hisR ?_
  intro p e s m args below meth c s₁ Bd hml0 hP hK
  obtain ⟨rfl, hZ, hh⟩ := hP
  have hx := Bd.exec
  have hby := Bd.bytes
  have hml : c.maxLocals = 0 := hml0
  have hown : s.vm.findClass "java/util/List" = some m.cls := findClass_of_methodNamed Bd.named
  have hnm := (name_of_methodNamed Bd.named Bd.method).1
  have X0 : Stand p l e ({ frames := 0, cells := 0, slots := 0, locals := 0 } : Room) s m #[] below meth c s₁ [] 0 0 := Stand.of_body Bd
  have e0 : s₁.heap = h0 := by rw [← hh, Bd.state]; rfl
  have N0 := Fr.nil n0
  have pre0 : ∀ t_, Steps p.tables e below (s₁.setTop (mkF m 0 #[] [])) t_ → Steps p.tables e below (s₁.setTop (entryFrame m #[] 0)) t_ := fun t_ k_ => castTop (ef_listof m ) k_
  obtain ⟨T27, X27, e27, st27⟩ := getS2 X0 hx hZ hown (host := "") (Or.inl (hw _ (List.mem_of_getElem? (i := 68) rfl))) Via.refl e0 S_EL (g := (mkF m 0 #[] [])) rfl (hb hby d8_0)
  have pre28 : ∀ t_, Steps p.tables e below (T27.setTop (mkF m 3 #[] [(.ref w_EL)])) t_ → Steps p.tables e below (s₁.setTop (entryFrame m #[] 0)) t_ := fun t_ k_ => pre0 t_ (by
    show Steps p.tables e below (s₁.setTop (mkF m 0 #[] [])) _
    refine st27 _ ?_
    show Steps p.tables e below (T27.setTop (mkF m 3 #[] [(.ref w_EL)])) _
    exact k_)
  obtain ⟨fs, hr, hrun, hended, hW, hsame⟩ := X27.leave (v := some (.ref w_EL)) (fun h => by rw [Bd.returns] at h; cases h)
  refine ⟨_, _, pre28 _ ?_, hrun, hended, _, _, rfl, ?_, ⟨_, rfl⟩, hW, hsame.mono (by decide) (by decide)⟩
  · show Steps p.tables e below (T27.setTop (mkF m 3 #[] [(.ref w_EL)])) _
    exact retA X27 hx Bd.returns rfl rfl rfl (hb hby d8_3) hr
  · show Q_listof Z w_EL h0 n0 _ T27.heap _
    rw [e27]
    exact ⟨rfl, N0, rfl⟩
theorem ef_rinit (m : MethodId) (a : Addr) : entryFrame m #[(.ref a)] 1 = mkF m 0 #[.val (.ref a)] [] := by first | (simp [entryFrame, mkF, argsToLocals, Value.category]; done) | rfl
def Q_rinit (Z : State) (a : Addr) (o_preferredProtocolVersion : Value) (o_maxPoolSize : Value) (o_maxPoolWaiting : Value) (o_poolCleanerInterval : Value) (o_poolRecycleTimeout : Value) (o_connectTimeout : Value) (o_commandTimeout : Value) (o_maxCommandsInFlight : Value) (o_autoPipeliningInterval : Value) (o_autoPipeliningThreshold : Value) (o_trustedCertificates : Value) (o_verifyHostName : Value) (o_autoPipelining : Value) (w_RESP3 : Addr) (w_ZERO : Addr) (w_EL : Addr) (h0 : Heap) (n0 : Nat) (v : Option Value) (h : Heap) (L : List Loc) : Prop := v = none ∧ Fr n0 L ∧ Keep h0 h [a] ∧ Exa Z h a "com/example/keelreach/keelreach/RedisOptions" ∧ Fld Z h a "com/example/keelreach/keelreach/RedisOptions" "maxPoolSize" "I" (.int (6 : Int32)) ∧ Fld Z h a "com/example/keelreach/keelreach/RedisOptions" "maxPoolWaiting" "I" (.int (24 : Int32)) ∧ Fld Z h a "com/example/keelreach/keelreach/RedisOptions" "maxCommandsInFlight" "I" (.int (10000 : Int32)) ∧ Fld Z h a "com/example/keelreach/keelreach/RedisOptions" "autoPipeliningThreshold" "I" (.int (128 : Int32)) ∧ Fld Z h a "com/example/keelreach/keelreach/RedisOptions" "autoPipelining" "Z" o_autoPipelining
theorem pn_2 : plainName "com/example/keelreach/keelreach/RedisOptions" = true := by first | (simp [plainName, overriddenIn]; done) | decide +kernel
theorem d2_0 : decode prog_6_method_1_code 0 = .ok (.aload_n 0, 1) := by decide +kernel
theorem d2_1 : decode prog_6_method_1_code 1 = .ok (.invokespecial 1, 3) := by decide +kernel
theorem d2_4 : decode prog_6_method_1_code 4 = .ok (.aload_n 0, 1) := by decide +kernel
theorem d2_5 : decode prog_6_method_1_code 5 = .ok (.getstatic 7, 3) := by decide +kernel
theorem d2_8 : decode prog_6_method_1_code 8 = .ok (.putfield 13, 3) := by decide +kernel
theorem d2_11 : decode prog_6_method_1_code 11 = .ok (.aload_n 0, 1) := by decide +kernel
theorem d2_12 : decode prog_6_method_1_code 12 = .ok (.bipush 6, 2) := by decide +kernel
theorem d2_14 : decode prog_6_method_1_code 14 = .ok (.putfield 18, 3) := by decide +kernel
theorem d2_17 : decode prog_6_method_1_code 17 = .ok (.aload_n 0, 1) := by decide +kernel
theorem d2_18 : decode prog_6_method_1_code 18 = .ok (.bipush 24, 2) := by decide +kernel
theorem d2_20 : decode prog_6_method_1_code 20 = .ok (.putfield 22, 3) := by decide +kernel
theorem d2_23 : decode prog_6_method_1_code 23 = .ok (.aload_n 0, 1) := by decide +kernel
theorem d2_24 : decode prog_6_method_1_code 24 = .ok (.ldc2_w 25, 3) := by decide +kernel
theorem d2_27 : decode prog_6_method_1_code 27 = .ok (.invokestatic 27, 3) := by decide +kernel
theorem pd_2 : parseMethodDescriptor "(J)Ljava/time/Duration;" = some ⟨[.long], some (.object "java/time/Duration")⟩ := by decide +kernel
theorem d2_30 : decode prog_6_method_1_code 30 = .ok (.putfield 33, 3) := by decide +kernel
theorem d2_33 : decode prog_6_method_1_code 33 = .ok (.aload_n 0, 1) := by decide +kernel
theorem d2_34 : decode prog_6_method_1_code 34 = .ok (.ldc2_w 37, 3) := by decide +kernel
theorem d2_37 : decode prog_6_method_1_code 37 = .ok (.invokestatic 27, 3) := by decide +kernel
theorem d2_40 : decode prog_6_method_1_code 40 = .ok (.putfield 39, 3) := by decide +kernel
theorem d2_43 : decode prog_6_method_1_code 43 = .ok (.aload_n 0, 1) := by decide +kernel
theorem d2_44 : decode prog_6_method_1_code 44 = .ok (.ldc2_w 42, 3) := by decide +kernel
theorem d2_47 : decode prog_6_method_1_code 47 = .ok (.invokestatic 27, 3) := by decide +kernel
theorem d2_50 : decode prog_6_method_1_code 50 = .ok (.putfield 44, 3) := by decide +kernel
theorem d2_53 : decode prog_6_method_1_code 53 = .ok (.aload_n 0, 1) := by decide +kernel
theorem d2_54 : decode prog_6_method_1_code 54 = .ok (.getstatic 47, 3) := by decide +kernel
theorem d2_57 : decode prog_6_method_1_code 57 = .ok (.putfield 50, 3) := by decide +kernel
theorem d2_60 : decode prog_6_method_1_code 60 = .ok (.aload_n 0, 1) := by decide +kernel
theorem d2_61 : decode prog_6_method_1_code 61 = .ok (.sipush 10000, 3) := by decide +kernel
theorem d2_64 : decode prog_6_method_1_code 64 = .ok (.putfield 53, 3) := by decide +kernel
theorem d2_67 : decode prog_6_method_1_code 67 = .ok (.aload_n 0, 1) := by decide +kernel
theorem d2_68 : decode prog_6_method_1_code 68 = .ok (.lconst 1, 1) := by decide +kernel
theorem d2_69 : decode prog_6_method_1_code 69 = .ok (.invokestatic 56, 3) := by decide +kernel
theorem d2_72 : decode prog_6_method_1_code 72 = .ok (.putfield 59, 3) := by decide +kernel
theorem d2_75 : decode prog_6_method_1_code 75 = .ok (.aload_n 0, 1) := by decide +kernel
theorem d2_76 : decode prog_6_method_1_code 76 = .ok (.sipush 128, 3) := by decide +kernel
theorem d2_79 : decode prog_6_method_1_code 79 = .ok (.putfield 62, 3) := by decide +kernel
theorem d2_82 : decode prog_6_method_1_code 82 = .ok (.aload_n 0, 1) := by decide +kernel
theorem d2_83 : decode prog_6_method_1_code 83 = .ok (.invokestatic 65, 3) := by decide +kernel
theorem pd_3 : parseMethodDescriptor "()Ljava/util/List;" = some ⟨[], some (.object "java/util/List")⟩ := by decide +kernel
theorem d2_86 : decode prog_6_method_1_code 86 = .ok (.putfield 71, 3) := by decide +kernel
theorem d2_89 : decode prog_6_method_1_code 89 = .ok (.aload_n 0, 1) := by decide +kernel
theorem d2_90 : decode prog_6_method_1_code 90 = .ok (.iconst 1, 1) := by decide +kernel
theorem d2_91 : decode prog_6_method_1_code 91 = .ok (.putfield 75, 3) := by decide +kernel
theorem d2_94 : decode prog_6_method_1_code 94 = .ok (.return_, 1) := by decide +kernel
set_option maxRecDepth 65536 in
set_option maxHeartbeats 40000000 in
theorem rm_rinit (l : Launch) (Z : State) (a0 : Array Value) (hw : ∀ d ∈ tables_1, d.before a0 Z = true) (ws : List Jvm.Cond) (a : Addr) (o_preferredProtocolVersion : Value) (o_maxPoolSize : Value) (o_maxPoolWaiting : Value) (o_poolCleanerInterval : Value) (o_poolRecycleTimeout : Value) (o_connectTimeout : Value) (o_commandTimeout : Value) (o_maxCommandsInFlight : Value) (o_autoPipeliningInterval : Value) (o_autoPipeliningThreshold : Value) (o_trustedCertificates : Value) (o_verifyHostName : Value) (o_autoPipelining : Value) (w_RESP3 : Addr) (w_ZERO : Addr) (w_EL : Addr) (h0 : Heap) (n0 : Nat) (Z0 : n0 ≤ h0.size) (E_a : Exa Z h0 a "com/example/keelreach/keelreach/RedisOptions") (gg_a : n0 ≤ a) (F_preferredProtocolVersion : Fld Z h0 a "com/example/keelreach/keelreach/RedisOptions" "preferredProtocolVersion" "Lcom/example/keelreach/keelreach/ProtocolVersion;" o_preferredProtocolVersion) (F_maxPoolSize : Fld Z h0 a "com/example/keelreach/keelreach/RedisOptions" "maxPoolSize" "I" o_maxPoolSize) (F_maxPoolWaiting : Fld Z h0 a "com/example/keelreach/keelreach/RedisOptions" "maxPoolWaiting" "I" o_maxPoolWaiting) (F_poolCleanerInterval : Fld Z h0 a "com/example/keelreach/keelreach/RedisOptions" "poolCleanerInterval" "Ljava/time/Duration;" o_poolCleanerInterval) (F_poolRecycleTimeout : Fld Z h0 a "com/example/keelreach/keelreach/RedisOptions" "poolRecycleTimeout" "Ljava/time/Duration;" o_poolRecycleTimeout) (F_connectTimeout : Fld Z h0 a "com/example/keelreach/keelreach/RedisOptions" "connectTimeout" "Ljava/time/Duration;" o_connectTimeout) (F_commandTimeout : Fld Z h0 a "com/example/keelreach/keelreach/RedisOptions" "commandTimeout" "Ljava/time/Duration;" o_commandTimeout) (F_maxCommandsInFlight : Fld Z h0 a "com/example/keelreach/keelreach/RedisOptions" "maxCommandsInFlight" "I" o_maxCommandsInFlight) (F_autoPipeliningInterval : Fld Z h0 a "com/example/keelreach/keelreach/RedisOptions" "autoPipeliningInterval" "Ljava/time/Duration;" o_autoPipeliningInterval) (F_autoPipeliningThreshold : Fld Z h0 a "com/example/keelreach/keelreach/RedisOptions" "autoPipeliningThreshold" "I" o_autoPipeliningThreshold) (F_trustedCertificates : Fld Z h0 a "com/example/keelreach/keelreach/RedisOptions" "trustedCertificates" "Ljava/util/List;" o_trustedCertificates) (F_verifyHostName : Fld Z h0 a "com/example/keelreach/keelreach/RedisOptions" "verifyHostName" "Z" o_verifyHostName) (F_autoPipelining : Fld Z h0 a "com/example/keelreach/keelreach/RedisOptions" "autoPipelining" "Z" o_autoPipelining) (S_RESP3 : Sta Z h0 "com/example/keelreach/keelreach/ProtocolVersion" "RESP3" "Lcom/example/keelreach/keelreach/ProtocolVersion;" (.ref w_RESP3)) (S_ZERO : Sta Z h0 "java/time/Duration" "ZERO" "Ljava/time/Duration;" (.ref w_ZERO)) (S_EL : Sta Z h0 "java/util/ImmutableCollections" "EMPTY_LIST" "Ljava/util/ImmutableCollections$ListN;" (.ref w_EL)) :
    MetFree l (⟨"com/example/keelreach/keelreach/RedisOptions", "<init>", "()V"⟩ : MethodName) (head1 (Jvm.Cond.code (⟨"com/example/keelreach/keelreach/RedisOptions", "<init>", "()V"⟩ : MethodName) prog_6_method_1_code 1 none :: ws) ({ frames := 4, cells := 4, slots := 8, locals := 59 } : Room)) (fun a_ U_ => a_ = #[(.ref a)] ∧ Z.Warmed39 U_.vm ∧ U_.heap = h0) (fun _ _ _ _ _ => True) (fun _ U_ o_ V_ => ∃ v_ L_, o_ = .returned v_ ∧ Q_rinit Z a o_preferredProtocolVersion o_maxPoolSize o_maxPoolWaiting o_poolCleanerInterval o_poolRecycleTimeout o_connectTimeout o_commandTimeout o_maxCommandsInFlight o_autoPipeliningInterval o_autoPipeliningThreshold o_trustedCertificates o_verifyHostName o_autoPipelining w_RESP3 w_ZERO w_EL h0 n0 v_ V_.heap L_ ∧ FrameEnd U_ o_ V_ L_ ({ frames := 4, cells := 4, slots := 8, locals := 59 } : Room).cells ({ frames := 4, cells := 4, slots := 8, locals := 59 } : Room).slots) := by
  refine MetFree.of_bodySF (plainFor_of_name pn_2) hisR ?_
  intro p e s m args below meth c s₁ Bd hml0 hP hK
  obtain ⟨rfl, hZ, hh⟩ := hP
  have hx := Bd.exec
  have hby := Bd.bytes
  have hml : c.maxLocals = 1 := hml0
  have hown : s.vm.findClass "com/example/keelreach/keelreach/RedisOptions" = some m.cls := findClass_of_methodNamed Bd.named
  have hnm := (name_of_methodNamed Bd.named Bd.method).1
  have X0 : Stand p l e ({ frames := 4, cells := 4, slots := 8, locals := 59 } : Room) s m #[(.ref a)] below meth c s₁ [] 0 0 := Stand.of_body Bd
  have e0 : s₁.heap = h0 := by rw [← hh, Bd.state]; rfl
  have N0 := Fr.nil n0
  have pre0 : ∀ t_, Steps p.tables e below (s₁.setTop (mkF m 0 #[.val (.ref a)] [])) t_ → Steps p.tables e below (s₁.setTop (entryFrame m #[(.ref a)] 1)) t_ := fun t_ k_ => castTop (ef_rinit m a) k_
  have O0 := own_ext_refl h0
  have K0 := Keep.refl h0 [a]
  obtain ⟨T29, X29, e29, st29⟩ := initO X0 hx hZ hown (hw _ (List.mem_of_getElem? (i := 11) rfl)) (hw _ (List.mem_of_getElem? (i := 12) rfl)) (hw _ (List.mem_of_getElem? (i := 13) rfl)) e0 (g := (mkF m 1 #[.val (.ref a)] [(.ref a)])) rfl (by rw [hml]; rfl) rfl (hb hby d2_1) (by decide) (W := 0) (by show 2 * 0 + _ ≤ _; exact Nat.le_of_eq rfl) (by decide)
  obtain ⟨T30, X30, e30, st30⟩ := getS2 X29 hx hZ hown (host := "") (Or.inl (hw _ (List.mem_of_getElem? (i := 14) rfl))) Via.refl e29 S_RESP3 (g := (mkF m 5 #[.val (.ref a)] [(.ref a)])) rfl (hb hby d2_5)
  obtain ⟨T31, h31, X31, e31, W31, st31⟩ := putF X30 hx hZ hown (host := "") (Or.inl (hw _ (List.mem_of_getElem? (i := 17) rfl))) Via.refl e30 F_preferredProtocolVersion E_a (Or.inl (hw _ (List.mem_of_getElem? (i := 18) rfl))) (hw _ (List.mem_of_getElem? (i := 6) rfl)) (ty := (.object "com/example/keelreach/keelreach/ProtocolVersion")) (by decide) rfl rfl (g := (mkF m 8 #[.val (.ref a)] [(.ref w_RESP3), (.ref a)])) rfl rfl (hb hby d2_8)
  have N31 := Fr.snoc X31 N0 gg_a
  have K31 := Keep.wr K0 W31 (Or.inl (List.mem_of_getElem? (i := 0) rfl))
  have Zs31 := Nat.le_trans Z0 (Keep.of_wr W31).1
  have c32 : Exa Z h31 a "com/example/keelreach/keelreach/RedisOptions" := E_a.wr W31
  have c33 : Fld Z h31 a "com/example/keelreach/keelreach/RedisOptions" "preferredProtocolVersion" "Lcom/example/keelreach/keelreach/ProtocolVersion;" (.ref w_RESP3) := F_preferredProtocolVersion.same W31
  have c34 : Fld Z h31 a "com/example/keelreach/keelreach/RedisOptions" "maxPoolSize" "I" o_maxPoolSize := F_maxPoolSize.other W31 (Or.inr (slot_ne (Or.inl (hw _ (List.mem_of_getElem? (i := 20) rfl))) (Or.inl (hw _ (List.mem_of_getElem? (i := 18) rfl))) (by decide) (t := .int) (t' := (.object "com/example/keelreach/keelreach/ProtocolVersion")) (by decide) (by decide)))
  have c35 : Fld Z h31 a "com/example/keelreach/keelreach/RedisOptions" "maxPoolWaiting" "I" o_maxPoolWaiting := F_maxPoolWaiting.other W31 (Or.inr (slot_ne (Or.inl (hw _ (List.mem_of_getElem? (i := 22) rfl))) (Or.inl (hw _ (List.mem_of_getElem? (i := 18) rfl))) (by decide) (t := .int) (t' := (.object "com/example/keelreach/keelreach/ProtocolVersion")) (by decide) (by decide)))
  have c36 : Fld Z h31 a "com/example/keelreach/keelreach/RedisOptions" "poolCleanerInterval" "Ljava/time/Duration;" o_poolCleanerInterval := F_poolCleanerInterval.other W31 (Or.inr (slot_ne (Or.inl (hw _ (List.mem_of_getElem? (i := 43) rfl))) (Or.inl (hw _ (List.mem_of_getElem? (i := 18) rfl))) (by decide) (t := (.object "java/time/Duration")) (t' := (.object "com/example/keelreach/keelreach/ProtocolVersion")) (by decide) (by decide)))
  have c37 : Fld Z h31 a "com/example/keelreach/keelreach/RedisOptions" "poolRecycleTimeout" "Ljava/time/Duration;" o_poolRecycleTimeout := F_poolRecycleTimeout.other W31 (Or.inr (slot_ne (Or.inl (hw _ (List.mem_of_getElem? (i := 46) rfl))) (Or.inl (hw _ (List.mem_of_getElem? (i := 18) rfl))) (by decide) (t := (.object "java/time/Duration")) (t' := (.object "com/example/keelreach/keelreach/ProtocolVersion")) (by decide) (by decide)))
  have c38 : Fld Z h31 a "com/example/keelreach/keelreach/RedisOptions" "connectTimeout" "Ljava/time/Duration;" o_connectTimeout := F_connectTimeout.other W31 (Or.inr (slot_ne (Or.inl (hw _ (List.mem_of_getElem? (i := 49) rfl))) (Or.inl (hw _ (List.mem_of_getElem? (i := 18) rfl))) (by decide) (t := (.object "java/time/Duration")) (t' := (.object "com/example/keelreach/keelreach/ProtocolVersion")) (by decide) (by decide)))
  have c39 : Fld Z h31 a "com/example/keelreach/keelreach/RedisOptions" "commandTimeout" "Ljava/time/Duration;" o_commandTimeout := F_commandTimeout.other W31 (Or.inr (slot_ne (Or.inl (hw _ (List.mem_of_getElem? (i := 52) rfl))) (Or.inl (hw _ (List.mem_of_getElem? (i := 18) rfl))) (by decide) (t := (.object "java/time/Duration")) (t' := (.object "com/example/keelreach/keelreach/ProtocolVersion")) (by decide) (by decide)))
  have c40 : Fld Z h31 a "com/example/keelreach/keelreach/RedisOptions" "maxCommandsInFlight" "I" o_maxCommandsInFlight := F_maxCommandsInFlight.other W31 (Or.inr (slot_ne (Or.inl (hw _ (List.mem_of_getElem? (i := 54) rfl))) (Or.inl (hw _ (List.mem_of_getElem? (i := 18) rfl))) (by decide) (t := .int) (t' := (.object "com/example/keelreach/keelreach/ProtocolVersion")) (by decide) (by decide)))
  have c41 : Fld Z h31 a "com/example/keelreach/keelreach/RedisOptions" "autoPipeliningInterval" "Ljava/time/Duration;" o_autoPipeliningInterval := F_autoPipeliningInterval.other W31 (Or.inr (slot_ne (Or.inl (hw _ (List.mem_of_getElem? (i := 61) rfl))) (Or.inl (hw _ (List.mem_of_getElem? (i := 18) rfl))) (by decide) (t := (.object "java/time/Duration")) (t' := (.object "com/example/keelreach/keelreach/ProtocolVersion")) (by decide) (by decide)))
  have c42 : Fld Z h31 a "com/example/keelreach/keelreach/RedisOptions" "autoPipeliningThreshold" "I" o_autoPipeliningThreshold := F_autoPipeliningThreshold.other W31 (Or.inr (slot_ne (Or.inl (hw _ (List.mem_of_getElem? (i := 63) rfl))) (Or.inl (hw _ (List.mem_of_getElem? (i := 18) rfl))) (by decide) (t := .int) (t' := (.object "com/example/keelreach/keelreach/ProtocolVersion")) (by decide) (by decide)))
  have c43 : Fld Z h31 a "com/example/keelreach/keelreach/RedisOptions" "trustedCertificates" "Ljava/util/List;" o_trustedCertificates := F_trustedCertificates.other W31 (Or.inr (slot_ne (Or.inl (hw _ (List.mem_of_getElem? (i := 71) rfl))) (Or.inl (hw _ (List.mem_of_getElem? (i := 18) rfl))) (by decide) (t := (.object "java/util/List")) (t' := (.object "com/example/keelreach/keelreach/ProtocolVersion")) (by decide) (by decide)))
  have c44 : Fld Z h31 a "com/example/keelreach/keelreach/RedisOptions" "verifyHostName" "Z" o_verifyHostName := F_verifyHostName.other W31 (Or.inr (slot_ne (Or.inl (hw _ (List.mem_of_getElem? (i := 73) rfl))) (Or.inl (hw _ (List.mem_of_getElem? (i := 18) rfl))) (by decide) (t := .boolean) (t' := (.object "com/example/keelreach/keelreach/ProtocolVersion")) (by decide) (by decide)))
  have c45 : Fld Z h31 a "com/example/keelreach/keelreach/RedisOptions" "autoPipelining" "Z" o_autoPipelining := F_autoPipelining.other W31 (Or.inr (slot_ne (Or.inl (hw _ (List.mem_of_getElem? (i := 105) rfl))) (Or.inl (hw _ (List.mem_of_getElem? (i := 18) rfl))) (by decide) (t := .boolean) (t' := (.object "com/example/keelreach/keelreach/ProtocolVersion")) (by decide) (by decide)))
  have c46 : Sta Z h31 "com/example/keelreach/keelreach/ProtocolVersion" "RESP3" "Lcom/example/keelreach/keelreach/ProtocolVersion;" (.ref w_RESP3) := S_RESP3.wr W31
  have c47 : Sta Z h31 "java/time/Duration" "ZERO" "Ljava/time/Duration;" (.ref w_ZERO) := S_ZERO.wr W31
  have c48 : Sta Z h31 "java/util/ImmutableCollections" "EMPTY_LIST" "Ljava/util/ImmutableCollections$ListN;" (.ref w_EL) := S_EL.wr W31
  obtain ⟨T49, h49, X49, e49, W49, st49⟩ := putF X31 hx hZ hown (host := "") (Or.inl (hw _ (List.mem_of_getElem? (i := 19) rfl))) Via.refl e31 c34 c32 (Or.inl (hw _ (List.mem_of_getElem? (i := 20) rfl))) (hw _ (List.mem_of_getElem? (i := 6) rfl)) (ty := .int) (by decide) rfl rfl (g := (mkF m 14 #[.val (.ref a)] [(.int (6 : Int32)), (.ref a)])) rfl rfl (hb hby d2_14)
  have N49 := Fr.snoc X49 N31 gg_a
  have K49 := Keep.wr K31 W49 (Or.inl (List.mem_of_getElem? (i := 0) rfl))
  have Zs49 := Nat.le_trans Zs31 (Keep.of_wr W49).1
  have c50 : Exa Z h49 a "com/example/keelreach/keelreach/RedisOptions" := c32.wr W49
  have c51 : Fld Z h49 a "com/example/keelreach/keelreach/RedisOptions" "preferredProtocolVersion" "Lcom/example/keelreach/keelreach/ProtocolVersion;" (.ref w_RESP3) := c33.other W49 (Or.inr (slot_ne (Or.inl (hw _ (List.mem_of_getElem? (i := 18) rfl))) (Or.inl (hw _ (List.mem_of_getElem? (i := 20) rfl))) (by decide) (t := (.object "com/example/keelreach/keelreach/ProtocolVersion")) (t' := .int) (by decide) (by decide)))
  have c52 : Fld Z h49 a "com/example/keelreach/keelreach/RedisOptions" "maxPoolSize" "I" (.int (6 : Int32)) := c34.same W49
  have c53 : Fld Z h49 a "com/example/keelreach/keelreach/RedisOptions" "maxPoolWaiting" "I" o_maxPoolWaiting := c35.other W49 (Or.inr (slot_ne (Or.inl (hw _ (List.mem_of_getElem? (i := 22) rfl))) (Or.inl (hw _ (List.mem_of_getElem? (i := 20) rfl))) (by decide) (t := .int) (t' := .int) (by decide) (by decide)))
  have c54 : Fld Z h49 a "com/example/keelreach/keelreach/RedisOptions" "poolCleanerInterval" "Ljava/time/Duration;" o_poolCleanerInterval := c36.other W49 (Or.inr (slot_ne (Or.inl (hw _ (List.mem_of_getElem? (i := 43) rfl))) (Or.inl (hw _ (List.mem_of_getElem? (i := 20) rfl))) (by decide) (t := (.object "java/time/Duration")) (t' := .int) (by decide) (by decide)))
  have c55 : Fld Z h49 a "com/example/keelreach/keelreach/RedisOptions" "poolRecycleTimeout" "Ljava/time/Duration;" o_poolRecycleTimeout := c37.other W49 (Or.inr (slot_ne (Or.inl (hw _ (List.mem_of_getElem? (i := 46) rfl))) (Or.inl (hw _ (List.mem_of_getElem? (i := 20) rfl))) (by decide) (t := (.object "java/time/Duration")) (t' := .int) (by decide) (by decide)))
  have c56 : Fld Z h49 a "com/example/keelreach/keelreach/RedisOptions" "connectTimeout" "Ljava/time/Duration;" o_connectTimeout := c38.other W49 (Or.inr (slot_ne (Or.inl (hw _ (List.mem_of_getElem? (i := 49) rfl))) (Or.inl (hw _ (List.mem_of_getElem? (i := 20) rfl))) (by decide) (t := (.object "java/time/Duration")) (t' := .int) (by decide) (by decide)))
  have c57 : Fld Z h49 a "com/example/keelreach/keelreach/RedisOptions" "commandTimeout" "Ljava/time/Duration;" o_commandTimeout := c39.other W49 (Or.inr (slot_ne (Or.inl (hw _ (List.mem_of_getElem? (i := 52) rfl))) (Or.inl (hw _ (List.mem_of_getElem? (i := 20) rfl))) (by decide) (t := (.object "java/time/Duration")) (t' := .int) (by decide) (by decide)))
  have c58 : Fld Z h49 a "com/example/keelreach/keelreach/RedisOptions" "maxCommandsInFlight" "I" o_maxCommandsInFlight := c40.other W49 (Or.inr (slot_ne (Or.inl (hw _ (List.mem_of_getElem? (i := 54) rfl))) (Or.inl (hw _ (List.mem_of_getElem? (i := 20) rfl))) (by decide) (t := .int) (t' := .int) (by decide) (by decide)))
  have c59 : Fld Z h49 a "com/example/keelreach/keelreach/RedisOptions" "autoPipeliningInterval" "Ljava/time/Duration;" o_autoPipeliningInterval := c41.other W49 (Or.inr (slot_ne (Or.inl (hw _ (List.mem_of_getElem? (i := 61) rfl))) (Or.inl (hw _ (List.mem_of_getElem? (i := 20) rfl))) (by decide) (t := (.object "java/time/Duration")) (t' := .int) (by decide) (by decide)))
  have c60 : Fld Z h49 a "com/example/keelreach/keelreach/RedisOptions" "autoPipeliningThreshold" "I" o_autoPipeliningThreshold := c42.other W49 (Or.inr (slot_ne (Or.inl (hw _ (List.mem_of_getElem? (i := 63) rfl))) (Or.inl (hw _ (List.mem_of_getElem? (i := 20) rfl))) (by decide) (t := .int) (t' := .int) (by decide) (by decide)))
  have c61 : Fld Z h49 a "com/example/keelreach/keelreach/RedisOptions" "trustedCertificates" "Ljava/util/List;" o_trustedCertificates := c43.other W49 (Or.inr (slot_ne (Or.inl (hw _ (List.mem_of_getElem? (i := 71) rfl))) (Or.inl (hw _ (List.mem_of_getElem? (i := 20) rfl))) (by decide) (t := (.object "java/util/List")) (t' := .int) (by decide) (by decide)))
  have c62 : Fld Z h49 a "com/example/keelreach/keelreach/RedisOptions" "verifyHostName" "Z" o_verifyHostName := c44.other W49 (Or.inr (slot_ne (Or.inl (hw _ (List.mem_of_getElem? (i := 73) rfl))) (Or.inl (hw _ (List.mem_of_getElem? (i := 20) rfl))) (by decide) (t := .boolean) (t' := .int) (by decide) (by decide)))
  have c63 : Fld Z h49 a "com/example/keelreach/keelreach/RedisOptions" "autoPipelining" "Z" o_autoPipelining := c45.other W49 (Or.inr (slot_ne (Or.inl (hw _ (List.mem_of_getElem? (i := 105) rfl))) (Or.inl (hw _ (List.mem_of_getElem? (i := 20) rfl))) (by decide) (t := .boolean) (t' := .int) (by decide) (by decide)))
  have c64 : Sta Z h49 "com/example/keelreach/keelreach/ProtocolVersion" "RESP3" "Lcom/example/keelreach/keelreach/ProtocolVersion;" (.ref w_RESP3) := c46.wr W49
  have c65 : Sta Z h49 "java/time/Duration" "ZERO" "Ljava/time/Duration;" (.ref w_ZERO) := c47.wr W49
  have c66 : Sta Z h49 "java/util/ImmutableCollections" "EMPTY_LIST" "Ljava/util/ImmutableCollections$ListN;" (.ref w_EL) := c48.wr W49
  obtain ⟨T67, h67, X67, e67, W67, st67⟩ := putF X49 hx hZ hown (host := "") (Or.inl (hw _ (List.mem_of_getElem? (i := 21) rfl))) Via.refl e49 c53 c50 (Or.inl (hw _ (List.mem_of_getElem? (i := 22) rfl))) (hw _ (List.mem_of_getElem? (i := 6) rfl)) (ty := .int) (by decide) rfl rfl (g := (mkF m 20 #[.val (.ref a)] [(.int (24 : Int32)), (.ref a)])) rfl rfl (hb hby d2_20)
  have N67 := Fr.snoc X67 N49 gg_a
  have K67 := Keep.wr K49 W67 (Or.inl (List.mem_of_getElem? (i := 0) rfl))
  have Zs67 := Nat.le_trans Zs49 (Keep.of_wr W67).1
  have c68 : Exa Z h67 a "com/example/keelreach/keelreach/RedisOptions" := c50.wr W67
  have c69 : Fld Z h67 a "com/example/keelreach/keelreach/RedisOptions" "preferredProtocolVersion" "Lcom/example/keelreach/keelreach/ProtocolVersion;" (.ref w_RESP3) := c51.other W67 (Or.inr (slot_ne (Or.inl (hw _ (List.mem_of_getElem? (i := 18) rfl))) (Or.inl (hw _ (List.mem_of_getElem? (i := 22) rfl))) (by decide) (t := (.object "com/example/keelreach/keelreach/ProtocolVersion")) (t' := .int) (by decide) (by decide)))
  have c70 : Fld Z h67 a "com/example/keelreach/keelreach/RedisOptions" "maxPoolSize" "I" (.int (6 : Int32)) := c52.other W67 (Or.inr (slot_ne (Or.inl (hw _ (List.mem_of_getElem? (i := 20) rfl))) (Or.inl (hw _ (List.mem_of_getElem? (i := 22) rfl))) (by decide) (t := .int) (t' := .int) (by decide) (by decide)))
  have c71 : Fld Z h67 a "com/example/keelreach/keelreach/RedisOptions" "maxPoolWaiting" "I" (.int (24 : Int32)) := c53.same W67
  have c72 : Fld Z h67 a "com/example/keelreach/keelreach/RedisOptions" "poolCleanerInterval" "Ljava/time/Duration;" o_poolCleanerInterval := c54.other W67 (Or.inr (slot_ne (Or.inl (hw _ (List.mem_of_getElem? (i := 43) rfl))) (Or.inl (hw _ (List.mem_of_getElem? (i := 22) rfl))) (by decide) (t := (.object "java/time/Duration")) (t' := .int) (by decide) (by decide)))
  have c73 : Fld Z h67 a "com/example/keelreach/keelreach/RedisOptions" "poolRecycleTimeout" "Ljava/time/Duration;" o_poolRecycleTimeout := c55.other W67 (Or.inr (slot_ne (Or.inl (hw _ (List.mem_of_getElem? (i := 46) rfl))) (Or.inl (hw _ (List.mem_of_getElem? (i := 22) rfl))) (by decide) (t := (.object "java/time/Duration")) (t' := .int) (by decide) (by decide)))
  have c74 : Fld Z h67 a "com/example/keelreach/keelreach/RedisOptions" "connectTimeout" "Ljava/time/Duration;" o_connectTimeout := c56.other W67 (Or.inr (slot_ne (Or.inl (hw _ (List.mem_of_getElem? (i := 49) rfl))) (Or.inl (hw _ (List.mem_of_getElem? (i := 22) rfl))) (by decide) (t := (.object "java/time/Duration")) (t' := .int) (by decide) (by decide)))
  have c75 : Fld Z h67 a "com/example/keelreach/keelreach/RedisOptions" "commandTimeout" "Ljava/time/Duration;" o_commandTimeout := c57.other W67 (Or.inr (slot_ne (Or.inl (hw _ (List.mem_of_getElem? (i := 52) rfl))) (Or.inl (hw _ (List.mem_of_getElem? (i := 22) rfl))) (by decide) (t := (.object "java/time/Duration")) (t' := .int) (by decide) (by decide)))
  have c76 : Fld Z h67 a "com/example/keelreach/keelreach/RedisOptions" "maxCommandsInFlight" "I" o_maxCommandsInFlight := c58.other W67 (Or.inr (slot_ne (Or.inl (hw _ (List.mem_of_getElem? (i := 54) rfl))) (Or.inl (hw _ (List.mem_of_getElem? (i := 22) rfl))) (by decide) (t := .int) (t' := .int) (by decide) (by decide)))
  have c77 : Fld Z h67 a "com/example/keelreach/keelreach/RedisOptions" "autoPipeliningInterval" "Ljava/time/Duration;" o_autoPipeliningInterval := c59.other W67 (Or.inr (slot_ne (Or.inl (hw _ (List.mem_of_getElem? (i := 61) rfl))) (Or.inl (hw _ (List.mem_of_getElem? (i := 22) rfl))) (by decide) (t := (.object "java/time/Duration")) (t' := .int) (by decide) (by decide)))
  have c78 : Fld Z h67 a "com/example/keelreach/keelreach/RedisOptions" "autoPipeliningThreshold" "I" o_autoPipeliningThreshold := c60.other W67 (Or.inr (slot_ne (Or.inl (hw _ (List.mem_of_getElem? (i := 63) rfl))) (Or.inl (hw _ (List.mem_of_getElem? (i := 22) rfl))) (by decide) (t := .int) (t' := .int) (by decide) (by decide)))
  have c79 : Fld Z h67 a "com/example/keelreach/keelreach/RedisOptions" "trustedCertificates" "Ljava/util/List;" o_trustedCertificates := c61.other W67 (Or.inr (slot_ne (Or.inl (hw _ (List.mem_of_getElem? (i := 71) rfl))) (Or.inl (hw _ (List.mem_of_getElem? (i := 22) rfl))) (by decide) (t := (.object "java/util/List")) (t' := .int) (by decide) (by decide)))
  have c80 : Fld Z h67 a "com/example/keelreach/keelreach/RedisOptions" "verifyHostName" "Z" o_verifyHostName := c62.other W67 (Or.inr (slot_ne (Or.inl (hw _ (List.mem_of_getElem? (i := 73) rfl))) (Or.inl (hw _ (List.mem_of_getElem? (i := 22) rfl))) (by decide) (t := .boolean) (t' := .int) (by decide) (by decide)))
  have c81 : Fld Z h67 a "com/example/keelreach/keelreach/RedisOptions" "autoPipelining" "Z" o_autoPipelining := c63.other W67 (Or.inr (slot_ne (Or.inl (hw _ (List.mem_of_getElem? (i := 105) rfl))) (Or.inl (hw _ (List.mem_of_getElem? (i := 22) rfl))) (by decide) (t := .boolean) (t' := .int) (by decide) (by decide)))
  have c82 : Sta Z h67 "com/example/keelreach/keelreach/ProtocolVersion" "RESP3" "Lcom/example/keelreach/keelreach/ProtocolVersion;" (.ref w_RESP3) := c64.wr W67
  have c83 : Sta Z h67 "java/time/Duration" "ZERO" "Ljava/time/Duration;" (.ref w_ZERO) := c65.wr W67
  have c84 : Sta Z h67 "java/util/ImmutableCollections" "EMPTY_LIST" "Ljava/util/ImmutableCollections$ListN;" (.ref w_EL) := c66.wr W67
  obtain ⟨v85, _, ⟨T85, L85, k85, n85⟩, -, X85, ⟨Lc85, hQ85, l85, y85, z85⟩, st85⟩ := Jvm.LawKit.callS X67 hx (y := (⟨"java/time/Duration", "ofSeconds", "(J)Ljava/time/Duration;"⟩ : MethodName)) hown (mvT hZ (hw _ (List.mem_of_getElem? (i := 24) rfl))) (mvT hZ (hw _ (List.mem_of_getElem? (i := 25) rfl))) (mvT hZ (hw _ (List.mem_of_getElem? (i := 26) rfl))) (mvT hZ (hw _ (List.mem_of_getElem? (i := 27) rfl))) (by decide) (backOf (W := 1) (rm_ofs l Z a0 hw [] (30 : Int64) h67 n0 Zs67 (by decide)) hZ (hw _ (List.mem_of_getElem? (i := 27) rfl)) (hw _ (List.mem_of_getElem? (i := 26) rfl)) (by decide) (by decide)) (g := (mkF m 27 #[.val (.ref a)] [(.long (30 : Int64)), (.ref a)])) rfl (by rw [hml]; rfl) (argsL := [(.long (30 : Int64))]) (rest := [(.ref a)]) (lenOf pd_2 rfl) rfl (by show 2 * 0 + _ ≤ _; exact Nat.le_of_eq rfl) (hb hby d2_27) (fun _ _ => ⟨rfl, e67, (by decide : 0 + 1 ≤ _), (by decide : 0 + 2 ≤ _)⟩)
  dsimp only [Pt.U, Pt.locs, Pt.cells, Pt.slots] at X85 l85 y85 z85 st85 hQ85
  subst l85 y85 z85
  obtain ⟨⟨r85, hv85⟩, N85q, M85⟩ := hQ85
  have N85 := Fr.app N67 N85q
  subst hv85
  have K86 := Keep.ext K67 M85
  have Zs86 := Nat.le_trans Zs67 (M85).1
  have c87 : Exa Z T85.heap a "com/example/keelreach/keelreach/RedisOptions" := c68.ext M85
  have c88 : Fld Z T85.heap a "com/example/keelreach/keelreach/RedisOptions" "preferredProtocolVersion" "Lcom/example/keelreach/keelreach/ProtocolVersion;" (.ref w_RESP3) := c69.ext M85
  have c89 : Fld Z T85.heap a "com/example/keelreach/keelreach/RedisOptions" "maxPoolSize" "I" (.int (6 : Int32)) := c70.ext M85
  have c90 : Fld Z T85.heap a "com/example/keelreach/keelreach/RedisOptions" "maxPoolWaiting" "I" (.int (24 : Int32)) := c71.ext M85
  have c91 : Fld Z T85.heap a "com/example/keelreach/keelreach/RedisOptions" "poolCleanerInterval" "Ljava/time/Duration;" o_poolCleanerInterval := c72.ext M85
  have c92 : Fld Z T85.heap a "com/example/keelreach/keelreach/RedisOptions" "poolRecycleTimeout" "Ljava/time/Duration;" o_poolRecycleTimeout := c73.ext M85
  have c93 : Fld Z T85.heap a "com/example/keelreach/keelreach/RedisOptions" "connectTimeout" "Ljava/time/Duration;" o_connectTimeout := c74.ext M85
  have c94 : Fld Z T85.heap a "com/example/keelreach/keelreach/RedisOptions" "commandTimeout" "Ljava/time/Duration;" o_commandTimeout := c75.ext M85
  have c95 : Fld Z T85.heap a "com/example/keelreach/keelreach/RedisOptions" "maxCommandsInFlight" "I" o_maxCommandsInFlight := c76.ext M85
  have c96 : Fld Z T85.heap a "com/example/keelreach/keelreach/RedisOptions" "autoPipeliningInterval" "Ljava/time/Duration;" o_autoPipeliningInterval := c77.ext M85
  have c97 : Fld Z T85.heap a "com/example/keelreach/keelreach/RedisOptions" "autoPipeliningThreshold" "I" o_autoPipeliningThreshold := c78.ext M85
  have c98 : Fld Z T85.heap a "com/example/keelreach/keelreach/RedisOptions" "trustedCertificates" "Ljava/util/List;" o_trustedCertificates := c79.ext M85
  have c99 : Fld Z T85.heap a "com/example/keelreach/keelreach/RedisOptions" "verifyHostName" "Z" o_verifyHostName := c80.ext M85
  have c100 : Fld Z T85.heap a "com/example/keelreach/keelreach/RedisOptions" "autoPipelining" "Z" o_autoPipelining := c81.ext M85
  have c101 : Sta Z T85.heap "com/example/keelreach/keelreach/ProtocolVersion" "RESP3" "Lcom/example/keelreach/keelreach/ProtocolVersion;" (.ref w_RESP3) := c82.ext M85
  have c102 : Sta Z T85.heap "java/time/Duration" "ZERO" "Ljava/time/Duration;" (.ref w_ZERO) := c83.ext M85
  have c103 : Sta Z T85.heap "java/util/ImmutableCollections" "EMPTY_LIST" "Ljava/util/ImmutableCollections$ListN;" (.ref w_EL) := c84.ext M85
  obtain ⟨T104, h104, X104, e104, W104, st104⟩ := putF X85 hx hZ hown (host := "") (Or.inl (hw _ (List.mem_of_getElem? (i := 42) rfl))) Via.refl rfl c91 c87 (Or.inl (hw _ (List.mem_of_getElem? (i := 43) rfl))) (hw _ (List.mem_of_getElem? (i := 6) rfl)) (ty := (.object "java/time/Duration")) (by decide) rfl rfl (g := (mkF m 30 #[.val (.ref a)] [(.ref r85), (.ref a)])) rfl rfl (hb hby d2_30)
  have N104 := Fr.snoc X104 N85 gg_a
  have K104 := Keep.wr K86 W104 (Or.inl (List.mem_of_getElem? (i := 0) rfl))
  have Zs104 := Nat.le_trans Zs86 (Keep.of_wr W104).1
  have c105 : Exa Z h104 a "com/example/keelreach/keelreach/RedisOptions" := c87.wr W104
  have c106 : Fld Z h104 a "com/example/keelreach/keelreach/RedisOptions" "preferredProtocolVersion" "Lcom/example/keelreach/keelreach/ProtocolVersion;" (.ref w_RESP3) := c88.other W104 (Or.inr (slot_ne (Or.inl (hw _ (List.mem_of_getElem? (i := 18) rfl))) (Or.inl (hw _ (List.mem_of_getElem? (i := 43) rfl))) (by decide) (t := (.object "com/example/keelreach/keelreach/ProtocolVersion")) (t' := (.object "java/time/Duration")) (by decide) (by decide)))
  have c107 : Fld Z h104 a "com/example/keelreach/keelreach/RedisOptions" "maxPoolSize" "I" (.int (6 : Int32)) := c89.other W104 (Or.inr (slot_ne (Or.inl (hw _ (List.mem_of_getElem? (i := 20) rfl))) (Or.inl (hw _ (List.mem_of_getElem? (i := 43) rfl))) (by decide) (t := .int) (t' := (.object "java/time/Duration")) (by decide) (by decide)))
  have c108 : Fld Z h104 a "com/example/keelreach/keelreach/RedisOptions" "maxPoolWaiting" "I" (.int (24 : Int32)) := c90.other W104 (Or.inr (slot_ne (Or.inl (hw _ (List.mem_of_getElem? (i := 22) rfl))) (Or.inl (hw _ (List.mem_of_getElem? (i := 43) rfl))) (by decide) (t := .int) (t' := (.object "java/time/Duration")) (by decide) (by decide)))
  have c109 : Fld Z h104 a "com/example/keelreach/keelreach/RedisOptions" "poolCleanerInterval" "Ljava/time/Duration;" (.ref r85) := c91.same W104
  have c110 : Fld Z h104 a "com/example/keelreach/keelreach/RedisOptions" "poolRecycleTimeout" "Ljava/time/Duration;" o_poolRecycleTimeout := c92.other W104 (Or.inr (slot_ne (Or.inl (hw _ (List.mem_of_getElem? (i := 46) rfl))) (Or.inl (hw _ (List.mem_of_getElem? (i := 43) rfl))) (by decide) (t := (.object "java/time/Duration")) (t' := (.object "java/time/Duration")) (by decide) (by decide)))
  have c111 : Fld Z h104 a "com/example/keelreach/keelreach/RedisOptions" "connectTimeout" "Ljava/time/Duration;" o_connectTimeout := c93.other W104 (Or.inr (slot_ne (Or.inl (hw _ (List.mem_of_getElem? (i := 49) rfl))) (Or.inl (hw _ (List.mem_of_getElem? (i := 43) rfl))) (by decide) (t := (.object "java/time/Duration")) (t' := (.object "java/time/Duration")) (by decide) (by decide)))
  have c112 : Fld Z h104 a "com/example/keelreach/keelreach/RedisOptions" "commandTimeout" "Ljava/time/Duration;" o_commandTimeout := c94.other W104 (Or.inr (slot_ne (Or.inl (hw _ (List.mem_of_getElem? (i := 52) rfl))) (Or.inl (hw _ (List.mem_of_getElem? (i := 43) rfl))) (by decide) (t := (.object "java/time/Duration")) (t' := (.object "java/time/Duration")) (by decide) (by decide)))
  have c113 : Fld Z h104 a "com/example/keelreach/keelreach/RedisOptions" "maxCommandsInFlight" "I" o_maxCommandsInFlight := c95.other W104 (Or.inr (slot_ne (Or.inl (hw _ (List.mem_of_getElem? (i := 54) rfl))) (Or.inl (hw _ (List.mem_of_getElem? (i := 43) rfl))) (by decide) (t := .int) (t' := (.object "java/time/Duration")) (by decide) (by decide)))
  have c114 : Fld Z h104 a "com/example/keelreach/keelreach/RedisOptions" "autoPipeliningInterval" "Ljava/time/Duration;" o_autoPipeliningInterval := c96.other W104 (Or.inr (slot_ne (Or.inl (hw _ (List.mem_of_getElem? (i := 61) rfl))) (Or.inl (hw _ (List.mem_of_getElem? (i := 43) rfl))) (by decide) (t := (.object "java/time/Duration")) (t' := (.object "java/time/Duration")) (by decide) (by decide)))
  have c115 : Fld Z h104 a "com/example/keelreach/keelreach/RedisOptions" "autoPipeliningThreshold" "I" o_autoPipeliningThreshold := c97.other W104 (Or.inr (slot_ne (Or.inl (hw _ (List.mem_of_getElem? (i := 63) rfl))) (Or.inl (hw _ (List.mem_of_getElem? (i := 43) rfl))) (by decide) (t := .int) (t' := (.object "java/time/Duration")) (by decide) (by decide)))
  have c116 : Fld Z h104 a "com/example/keelreach/keelreach/RedisOptions" "trustedCertificates" "Ljava/util/List;" o_trustedCertificates := c98.other W104 (Or.inr (slot_ne (Or.inl (hw _ (List.mem_of_getElem? (i := 71) rfl))) (Or.inl (hw _ (List.mem_of_getElem? (i := 43) rfl))) (by decide) (t := (.object "java/util/List")) (t' := (.object "java/time/Duration")) (by decide) (by decide)))
  have c117 : Fld Z h104 a "com/example/keelreach/keelreach/RedisOptions" "verifyHostName" "Z" o_verifyHostName := c99.other W104 (Or.inr (slot_ne (Or.inl (hw _ (List.mem_of_getElem? (i := 73) rfl))) (Or.inl (hw _ (List.mem_of_getElem? (i := 43) rfl))) (by decide) (t := .boolean) (t' := (.object "java/time/Duration")) (by decide) (by decide)))
  have c118 : Fld Z h104 a "com/example/keelreach/keelreach/RedisOptions" "autoPipelining" "Z" o_autoPipelining := c100.other W104 (Or.inr (slot_ne (Or.inl (hw _ (List.mem_of_getElem? (i := 105) rfl))) (Or.inl (hw _ (List.mem_of_getElem? (i := 43) rfl))) (by decide) (t := .boolean) (t' := (.object "java/time/Duration")) (by decide) (by decide)))
  have c119 : Sta Z h104 "com/example/keelreach/keelreach/ProtocolVersion" "RESP3" "Lcom/example/keelreach/keelreach/ProtocolVersion;" (.ref w_RESP3) := c101.wr W104
  have c120 : Sta Z h104 "java/time/Duration" "ZERO" "Ljava/time/Duration;" (.ref w_ZERO) := c102.wr W104
  have c121 : Sta Z h104 "java/util/ImmutableCollections" "EMPTY_LIST" "Ljava/util/ImmutableCollections$ListN;" (.ref w_EL) := c103.wr W104
  obtain ⟨v122, _, ⟨T122, L122, k122, n122⟩, -, X122, ⟨Lc122, hQ122, l122, y122, z122⟩, st122⟩ := Jvm.LawKit.callS X104 hx (y := (⟨"java/time/Duration", "ofSeconds", "(J)Ljava/time/Duration;"⟩ : MethodName)) hown (mvT hZ (hw _ (List.mem_of_getElem? (i := 24) rfl))) (mvT hZ (hw _ (List.mem_of_getElem? (i := 25) rfl))) (mvT hZ (hw _ (List.mem_of_getElem? (i := 26) rfl))) (mvT hZ (hw _ (List.mem_of_getElem? (i := 27) rfl))) (by decide) (backOf (W := 1) (rm_ofs l Z a0 hw [] (180 : Int64) h104 n0 Zs104 (by decide)) hZ (hw _ (List.mem_of_getElem? (i := 27) rfl)) (hw _ (List.mem_of_getElem? (i := 26) rfl)) (by decide) (by decide)) (g := (mkF m 37 #[.val (.ref a)] [(.long (180 : Int64)), (.ref a)])) rfl (by rw [hml]; rfl) (argsL := [(.long (180 : Int64))]) (rest := [(.ref a)]) (lenOf pd_2 rfl) rfl (by show 2 * 0 + _ ≤ _; exact Nat.le_of_eq rfl) (hb hby d2_37) (fun _ _ => ⟨rfl, e104, (by decide : 1 + 1 ≤ _), (by decide : 2 + 2 ≤ _)⟩)
  dsimp only [Pt.U, Pt.locs, Pt.cells, Pt.slots] at X122 l122 y122 z122 st122 hQ122
  subst l122 y122 z122
  obtain ⟨⟨r122, hv122⟩, N122q, M122⟩ := hQ122
  have N122 := Fr.app N104 N122q
  subst hv122
  have K123 := Keep.ext K104 M122
  have Zs123 := Nat.le_trans Zs104 (M122).1
  have c124 : Exa Z T122.heap a "com/example/keelreach/keelreach/RedisOptions" := c105.ext M122
  have c125 : Fld Z T122.heap a "com/example/keelreach/keelreach/RedisOptions" "preferredProtocolVersion" "Lcom/example/keelreach/keelreach/ProtocolVersion;" (.ref w_RESP3) := c106.ext M122
  have c126 : Fld Z T122.heap a "com/example/keelreach/keelreach/RedisOptions" "maxPoolSize" "I" (.int (6 : Int32)) := c107.ext M122
  have c127 : Fld Z T122.heap a "com/example/keelreach/keelreach/RedisOptions" "maxPoolWaiting" "I" (.int (24 : Int32)) := c108.ext M122
  have c128 : Fld Z T122.heap a "com/example/keelreach/keelreach/RedisOptions" "poolCleanerInterval" "Ljava/time/Duration;" (.ref r85) := c109.ext M122
  have c129 : Fld Z T122.heap a "com/example/keelreach/keelreach/RedisOptions" "poolRecycleTimeout" "Ljava/time/Duration;" o_poolRecycleTimeout := c110.ext M122
  have c130 : Fld Z T122.heap a "com/example/keelreach/keelreach/RedisOptions" "connectTimeout" "Ljava/time/Duration;" o_connectTimeout := c111.ext M122
  have c131 : Fld Z T122.heap a "com/example/keelreach/keelreach/RedisOptions" "commandTimeout" "Ljava/time/Duration;" o_commandTimeout := c112.ext M122
  have c132 : Fld Z T122.heap a "com/example/keelreach/keelreach/RedisOptions" "maxCommandsInFlight" "I" o_maxCommandsInFlight := c113.ext M122
  have c133 : Fld Z T122.heap a "com/example/keelreach/keelreach/RedisOptions" "autoPipeliningInterval" "Ljava/time/Duration;" o_autoPipeliningInterval := c114.ext M122
  have c134 : Fld Z T122.heap a "com/example/keelreach/keelreach/RedisOptions" "autoPipeliningThreshold" "I" o_autoPipeliningThreshold := c115.ext M122
  have c135 : Fld Z T122.heap a "com/example/keelreach/keelreach/RedisOptions" "trustedCertificates" "Ljava/util/List;" o_trustedCertificates := c116.ext M122
  have c136 : Fld Z T122.heap a "com/example/keelreach/keelreach/RedisOptions" "verifyHostName" "Z" o_verifyHostName := c117.ext M122
  have c137 : Fld Z T122.heap a "com/example/keelreach/keelreach/RedisOptions" "autoPipelining" "Z" o_autoPipelining := c118.ext M122
  have c138 : Sta Z T122.heap "com/example/keelreach/keelreach/ProtocolVersion" "RESP3" "Lcom/example/keelreach/keelreach/ProtocolVersion;" (.ref w_RESP3) := c119.ext M122
  have c139 : Sta Z T122.heap "java/time/Duration" "ZERO" "Ljava/time/Duration;" (.ref w_ZERO) := c120.ext M122
  have c140 : Sta Z T122.heap "java/util/ImmutableCollections" "EMPTY_LIST" "Ljava/util/ImmutableCollections$ListN;" (.ref w_EL) := c121.ext M122
  obtain ⟨T141, h141, X141, e141, W141, st141⟩ := putF X122 hx hZ hown (host := "") (Or.inl (hw _ (List.mem_of_getElem? (i := 45) rfl))) Via.refl rfl c129 c124 (Or.inl (hw _ (List.mem_of_getElem? (i := 46) rfl))) (hw _ (List.mem_of_getElem? (i := 6) rfl)) (ty := (.object "java/time/Duration")) (by decide) rfl rfl (g := (mkF m 40 #[.val (.ref a)] [(.ref r122), (.ref a)])) rfl rfl (hb hby d2_40)
  have N141 := Fr.snoc X141 N122 gg_a
  have K141 := Keep.wr K123 W141 (Or.inl (List.mem_of_getElem? (i := 0) rfl))
  have Zs141 := Nat.le_trans Zs123 (Keep.of_wr W141).1
  have c142 : Exa Z h141 a "com/example/keelreach/keelreach/RedisOptions" := c124.wr W141
  have c143 : Fld Z h141 a "com/example/keelreach/keelreach/RedisOptions" "preferredProtocolVersion" "Lcom/example/keelreach/keelreach/ProtocolVersion;" (.ref w_RESP3) := c125.other W141 (Or.inr (slot_ne (Or.inl (hw _ (List.mem_of_getElem? (i := 18) rfl))) (Or.inl (hw _ (List.mem_of_getElem? (i := 46) rfl))) (by decide) (t := (.object "com/example/keelreach/keelreach/ProtocolVersion")) (t' := (.object "java/time/Duration")) (by decide) (by decide)))
  have c144 : Fld Z h141 a "com/example/keelreach/keelreach/RedisOptions" "maxPoolSize" "I" (.int (6 : Int32)) := c126.other W141 (Or.inr (slot_ne (Or.inl (hw _ (List.mem_of_getElem? (i := 20) rfl))) (Or.inl (hw _ (List.mem_of_getElem? (i := 46) rfl))) (by decide) (t := .int) (t' := (.object "java/time/Duration")) (by decide) (by decide)))
  have c145 : Fld Z h141 a "com/example/keelreach/keelreach/RedisOptions" "maxPoolWaiting" "I" (.int (24 : Int32)) := c127.other W141 (Or.inr (slot_ne (Or.inl (hw _ (List.mem_of_getElem? (i := 22) rfl))) (Or.inl (hw _ (List.mem_of_getElem? (i := 46) rfl))) (by decide) (t := .int) (t' := (.object "java/time/Duration")) (by decide) (by decide)))
  have c146 : Fld Z h141 a "com/example/keelreach/keelreach/RedisOptions" "poolCleanerInterval" "Ljava/time/Duration;" (.ref r85) := c128.other W141 (Or.inr (slot_ne (Or.inl (hw _ (List.mem_of_getElem? (i := 43) rfl))) (Or.inl (hw _ (List.mem_of_getElem? (i := 46) rfl))) (by decide) (t := (.object "java/time/Duration")) (t' := (.object "java/time/Duration")) (by decide) (by decide)))
  have c147 : Fld Z h141 a "com/example/keelreach/keelreach/RedisOptions" "poolRecycleTimeout" "Ljava/time/Duration;" (.ref r122) := c129.same W141
  have c148 : Fld Z h141 a "com/example/keelreach/keelreach/RedisOptions" "connectTimeout" "Ljava/time/Duration;" o_connectTimeout := c130.other W141 (Or.inr (slot_ne (Or.inl (hw _ (List.mem_of_getElem? (i := 49) rfl))) (Or.inl (hw _ (List.mem_of_getElem? (i := 46) rfl))) (by decide) (t := (.object "java/time/Duration")) (t' := (.object "java/time/Duration")) (by decide) (by decide)))
  have c149 : Fld Z h141 a "com/example/keelreach/keelreach/RedisOptions" "commandTimeout" "Ljava/time/Duration;" o_commandTimeout := c131.other W141 (Or.inr (slot_ne (Or.inl (hw _ (List.mem_of_getElem? (i := 52) rfl))) (Or.inl (hw _ (List.mem_of_getElem? (i := 46) rfl))) (by decide) (t := (.object "java/time/Duration")) (t' := (.object "java/time/Duration")) (by decide) (by decide)))
  have c150 : Fld Z h141 a "com/example/keelreach/keelreach/RedisOptions" "maxCommandsInFlight" "I" o_maxCommandsInFlight := c132.other W141 (Or.inr (slot_ne (Or.inl (hw _ (List.mem_of_getElem? (i := 54) rfl))) (Or.inl (hw _ (List.mem_of_getElem? (i := 46) rfl))) (by decide) (t := .int) (t' := (.object "java/time/Duration")) (by decide) (by decide)))
  have c151 : Fld Z h141 a "com/example/keelreach/keelreach/RedisOptions" "autoPipeliningInterval" "Ljava/time/Duration;" o_autoPipeliningInterval := c133.other W141 (Or.inr (slot_ne (Or.inl (hw _ (List.mem_of_getElem? (i := 61) rfl))) (Or.inl (hw _ (List.mem_of_getElem? (i := 46) rfl))) (by decide) (t := (.object "java/time/Duration")) (t' := (.object "java/time/Duration")) (by decide) (by decide)))
  have c152 : Fld Z h141 a "com/example/keelreach/keelreach/RedisOptions" "autoPipeliningThreshold" "I" o_autoPipeliningThreshold := c134.other W141 (Or.inr (slot_ne (Or.inl (hw _ (List.mem_of_getElem? (i := 63) rfl))) (Or.inl (hw _ (List.mem_of_getElem? (i := 46) rfl))) (by decide) (t := .int) (t' := (.object "java/time/Duration")) (by decide) (by decide)))
  have c153 : Fld Z h141 a "com/example/keelreach/keelreach/RedisOptions" "trustedCertificates" "Ljava/util/List;" o_trustedCertificates := c135.other W141 (Or.inr (slot_ne (Or.inl (hw _ (List.mem_of_getElem? (i := 71) rfl))) (Or.inl (hw _ (List.mem_of_getElem? (i := 46) rfl))) (by decide) (t := (.object "java/util/List")) (t' := (.object "java/time/Duration")) (by decide) (by decide)))
  have c154 : Fld Z h141 a "com/example/keelreach/keelreach/RedisOptions" "verifyHostName" "Z" o_verifyHostName := c136.other W141 (Or.inr (slot_ne (Or.inl (hw _ (List.mem_of_getElem? (i := 73) rfl))) (Or.inl (hw _ (List.mem_of_getElem? (i := 46) rfl))) (by decide) (t := .boolean) (t' := (.object "java/time/Duration")) (by decide) (by decide)))
  have c155 : Fld Z h141 a "com/example/keelreach/keelreach/RedisOptions" "autoPipelining" "Z" o_autoPipelining := c137.other W141 (Or.inr (slot_ne (Or.inl (hw _ (List.mem_of_getElem? (i := 105) rfl))) (Or.inl (hw _ (List.mem_of_getElem? (i := 46) rfl))) (by decide) (t := .boolean) (t' := (.object "java/time/Duration")) (by decide) (by decide)))
  have c156 : Sta Z h141 "com/example/keelreach/keelreach/ProtocolVersion" "RESP3" "Lcom/example/keelreach/keelreach/ProtocolVersion;" (.ref w_RESP3) := c138.wr W141
  have c157 : Sta Z h141 "java/time/Duration" "ZERO" "Ljava/time/Duration;" (.ref w_ZERO) := c139.wr W141
  have c158 : Sta Z h141 "java/util/ImmutableCollections" "EMPTY_LIST" "Ljava/util/ImmutableCollections$ListN;" (.ref w_EL) := c140.wr W141
  obtain ⟨v159, _, ⟨T159, L159, k159, n159⟩, -, X159, ⟨Lc159, hQ159, l159, y159, z159⟩, st159⟩ := Jvm.LawKit.callS X141 hx (y := (⟨"java/time/Duration", "ofSeconds", "(J)Ljava/time/Duration;"⟩ : MethodName)) hown (mvT hZ (hw _ (List.mem_of_getElem? (i := 24) rfl))) (mvT hZ (hw _ (List.mem_of_getElem? (i := 25) rfl))) (mvT hZ (hw _ (List.mem_of_getElem? (i := 26) rfl))) (mvT hZ (hw _ (List.mem_of_getElem? (i := 27) rfl))) (by decide) (backOf (W := 1) (rm_ofs l Z a0 hw [] (10 : Int64) h141 n0 Zs141 (by decide)) hZ (hw _ (List.mem_of_getElem? (i := 27) rfl)) (hw _ (List.mem_of_getElem? (i := 26) rfl)) (by decide) (by decide)) (g := (mkF m 47 #[.val (.ref a)] [(.long (10 : Int64)), (.ref a)])) rfl (by rw [hml]; rfl) (argsL := [(.long (10 : Int64))]) (rest := [(.ref a)]) (lenOf pd_2 rfl) rfl (by show 2 * 0 + _ ≤ _; exact Nat.le_of_eq rfl) (hb hby d2_47) (fun _ _ => ⟨rfl, e141, (by decide : 2 + 1 ≤ _), (by decide : 4 + 2 ≤ _)⟩)
  dsimp only [Pt.U, Pt.locs, Pt.cells, Pt.slots] at X159 l159 y159 z159 st159 hQ159
  subst l159 y159 z159
  obtain ⟨⟨r159, hv159⟩, N159q, M159⟩ := hQ159
  have N159 := Fr.app N141 N159q
  subst hv159
  have K160 := Keep.ext K141 M159
  have Zs160 := Nat.le_trans Zs141 (M159).1
  have c161 : Exa Z T159.heap a "com/example/keelreach/keelreach/RedisOptions" := c142.ext M159
  have c162 : Fld Z T159.heap a "com/example/keelreach/keelreach/RedisOptions" "preferredProtocolVersion" "Lcom/example/keelreach/keelreach/ProtocolVersion;" (.ref w_RESP3) := c143.ext M159
  have c163 : Fld Z T159.heap a "com/example/keelreach/keelreach/RedisOptions" "maxPoolSize" "I" (.int (6 : Int32)) := c144.ext M159
  have c164 : Fld Z T159.heap a "com/example/keelreach/keelreach/RedisOptions" "maxPoolWaiting" "I" (.int (24 : Int32)) := c145.ext M159
  have c165 : Fld Z T159.heap a "com/example/keelreach/keelreach/RedisOptions" "poolCleanerInterval" "Ljava/time/Duration;" (.ref r85) := c146.ext M159
  have c166 : Fld Z T159.heap a "com/example/keelreach/keelreach/RedisOptions" "poolRecycleTimeout" "Ljava/time/Duration;" (.ref r122) := c147.ext M159
  have c167 : Fld Z T159.heap a "com/example/keelreach/keelreach/RedisOptions" "connectTimeout" "Ljava/time/Duration;" o_connectTimeout := c148.ext M159
  have c168 : Fld Z T159.heap a "com/example/keelreach/keelreach/RedisOptions" "commandTimeout" "Ljava/time/Duration;" o_commandTimeout := c149.ext M159
  have c169 : Fld Z T159.heap a "com/example/keelreach/keelreach/RedisOptions" "maxCommandsInFlight" "I" o_maxCommandsInFlight := c150.ext M159
  have c170 : Fld Z T159.heap a "com/example/keelreach/keelreach/RedisOptions" "autoPipeliningInterval" "Ljava/time/Duration;" o_autoPipeliningInterval := c151.ext M159
  have c171 : Fld Z T159.heap a "com/example/keelreach/keelreach/RedisOptions" "autoPipeliningThreshold" "I" o_autoPipeliningThreshold := c152.ext M159
  have c172 : Fld Z T159.heap a "com/example/keelreach/keelreach/RedisOptions" "trustedCertificates" "Ljava/util/List;" o_trustedCertificates := c153.ext M159
  have c173 : Fld Z T159.heap a "com/example/keelreach/keelreach/RedisOptions" "verifyHostName" "Z" o_verifyHostName := c154.ext M159
  have c174 : Fld Z T159.heap a "com/example/keelreach/keelreach/RedisOptions" "autoPipelining" "Z" o_autoPipelining := c155.ext M159
  have c175 : Sta Z T159.heap "com/example/keelreach/keelreach/ProtocolVersion" "RESP3" "Lcom/example/keelreach/keelreach/ProtocolVersion;" (.ref w_RESP3) := c156.ext M159
  have c176 : Sta Z T159.heap "java/time/Duration" "ZERO" "Ljava/time/Duration;" (.ref w_ZERO) := c157.ext M159
  have c177 : Sta Z T159.heap "java/util/ImmutableCollections" "EMPTY_LIST" "Ljava/util/ImmutableCollections$ListN;" (.ref w_EL) := c158.ext M159
  obtain ⟨T178, h178, X178, e178, W178, st178⟩ := putF X159 hx hZ hown (host := "") (Or.inl (hw _ (List.mem_of_getElem? (i := 48) rfl))) Via.refl rfl c167 c161 (Or.inl (hw _ (List.mem_of_getElem? (i := 49) rfl))) (hw _ (List.mem_of_getElem? (i := 6) rfl)) (ty := (.object "java/time/Duration")) (by decide) rfl rfl (g := (mkF m 50 #[.val (.ref a)] [(.ref r159), (.ref a)])) rfl rfl (hb hby d2_50)
  have N178 := Fr.snoc X178 N159 gg_a
  have K178 := Keep.wr K160 W178 (Or.inl (List.mem_of_getElem? (i := 0) rfl))
  have Zs178 := Nat.le_trans Zs160 (Keep.of_wr W178).1
  have c179 : Exa Z h178 a "com/example/keelreach/keelreach/RedisOptions" := c161.wr W178
  have c180 : Fld Z h178 a "com/example/keelreach/keelreach/RedisOptions" "preferredProtocolVersion" "Lcom/example/keelreach/keelreach/ProtocolVersion;" (.ref w_RESP3) := c162.other W178 (Or.inr (slot_ne (Or.inl (hw _ (List.mem_of_getElem? (i := 18) rfl))) (Or.inl (hw _ (List.mem_of_getElem? (i := 49) rfl))) (by decide) (t := (.object "com/example/keelreach/keelreach/ProtocolVersion")) (t' := (.object "java/time/Duration")) (by decide) (by decide)))
  have c181 : Fld Z h178 a "com/example/keelreach/keelreach/RedisOptions" "maxPoolSize" "I" (.int (6 : Int32)) := c163.other W178 (Or.inr (slot_ne (Or.inl (hw _ (List.mem_of_getElem? (i := 20) rfl))) (Or.inl (hw _ (List.mem_of_getElem? (i := 49) rfl))) (by decide) (t := .int) (t' := (.object "java/time/Duration")) (by decide) (by decide)))
  have c182 : Fld Z h178 a "com/example/keelreach/keelreach/RedisOptions" "maxPoolWaiting" "I" (.int (24 : Int32)) := c164.other W178 (Or.inr (slot_ne (Or.inl (hw _ (List.mem_of_getElem? (i := 22) rfl))) (Or.inl (hw _ (List.mem_of_getElem? (i := 49) rfl))) (by decide) (t := .int) (t' := (.object "java/time/Duration")) (by decide) (by decide)))
  have c183 : Fld Z h178 a "com/example/keelreach/keelreach/RedisOptions" "poolCleanerInterval" "Ljava/time/Duration;" (.ref r85) := c165.other W178 (Or.inr (slot_ne (Or.inl (hw _ (List.mem_of_getElem? (i := 43) rfl))) (Or.inl (hw _ (List.mem_of_getElem? (i := 49) rfl))) (by decide) (t := (.object "java/time/Duration")) (t' := (.object "java/time/Duration")) (by decide) (by decide)))
  have c184 : Fld Z h178 a "com/example/keelreach/keelreach/RedisOptions" "poolRecycleTimeout" "Ljava/time/Duration;" (.ref r122) := c166.other W178 (Or.inr (slot_ne (Or.inl (hw _ (List.mem_of_getElem? (i := 46) rfl))) (Or.inl (hw _ (List.mem_of_getElem? (i := 49) rfl))) (by decide) (t := (.object "java/time/Duration")) (t' := (.object "java/time/Duration")) (by decide) (by decide)))
  have c185 : Fld Z h178 a "com/example/keelreach/keelreach/RedisOptions" "connectTimeout" "Ljava/time/Duration;" (.ref r159) := c167.same W178
  have c186 : Fld Z h178 a "com/example/keelreach/keelreach/RedisOptions" "commandTimeout" "Ljava/time/Duration;" o_commandTimeout := c168.other W178 (Or.inr (slot_ne (Or.inl (hw _ (List.mem_of_getElem? (i := 52) rfl))) (Or.inl (hw _ (List.mem_of_getElem? (i := 49) rfl))) (by decide) (t := (.object "java/time/Duration")) (t' := (.object "java/time/Duration")) (by decide) (by decide)))
  have c187 : Fld Z h178 a "com/example/keelreach/keelreach/RedisOptions" "maxCommandsInFlight" "I" o_maxCommandsInFlight := c169.other W178 (Or.inr (slot_ne (Or.inl (hw _ (List.mem_of_getElem? (i := 54) rfl))) (Or.inl (hw _ (List.mem_of_getElem? (i := 49) rfl))) (by decide) (t := .int) (t' := (.object "java/time/Duration")) (by decide) (by decide)))
  have c188 : Fld Z h178 a "com/example/keelreach/keelreach/RedisOptions" "autoPipeliningInterval" "Ljava/time/Duration;" o_autoPipeliningInterval := c170.other W178 (Or.inr (slot_ne (Or.inl (hw _ (List.mem_of_getElem? (i := 61) rfl))) (Or.inl (hw _ (List.mem_of_getElem? (i := 49) rfl))) (by decide) (t := (.object "java/time/Duration")) (t' := (.object "java/time/Duration")) (by decide) (by decide)))
  have c189 : Fld Z h178 a "com/example/keelreach/keelreach/RedisOptions" "autoPipeliningThreshold" "I" o_autoPipeliningThreshold := c171.other W178 (Or.inr (slot_ne (Or.inl (hw _ (List.mem_of_getElem? (i := 63) rfl))) (Or.inl (hw _ (List.mem_of_getElem? (i := 49) rfl))) (by decide) (t := .int) (t' := (.object "java/time/Duration")) (by decide) (by decide)))
  have c190 : Fld Z h178 a "com/example/keelreach/keelreach/RedisOptions" "trustedCertificates" "Ljava/util/List;" o_trustedCertificates := c172.other W178 (Or.inr (slot_ne (Or.inl (hw _ (List.mem_of_getElem? (i := 71) rfl))) (Or.inl (hw _ (List.mem_of_getElem? (i := 49) rfl))) (by decide) (t := (.object "java/util/List")) (t' := (.object "java/time/Duration")) (by decide) (by decide)))
  have c191 : Fld Z h178 a "com/example/keelreach/keelreach/RedisOptions" "verifyHostName" "Z" o_verifyHostName := c173.other W178 (Or.inr (slot_ne (Or.inl (hw _ (List.mem_of_getElem? (i := 73) rfl))) (Or.inl (hw _ (List.mem_of_getElem? (i := 49) rfl))) (by decide) (t := .boolean) (t' := (.object "java/time/Duration")) (by decide) (by decide)))
  have c192 : Fld Z h178 a "com/example/keelreach/keelreach/RedisOptions" "autoPipelining" "Z" o_autoPipelining := c174.other W178 (Or.inr (slot_ne (Or.inl (hw _ (List.mem_of_getElem? (i := 105) rfl))) (Or.inl (hw _ (List.mem_of_getElem? (i := 49) rfl))) (by decide) (t := .boolean) (t' := (.object "java/time/Duration")) (by decide) (by decide)))
  have c193 : Sta Z h178 "com/example/keelreach/keelreach/ProtocolVersion" "RESP3" "Lcom/example/keelreach/keelreach/ProtocolVersion;" (.ref w_RESP3) := c175.wr W178
  have c194 : Sta Z h178 "java/time/Duration" "ZERO" "Ljava/time/Duration;" (.ref w_ZERO) := c176.wr W178
  have c195 : Sta Z h178 "java/util/ImmutableCollections" "EMPTY_LIST" "Ljava/util/ImmutableCollections$ListN;" (.ref w_EL) := c177.wr W178
  obtain ⟨T196, X196, e196, st196⟩ := getS2 X178 hx hZ hown (host := "") (Or.inl (hw _ (List.mem_of_getElem? (i := 50) rfl))) Via.refl e178 c194 (g := (mkF m 54 #[.val (.ref a)] [(.ref a)])) rfl (hb hby d2_54)
  obtain ⟨T197, h197, X197, e197, W197, st197⟩ := putF X196 hx hZ hown (host := "") (Or.inl (hw _ (List.mem_of_getElem? (i := 51) rfl))) Via.refl e196 c186 c179 (Or.inl (hw _ (List.mem_of_getElem? (i := 52) rfl))) (hw _ (List.mem_of_getElem? (i := 6) rfl)) (ty := (.object "java/time/Duration")) (by decide) rfl rfl (g := (mkF m 57 #[.val (.ref a)] [(.ref w_ZERO), (.ref a)])) rfl rfl (hb hby d2_57)
  have N197 := Fr.snoc X197 N178 gg_a
  have K197 := Keep.wr K178 W197 (Or.inl (List.mem_of_getElem? (i := 0) rfl))
  have Zs197 := Nat.le_trans Zs178 (Keep.of_wr W197).1
  have c198 : Exa Z h197 a "com/example/keelreach/keelreach/RedisOptions" := c179.wr W197
  have c199 : Fld Z h197 a "com/example/keelreach/keelreach/RedisOptions" "preferredProtocolVersion" "Lcom/example/keelreach/keelreach/ProtocolVersion;" (.ref w_RESP3) := c180.other W197 (Or.inr (slot_ne (Or.inl (hw _ (List.mem_of_getElem? (i := 18) rfl))) (Or.inl (hw _ (List.mem_of_getElem? (i := 52) rfl))) (by decide) (t := (.object "com/example/keelreach/keelreach/ProtocolVersion")) (t' := (.object "java/time/Duration")) (by decide) (by decide)))
  have c200 : Fld Z h197 a "com/example/keelreach/keelreach/RedisOptions" "maxPoolSize" "I" (.int (6 : Int32)) := c181.other W197 (Or.inr (slot_ne (Or.inl (hw _ (List.mem_of_getElem? (i := 20) rfl))) (Or.inl (hw _ (List.mem_of_getElem? (i := 52) rfl))) (by decide) (t := .int) (t' := (.object "java/time/Duration")) (by decide) (by decide)))
  have c201 : Fld Z h197 a "com/example/keelreach/keelreach/RedisOptions" "maxPoolWaiting" "I" (.int (24 : Int32)) := c182.other W197 (Or.inr (slot_ne (Or.inl (hw _ (List.mem_of_getElem? (i := 22) rfl))) (Or.inl (hw _ (List.mem_of_getElem? (i := 52) rfl))) (by decide) (t := .int) (t' := (.object "java/time/Duration")) (by decide) (by decide)))
  have c202 : Fld Z h197 a "com/example/keelreach/keelreach/RedisOptions" "poolCleanerInterval" "Ljava/time/Duration;" (.ref r85) := c183.other W197 (Or.inr (slot_ne (Or.inl (hw _ (List.mem_of_getElem? (i := 43) rfl))) (Or.inl (hw _ (List.mem_of_getElem? (i := 52) rfl))) (by decide) (t := (.object "java/time/Duration")) (t' := (.object "java/time/Duration")) (by decide) (by decide)))
  have c203 : Fld Z h197 a "com/example/keelreach/keelreach/RedisOptions" "poolRecycleTimeout" "Ljava/time/Duration;" (.ref r122) := c184.other W197 (Or.inr (slot_ne (Or.inl (hw _ (List.mem_of_getElem? (i := 46) rfl))) (Or.inl (hw _ (List.mem_of_getElem? (i := 52) rfl))) (by decide) (t := (.object "java/time/Duration")) (t' := (.object "java/time/Duration")) (by decide) (by decide)))
  have c204 : Fld Z h197 a "com/example/keelreach/keelreach/RedisOptions" "connectTimeout" "Ljava/time/Duration;" (.ref r159) := c185.other W197 (Or.inr (slot_ne (Or.inl (hw _ (List.mem_of_getElem? (i := 49) rfl))) (Or.inl (hw _ (List.mem_of_getElem? (i := 52) rfl))) (by decide) (t := (.object "java/time/Duration")) (t' := (.object "java/time/Duration")) (by decide) (by decide)))
  have c205 : Fld Z h197 a "com/example/keelreach/keelreach/RedisOptions" "commandTimeout" "Ljava/time/Duration;" (.ref w_ZERO) := c186.same W197
  have c206 : Fld Z h197 a "com/example/keelreach/keelreach/RedisOptions" "maxCommandsInFlight" "I" o_maxCommandsInFlight := c187.other W197 (Or.inr (slot_ne (Or.inl (hw _ (List.mem_of_getElem? (i := 54) rfl))) (Or.inl (hw _ (List.mem_of_getElem? (i := 52) rfl))) (by decide) (t := .int) (t' := (.object "java/time/Duration")) (by decide) (by decide)))
  have c207 : Fld Z h197 a "com/example/keelreach/keelreach/RedisOptions" "autoPipeliningInterval" "Ljava/time/Duration;" o_autoPipeliningInterval := c188.other W197 (Or.inr (slot_ne (Or.inl (hw _ (List.mem_of_getElem? (i := 61) rfl))) (Or.inl (hw _ (List.mem_of_getElem? (i := 52) rfl))) (by decide) (t := (.object "java/time/Duration")) (t' := (.object "java/time/Duration")) (by decide) (by decide)))
  have c208 : Fld Z h197 a "com/example/keelreach/keelreach/RedisOptions" "autoPipeliningThreshold" "I" o_autoPipeliningThreshold := c189.other W197 (Or.inr (slot_ne (Or.inl (hw _ (List.mem_of_getElem? (i := 63) rfl))) (Or.inl (hw _ (List.mem_of_getElem? (i := 52) rfl))) (by decide) (t := .int) (t' := (.object "java/time/Duration")) (by decide) (by decide)))
  have c209 : Fld Z h197 a "com/example/keelreach/keelreach/RedisOptions" "trustedCertificates" "Ljava/util/List;" o_trustedCertificates := c190.other W197 (Or.inr (slot_ne (Or.inl (hw _ (List.mem_of_getElem? (i := 71) rfl))) (Or.inl (hw _ (List.mem_of_getElem? (i := 52) rfl))) (by decide) (t := (.object "java/util/List")) (t' := (.object "java/time/Duration")) (by decide) (by decide)))
  have c210 : Fld Z h197 a "com/example/keelreach/keelreach/RedisOptions" "verifyHostName" "Z" o_verifyHostName := c191.other W197 (Or.inr (slot_ne (Or.inl (hw _ (List.mem_of_getElem? (i := 73) rfl))) (Or.inl (hw _ (List.mem_of_getElem? (i := 52) rfl))) (by decide) (t := .boolean) (t' := (.object "java/time/Duration")) (by decide) (by decide)))
  have c211 : Fld Z h197 a "com/example/keelreach/keelreach/RedisOptions" "autoPipelining" "Z" o_autoPipelining := c192.other W197 (Or.inr (slot_ne (Or.inl (hw _ (List.mem_of_getElem? (i := 105) rfl))) (Or.inl (hw _ (List.mem_of_getElem? (i := 52) rfl))) (by decide) (t := .boolean) (t' := (.object "java/time/Duration")) (by decide) (by decide)))
  have c212 : Sta Z h197 "com/example/keelreach/keelreach/ProtocolVersion" "RESP3" "Lcom/example/keelreach/keelreach/ProtocolVersion;" (.ref w_RESP3) := c193.wr W197
  have c213 : Sta Z h197 "java/time/Duration" "ZERO" "Ljava/time/Duration;" (.ref w_ZERO) := c194.wr W197
  have c214 : Sta Z h197 "java/util/ImmutableCollections" "EMPTY_LIST" "Ljava/util/ImmutableCollections$ListN;" (.ref w_EL) := c195.wr W197
  obtain ⟨T215, h215, X215, e215, W215, st215⟩ := putF X197 hx hZ hown (host := "") (Or.inl (hw _ (List.mem_of_getElem? (i := 53) rfl))) Via.refl e197 c206 c198 (Or.inl (hw _ (List.mem_of_getElem? (i := 54) rfl))) (hw _ (List.mem_of_getElem? (i := 6) rfl)) (ty := .int) (by decide) rfl rfl (g := (mkF m 64 #[.val (.ref a)] [(.int (10000 : Int32)), (.ref a)])) rfl rfl (hb hby d2_64)
  have N215 := Fr.snoc X215 N197 gg_a
  have K215 := Keep.wr K197 W215 (Or.inl (List.mem_of_getElem? (i := 0) rfl))
  have Zs215 := Nat.le_trans Zs197 (Keep.of_wr W215).1
  have c216 : Exa Z h215 a "com/example/keelreach/keelreach/RedisOptions" := c198.wr W215
  have c217 : Fld Z h215 a "com/example/keelreach/keelreach/RedisOptions" "preferredProtocolVersion" "Lcom/example/keelreach/keelreach/ProtocolVersion;" (.ref w_RESP3) := c199.other W215 (Or.inr (slot_ne (Or.inl (hw _ (List.mem_of_getElem? (i := 18) rfl))) (Or.inl (hw _ (List.mem_of_getElem? (i := 54) rfl))) (by decide) (t := (.object "com/example/keelreach/keelreach/ProtocolVersion")) (t' := .int) (by decide) (by decide)))
  have c218 : Fld Z h215 a "com/example/keelreach/keelreach/RedisOptions" "maxPoolSize" "I" (.int (6 : Int32)) := c200.other W215 (Or.inr (slot_ne (Or.inl (hw _ (List.mem_of_getElem? (i := 20) rfl))) (Or.inl (hw _ (List.mem_of_getElem? (i := 54) rfl))) (by decide) (t := .int) (t' := .int) (by decide) (by decide)))
  have c219 : Fld Z h215 a "com/example/keelreach/keelreach/RedisOptions" "maxPoolWaiting" "I" (.int (24 : Int32)) := c201.other W215 (Or.inr (slot_ne (Or.inl (hw _ (List.mem_of_getElem? (i := 22) rfl))) (Or.inl (hw _ (List.mem_of_getElem? (i := 54) rfl))) (by decide) (t := .int) (t' := .int) (by decide) (by decide)))
  have c220 : Fld Z h215 a "com/example/keelreach/keelreach/RedisOptions" "poolCleanerInterval" "Ljava/time/Duration;" (.ref r85) := c202.other W215 (Or.inr (slot_ne (Or.inl (hw _ (List.mem_of_getElem? (i := 43) rfl))) (Or.inl (hw _ (List.mem_of_getElem? (i := 54) rfl))) (by decide) (t := (.object "java/time/Duration")) (t' := .int) (by decide) (by decide)))
  have c221 : Fld Z h215 a "com/example/keelreach/keelreach/RedisOptions" "poolRecycleTimeout" "Ljava/time/Duration;" (.ref r122) := c203.other W215 (Or.inr (slot_ne (Or.inl (hw _ (List.mem_of_getElem? (i := 46) rfl))) (Or.inl (hw _ (List.mem_of_getElem? (i := 54) rfl))) (by decide) (t := (.object "java/time/Duration")) (t' := .int) (by decide) (by decide)))
  have c222 : Fld Z h215 a "com/example/keelreach/keelreach/RedisOptions" "connectTimeout" "Ljava/time/Duration;" (.ref r159) := c204.other W215 (Or.inr (slot_ne (Or.inl (hw _ (List.mem_of_getElem? (i := 49) rfl))) (Or.inl (hw _ (List.mem_of_getElem? (i := 54) rfl))) (by decide) (t := (.object "java/time/Duration")) (t' := .int) (by decide) (by decide)))
  have c223 : Fld Z h215 a "com/example/keelreach/keelreach/RedisOptions" "commandTimeout" "Ljava/time/Duration;" (.ref w_ZERO) := c205.other W215 (Or.inr (slot_ne (Or.inl (hw _ (List.mem_of_getElem? (i := 52) rfl))) (Or.inl (hw _ (List.mem_of_getElem? (i := 54) rfl))) (by decide) (t := (.object "java/time/Duration")) (t' := .int) (by decide) (by decide)))
  have c224 : Fld Z h215 a "com/example/keelreach/keelreach/RedisOptions" "maxCommandsInFlight" "I" (.int (10000 : Int32)) := c206.same W215
  have c225 : Fld Z h215 a "com/example/keelreach/keelreach/RedisOptions" "autoPipeliningInterval" "Ljava/time/Duration;" o_autoPipeliningInterval := c207.other W215 (Or.inr (slot_ne (Or.inl (hw _ (List.mem_of_getElem? (i := 61) rfl))) (Or.inl (hw _ (List.mem_of_getElem? (i := 54) rfl))) (by decide) (t := (.object "java/time/Duration")) (t' := .int) (by decide) (by decide)))
  have c226 : Fld Z h215 a "com/example/keelreach/keelreach/RedisOptions" "autoPipeliningThreshold" "I" o_autoPipeliningThreshold := c208.other W215 (Or.inr (slot_ne (Or.inl (hw _ (List.mem_of_getElem? (i := 63) rfl))) (Or.inl (hw _ (List.mem_of_getElem? (i := 54) rfl))) (by decide) (t := .int) (t' := .int) (by decide) (by decide)))
  have c227 : Fld Z h215 a "com/example/keelreach/keelreach/RedisOptions" "trustedCertificates" "Ljava/util/List;" o_trustedCertificates := c209.other W215 (Or.inr (slot_ne (Or.inl (hw _ (List.mem_of_getElem? (i := 71) rfl))) (Or.inl (hw _ (List.mem_of_getElem? (i := 54) rfl))) (by decide) (t := (.object "java/util/List")) (t' := .int) (by decide) (by decide)))
  have c228 : Fld Z h215 a "com/example/keelreach/keelreach/RedisOptions" "verifyHostName" "Z" o_verifyHostName := c210.other W215 (Or.inr (slot_ne (Or.inl (hw _ (List.mem_of_getElem? (i := 73) rfl))) (Or.inl (hw _ (List.mem_of_getElem? (i := 54) rfl))) (by decide) (t := .boolean) (t' := .int) (by decide) (by decide)))
  have c229 : Fld Z h215 a "com/example/keelreach/keelreach/RedisOptions" "autoPipelining" "Z" o_autoPipelining := c211.other W215 (Or.inr (slot_ne (Or.inl (hw _ (List.mem_of_getElem? (i := 105) rfl))) (Or.inl (hw _ (List.mem_of_getElem? (i := 54) rfl))) (by decide) (t := .boolean) (t' := .int) (by decide) (by decide)))
  have c230 : Sta Z h215 "com/example/keelreach/keelreach/ProtocolVersion" "RESP3" "Lcom/example/keelreach/keelreach/ProtocolVersion;" (.ref w_RESP3) := c212.wr W215
  have c231 : Sta Z h215 "java/time/Duration" "ZERO" "Ljava/time/Duration;" (.ref w_ZERO) := c213.wr W215
  have c232 : Sta Z h215 "java/util/ImmutableCollections" "EMPTY_LIST" "Ljava/util/ImmutableCollections$ListN;" (.ref w_EL) := c214.wr W215
  obtain ⟨v233, _, ⟨T233, L233, k233, n233⟩, -, X233, ⟨Lc233, hQ233, l233, y233, z233⟩, st233⟩ := Jvm.LawKit.callS X215 hx (y := (⟨"java/time/Duration", "ofMillis", "(J)Ljava/time/Duration;"⟩ : MethodName)) hown (mvT hZ (hw _ (List.mem_of_getElem? (i := 55) rfl))) (mvT hZ (hw _ (List.mem_of_getElem? (i := 56) rfl))) (mvT hZ (hw _ (List.mem_of_getElem? (i := 26) rfl))) (mvT hZ (hw _ (List.mem_of_getElem? (i := 57) rfl))) (by decide) (backOf (W := 1) (rm_ofm l Z a0 hw []  h215 n0 Zs215 ) hZ (hw _ (List.mem_of_getElem? (i := 57) rfl)) (hw _ (List.mem_of_getElem? (i := 26) rfl)) (by decide) (by decide)) (g := (mkF m 69 #[.val (.ref a)] [(.long (1 : Int64)), (.ref a)])) rfl (by rw [hml]; rfl) (argsL := [(.long (1 : Int64))]) (rest := [(.ref a)]) (lenOf pd_2 rfl) rfl (by show 2 * 0 + _ ≤ _; exact Nat.le_of_eq rfl) (hb hby d2_69) (fun _ _ => ⟨rfl, e215, (by decide : 3 + 1 ≤ _), (by decide : 6 + 2 ≤ _)⟩)
  dsimp only [Pt.U, Pt.locs, Pt.cells, Pt.slots] at X233 l233 y233 z233 st233 hQ233
  subst l233 y233 z233
  obtain ⟨⟨r233, hv233⟩, N233q, M233⟩ := hQ233
  have N233 := Fr.app N215 N233q
  subst hv233
  have K234 := Keep.ext K215 M233
  have Zs234 := Nat.le_trans Zs215 (M233).1
  have c235 : Exa Z T233.heap a "com/example/keelreach/keelreach/RedisOptions" := c216.ext M233
  have c236 : Fld Z T233.heap a "com/example/keelreach/keelreach/RedisOptions" "preferredProtocolVersion" "Lcom/example/keelreach/keelreach/ProtocolVersion;" (.ref w_RESP3) := c217.ext M233
  have c237 : Fld Z T233.heap a "com/example/keelreach/keelreach/RedisOptions" "maxPoolSize" "I" (.int (6 : Int32)) := c218.ext M233
  have c238 : Fld Z T233.heap a "com/example/keelreach/keelreach/RedisOptions" "maxPoolWaiting" "I" (.int (24 : Int32)) := c219.ext M233
  have c239 : Fld Z T233.heap a "com/example/keelreach/keelreach/RedisOptions" "poolCleanerInterval" "Ljava/time/Duration;" (.ref r85) := c220.ext M233
  have c240 : Fld Z T233.heap a "com/example/keelreach/keelreach/RedisOptions" "poolRecycleTimeout" "Ljava/time/Duration;" (.ref r122) := c221.ext M233
  have c241 : Fld Z T233.heap a "com/example/keelreach/keelreach/RedisOptions" "connectTimeout" "Ljava/time/Duration;" (.ref r159) := c222.ext M233
  have c242 : Fld Z T233.heap a "com/example/keelreach/keelreach/RedisOptions" "commandTimeout" "Ljava/time/Duration;" (.ref w_ZERO) := c223.ext M233
  have c243 : Fld Z T233.heap a "com/example/keelreach/keelreach/RedisOptions" "maxCommandsInFlight" "I" (.int (10000 : Int32)) := c224.ext M233
  have c244 : Fld Z T233.heap a "com/example/keelreach/keelreach/RedisOptions" "autoPipeliningInterval" "Ljava/time/Duration;" o_autoPipeliningInterval := c225.ext M233
  have c245 : Fld Z T233.heap a "com/example/keelreach/keelreach/RedisOptions" "autoPipeliningThreshold" "I" o_autoPipeliningThreshold := c226.ext M233
  have c246 : Fld Z T233.heap a "com/example/keelreach/keelreach/RedisOptions" "trustedCertificates" "Ljava/util/List;" o_trustedCertificates := c227.ext M233
  have c247 : Fld Z T233.heap a "com/example/keelreach/keelreach/RedisOptions" "verifyHostName" "Z" o_verifyHostName := c228.ext M233
  have c248 : Fld Z T233.heap a "com/example/keelreach/keelreach/RedisOptions" "autoPipelining" "Z" o_autoPipelining := c229.ext M233
  have c249 : Sta Z T233.heap "com/example/keelreach/keelreach/ProtocolVersion" "RESP3" "Lcom/example/keelreach/keelreach/ProtocolVersion;" (.ref w_RESP3) := c230.ext M233
  have c250 : Sta Z T233.heap "java/time/Duration" "ZERO" "Ljava/time/Duration;" (.ref w_ZERO) := c231.ext M233
  have c251 : Sta Z T233.heap "java/util/ImmutableCollections" "EMPTY_LIST" "Ljava/util/ImmutableCollections$ListN;" (.ref w_EL) := c232.ext M233
  obtain ⟨T252, h252, X252, e252, W252, st252⟩ := putF X233 hx hZ hown (host := "") (Or.inl (hw _ (List.mem_of_getElem? (i := 60) rfl))) Via.refl rfl c244 c235 (Or.inl (hw _ (List.mem_of_getElem? (i := 61) rfl))) (hw _ (List.mem_of_getElem? (i := 6) rfl)) (ty := (.object "java/time/Duration")) (by decide) rfl rfl (g := (mkF m 72 #[.val (.ref a)] [(.ref r233), (.ref a)])) rfl rfl (hb hby d2_72)
  have N252 := Fr.snoc X252 N233 gg_a
  have K252 := Keep.wr K234 W252 (Or.inl (List.mem_of_getElem? (i := 0) rfl))
  have Zs252 := Nat.le_trans Zs234 (Keep.of_wr W252).1
  have c253 : Exa Z h252 a "com/example/keelreach/keelreach/RedisOptions" := c235.wr W252
  have c254 : Fld Z h252 a "com/example/keelreach/keelreach/RedisOptions" "preferredProtocolVersion" "Lcom/example/keelreach/keelreach/ProtocolVersion;" (.ref w_RESP3) := c236.other W252 (Or.inr (slot_ne (Or.inl (hw _ (List.mem_of_getElem? (i := 18) rfl))) (Or.inl (hw _ (List.mem_of_getElem? (i := 61) rfl))) (by decide) (t := (.object "com/example/keelreach/keelreach/ProtocolVersion")) (t' := (.object "java/time/Duration")) (by decide) (by decide)))
  have c255 : Fld Z h252 a "com/example/keelreach/keelreach/RedisOptions" "maxPoolSize" "I" (.int (6 : Int32)) := c237.other W252 (Or.inr (slot_ne (Or.inl (hw _ (List.mem_of_getElem? (i := 20) rfl))) (Or.inl (hw _ (List.mem_of_getElem? (i := 61) rfl))) (by decide) (t := .int) (t' := (.object "java/time/Duration")) (by decide) (by decide)))
  have c256 : Fld Z h252 a "com/example/keelreach/keelreach/RedisOptions" "maxPoolWaiting" "I" (.int (24 : Int32)) := c238.other W252 (Or.inr (slot_ne (Or.inl (hw _ (List.mem_of_getElem? (i := 22) rfl))) (Or.inl (hw _ (List.mem_of_getElem? (i := 61) rfl))) (by decide) (t := .int) (t' := (.object "java/time/Duration")) (by decide) (by decide)))
  have c257 : Fld Z h252 a "com/example/keelreach/keelreach/RedisOptions" "poolCleanerInterval" "Ljava/time/Duration;" (.ref r85) := c239.other W252 (Or.inr (slot_ne (Or.inl (hw _ (List.mem_of_getElem? (i := 43) rfl))) (Or.inl (hw _ (List.mem_of_getElem? (i := 61) rfl))) (by decide) (t := (.object "java/time/Duration")) (t' := (.object "java/time/Duration")) (by decide) (by decide)))
  have c258 : Fld Z h252 a "com/example/keelreach/keelreach/RedisOptions" "poolRecycleTimeout" "Ljava/time/Duration;" (.ref r122) := c240.other W252 (Or.inr (slot_ne (Or.inl (hw _ (List.mem_of_getElem? (i := 46) rfl))) (Or.inl (hw _ (List.mem_of_getElem? (i := 61) rfl))) (by decide) (t := (.object "java/time/Duration")) (t' := (.object "java/time/Duration")) (by decide) (by decide)))
  have c259 : Fld Z h252 a "com/example/keelreach/keelreach/RedisOptions" "connectTimeout" "Ljava/time/Duration;" (.ref r159) := c241.other W252 (Or.inr (slot_ne (Or.inl (hw _ (List.mem_of_getElem? (i := 49) rfl))) (Or.inl (hw _ (List.mem_of_getElem? (i := 61) rfl))) (by decide) (t := (.object "java/time/Duration")) (t' := (.object "java/time/Duration")) (by decide) (by decide)))
  have c260 : Fld Z h252 a "com/example/keelreach/keelreach/RedisOptions" "commandTimeout" "Ljava/time/Duration;" (.ref w_ZERO) := c242.other W252 (Or.inr (slot_ne (Or.inl (hw _ (List.mem_of_getElem? (i := 52) rfl))) (Or.inl (hw _ (List.mem_of_getElem? (i := 61) rfl))) (by decide) (t := (.object "java/time/Duration")) (t' := (.object "java/time/Duration")) (by decide) (by decide)))
  have c261 : Fld Z h252 a "com/example/keelreach/keelreach/RedisOptions" "maxCommandsInFlight" "I" (.int (10000 : Int32)) := c243.other W252 (Or.inr (slot_ne (Or.inl (hw _ (List.mem_of_getElem? (i := 54) rfl))) (Or.inl (hw _ (List.mem_of_getElem? (i := 61) rfl))) (by decide) (t := .int) (t' := (.object "java/time/Duration")) (by decide) (by decide)))
  have c262 : Fld Z h252 a "com/example/keelreach/keelreach/RedisOptions" "autoPipeliningInterval" "Ljava/time/Duration;" (.ref r233) := c244.same W252
  have c263 : Fld Z h252 a "com/example/keelreach/keelreach/RedisOptions" "autoPipeliningThreshold" "I" o_autoPipeliningThreshold := c245.other W252 (Or.inr (slot_ne (Or.inl (hw _ (List.mem_of_getElem? (i := 63) rfl))) (Or.inl (hw _ (List.mem_of_getElem? (i := 61) rfl))) (by decide) (t := .int) (t' := (.object "java/time/Duration")) (by decide) (by decide)))
  have c264 : Fld Z h252 a "com/example/keelreach/keelreach/RedisOptions" "trustedCertificates" "Ljava/util/List;" o_trustedCertificates := c246.other W252 (Or.inr (slot_ne (Or.inl (hw _ (List.mem_of_getElem? (i := 71) rfl))) (Or.inl (hw _ (List.mem_of_getElem? (i := 61) rfl))) (by decide) (t := (.object "java/util/List")) (t' := (.object "java/time/Duration")) (by decide) (by decide)))
  have c265 : Fld Z h252 a "com/example/keelreach/keelreach/RedisOptions" "verifyHostName" "Z" o_verifyHostName := c247.other W252 (Or.inr (slot_ne (Or.inl (hw _ (List.mem_of_getElem? (i := 73) rfl))) (Or.inl (hw _ (List.mem_of_getElem? (i := 61) rfl))) (by decide) (t := .boolean) (t' := (.object "java/time/Duration")) (by decide) (by decide)))
  have c266 : Fld Z h252 a "com/example/keelreach/keelreach/RedisOptions" "autoPipelining" "Z" o_autoPipelining := c248.other W252 (Or.inr (slot_ne (Or.inl (hw _ (List.mem_of_getElem? (i := 105) rfl))) (Or.inl (hw _ (List.mem_of_getElem? (i := 61) rfl))) (by decide) (t := .boolean) (t' := (.object "java/time/Duration")) (by decide) (by decide)))
  have c267 : Sta Z h252 "com/example/keelreach/keelreach/ProtocolVersion" "RESP3" "Lcom/example/keelreach/keelreach/ProtocolVersion;" (.ref w_RESP3) := c249.wr W252
  have c268 : Sta Z h252 "java/time/Duration" "ZERO" "Ljava/time/Duration;" (.ref w_ZERO) := c250.wr W252
  have c269 : Sta Z h252 "java/util/ImmutableCollections" "EMPTY_LIST" "Ljava/util/ImmutableCollections$ListN;" (.ref w_EL) := c251.wr W252
  obtain ⟨T270, h270, X270, e270, W270, st270⟩ := putF X252 hx hZ hown (host := "") (Or.inl (hw _ (List.mem_of_getElem? (i := 62) rfl))) Via.refl e252 c263 c253 (Or.inl (hw _ (List.mem_of_getElem? (i := 63) rfl))) (hw _ (List.mem_of_getElem? (i := 6) rfl)) (ty := .int) (by decide) rfl rfl (g := (mkF m 79 #[.val (.ref a)] [(.int (128 : Int32)), (.ref a)])) rfl rfl (hb hby d2_79)
  have N270 := Fr.snoc X270 N252 gg_a
  have K270 := Keep.wr K252 W270 (Or.inl (List.mem_of_getElem? (i := 0) rfl))
  have Zs270 := Nat.le_trans Zs252 (Keep.of_wr W270).1
  have c271 : Exa Z h270 a "com/example/keelreach/keelreach/RedisOptions" := c253.wr W270
  have c272 : Fld Z h270 a "com/example/keelreach/keelreach/RedisOptions" "preferredProtocolVersion" "Lcom/example/keelreach/keelreach/ProtocolVersion;" (.ref w_RESP3) := c254.other W270 (Or.inr (slot_ne (Or.inl (hw _ (List.mem_of_getElem? (i := 18) rfl))) (Or.inl (hw _ (List.mem_of_getElem? (i := 63) rfl))) (by decide) (t := (.object "com/example/keelreach/keelreach/ProtocolVersion")) (t' := .int) (by decide) (by decide)))
  have c273 : Fld Z h270 a "com/example/keelreach/keelreach/RedisOptions" "maxPoolSize" "I" (.int (6 : Int32)) := c255.other W270 (Or.inr (slot_ne (Or.inl (hw _ (List.mem_of_getElem? (i := 20) rfl))) (Or.inl (hw _ (List.mem_of_getElem? (i := 63) rfl))) (by decide) (t := .int) (t' := .int) (by decide) (by decide)))
  have c274 : Fld Z h270 a "com/example/keelreach/keelreach/RedisOptions" "maxPoolWaiting" "I" (.int (24 : Int32)) := c256.other W270 (Or.inr (slot_ne (Or.inl (hw _ (List.mem_of_getElem? (i := 22) rfl))) (Or.inl (hw _ (List.mem_of_getElem? (i := 63) rfl))) (by decide) (t := .int) (t' := .int) (by decide) (by decide)))
  have c275 : Fld Z h270 a "com/example/keelreach/keelreach/RedisOptions" "poolCleanerInterval" "Ljava/time/Duration;" (.ref r85) := c257.other W270 (Or.inr (slot_ne (Or.inl (hw _ (List.mem_of_getElem? (i := 43) rfl))) (Or.inl (hw _ (List.mem_of_getElem? (i := 63) rfl))) (by decide) (t := (.object "java/time/Duration")) (t' := .int) (by decide) (by decide)))
  have c276 : Fld Z h270 a "com/example/keelreach/keelreach/RedisOptions" "poolRecycleTimeout" "Ljava/time/Duration;" (.ref r122) := c258.other W270 (Or.inr (slot_ne (Or.inl (hw _ (List.mem_of_getElem? (i := 46) rfl))) (Or.inl (hw _ (List.mem_of_getElem? (i := 63) rfl))) (by decide) (t := (.object "java/time/Duration")) (t' := .int) (by decide) (by decide)))
  have c277 : Fld Z h270 a "com/example/keelreach/keelreach/RedisOptions" "connectTimeout" "Ljava/time/Duration;" (.ref r159) := c259.other W270 (Or.inr (slot_ne (Or.inl (hw _ (List.mem_of_getElem? (i := 49) rfl))) (Or.inl (hw _ (List.mem_of_getElem? (i := 63) rfl))) (by decide) (t := (.object "java/time/Duration")) (t' := .int) (by decide) (by decide)))
  have c278 : Fld Z h270 a "com/example/keelreach/keelreach/RedisOptions" "commandTimeout" "Ljava/time/Duration;" (.ref w_ZERO) := c260.other W270 (Or.inr (slot_ne (Or.inl (hw _ (List.mem_of_getElem? (i := 52) rfl))) (Or.inl (hw _ (List.mem_of_getElem? (i := 63) rfl))) (by decide) (t := (.object "java/time/Duration")) (t' := .int) (by decide) (by decide)))
  have c279 : Fld Z h270 a "com/example/keelreach/keelreach/RedisOptions" "maxCommandsInFlight" "I" (.int (10000 : Int32)) := c261.other W270 (Or.inr (slot_ne (Or.inl (hw _ (List.mem_of_getElem? (i := 54) rfl))) (Or.inl (hw _ (List.mem_of_getElem? (i := 63) rfl))) (by decide) (t := .int) (t' := .int) (by decide) (by decide)))
  have c280 : Fld Z h270 a "com/example/keelreach/keelreach/RedisOptions" "autoPipeliningInterval" "Ljava/time/Duration;" (.ref r233) := c262.other W270 (Or.inr (slot_ne (Or.inl (hw _ (List.mem_of_getElem? (i := 61) rfl))) (Or.inl (hw _ (List.mem_of_getElem? (i := 63) rfl))) (by decide) (t := (.object "java/time/Duration")) (t' := .int) (by decide) (by decide)))
  have c281 : Fld Z h270 a "com/example/keelreach/keelreach/RedisOptions" "autoPipeliningThreshold" "I" (.int (128 : Int32)) := c263.same W270
  have c282 : Fld Z h270 a "com/example/keelreach/keelreach/RedisOptions" "trustedCertificates" "Ljava/util/List;" o_trustedCertificates := c264.other W270 (Or.inr (slot_ne (Or.inl (hw _ (List.mem_of_getElem? (i := 71) rfl))) (Or.inl (hw _ (List.mem_of_getElem? (i := 63) rfl))) (by decide) (t := (.object "java/util/List")) (t' := .int) (by decide) (by decide)))
  have c283 : Fld Z h270 a "com/example/keelreach/keelreach/RedisOptions" "verifyHostName" "Z" o_verifyHostName := c265.other W270 (Or.inr (slot_ne (Or.inl (hw _ (List.mem_of_getElem? (i := 73) rfl))) (Or.inl (hw _ (List.mem_of_getElem? (i := 63) rfl))) (by decide) (t := .boolean) (t' := .int) (by decide) (by decide)))
  have c284 : Fld Z h270 a "com/example/keelreach/keelreach/RedisOptions" "autoPipelining" "Z" o_autoPipelining := c266.other W270 (Or.inr (slot_ne (Or.inl (hw _ (List.mem_of_getElem? (i := 105) rfl))) (Or.inl (hw _ (List.mem_of_getElem? (i := 63) rfl))) (by decide) (t := .boolean) (t' := .int) (by decide) (by decide)))
  have c285 : Sta Z h270 "com/example/keelreach/keelreach/ProtocolVersion" "RESP3" "Lcom/example/keelreach/keelreach/ProtocolVersion;" (.ref w_RESP3) := c267.wr W270
  have c286 : Sta Z h270 "java/time/Duration" "ZERO" "Ljava/time/Duration;" (.ref w_ZERO) := c268.wr W270
  have c287 : Sta Z h270 "java/util/ImmutableCollections" "EMPTY_LIST" "Ljava/util/ImmutableCollections$ListN;" (.ref w_EL) := c269.wr W270
  obtain ⟨v288, _, ⟨T288, L288, k288, n288⟩, -, X288, ⟨Lc288, hQ288, l288, y288, z288⟩, st288⟩ := Jvm.LawKit.callS X270 hx (y := (⟨"java/util/List", "of", "()Ljava/util/List;"⟩ : MethodName)) hown (mvT hZ (hw _ (List.mem_of_getElem? (i := 64) rfl))) (mvT hZ (hw _ (List.mem_of_getElem? (i := 65) rfl))) (mvT hZ (hw _ (List.mem_of_getElem? (i := 66) rfl))) (mvT hZ (hw _ (List.mem_of_getElem? (i := 67) rfl))) (by decide) (backOf (W := 1) (rm_listof l Z a0 hw [] w_EL h270 n0 Zs270 c287) hZ (hw _ (List.mem_of_getElem? (i := 67) rfl)) (hw _ (List.mem_of_getElem? (i := 66) rfl)) (by decide) (by decide)) (g := (mkF m 83 #[.val (.ref a)] [(.ref a)])) rfl (by rw [hml]; rfl) (argsL := []) (rest := [(.ref a)]) (lenOf pd_3 rfl) rfl (by show 2 * 0 + _ ≤ _; exact Nat.le_of_eq rfl) (hb hby d2_83) (fun _ _ => ⟨rfl, e270, (by decide : 4 + 0 ≤ _), (by decide : 8 + 0 ≤ _)⟩)
  dsimp only [Pt.U, Pt.locs, Pt.cells, Pt.slots] at X288 l288 y288 z288 st288 hQ288
  subst l288 y288 z288
  obtain ⟨hv288, N288q, e288⟩ := hQ288
  have N288 := Fr.app N270 N288q
  subst hv288
  obtain ⟨T289, h289, X289, e289, W289, st289⟩ := putF X288 hx hZ hown (host := "") (Or.inl (hw _ (List.mem_of_getElem? (i := 70) rfl))) Via.refl e288 c282 c271 (Or.inl (hw _ (List.mem_of_getElem? (i := 71) rfl))) (hw _ (List.mem_of_getElem? (i := 6) rfl)) (ty := (.object "java/util/List")) (by decide) rfl rfl (g := (mkF m 86 #[.val (.ref a)] [(.ref w_EL), (.ref a)])) rfl rfl (hb hby d2_86)
  have N289 := Fr.snoc X289 N288 gg_a
  have K289 := Keep.wr K270 W289 (Or.inl (List.mem_of_getElem? (i := 0) rfl))
  have Zs289 := Nat.le_trans Zs270 (Keep.of_wr W289).1
  have c290 : Exa Z h289 a "com/example/keelreach/keelreach/RedisOptions" := c271.wr W289
  have c291 : Fld Z h289 a "com/example/keelreach/keelreach/RedisOptions" "preferredProtocolVersion" "Lcom/example/keelreach/keelreach/ProtocolVersion;" (.ref w_RESP3) := c272.other W289 (Or.inr (slot_ne (Or.inl (hw _ (List.mem_of_getElem? (i := 18) rfl))) (Or.inl (hw _ (List.mem_of_getElem? (i := 71) rfl))) (by decide) (t := (.object "com/example/keelreach/keelreach/ProtocolVersion")) (t' := (.object "java/util/List")) (by decide) (by decide)))
  have c292 : Fld Z h289 a "com/example/keelreach/keelreach/RedisOptions" "maxPoolSize" "I" (.int (6 : Int32)) := c273.other W289 (Or.inr (slot_ne (Or.inl (hw _ (List.mem_of_getElem? (i := 20) rfl))) (Or.inl (hw _ (List.mem_of_getElem? (i := 71) rfl))) (by decide) (t := .int) (t' := (.object "java/util/List")) (by decide) (by decide)))
  have c293 : Fld Z h289 a "com/example/keelreach/keelreach/RedisOptions" "maxPoolWaiting" "I" (.int (24 : Int32)) := c274.other W289 (Or.inr (slot_ne (Or.inl (hw _ (List.mem_of_getElem? (i := 22) rfl))) (Or.inl (hw _ (List.mem_of_getElem? (i := 71) rfl))) (by decide) (t := .int) (t' := (.object "java/util/List")) (by decide) (by decide)))
  have c294 : Fld Z h289 a "com/example/keelreach/keelreach/RedisOptions" "poolCleanerInterval" "Ljava/time/Duration;" (.ref r85) := c275.other W289 (Or.inr (slot_ne (Or.inl (hw _ (List.mem_of_getElem? (i := 43) rfl))) (Or.inl (hw _ (List.mem_of_getElem? (i := 71) rfl))) (by decide) (t := (.object "java/time/Duration")) (t' := (.object "java/util/List")) (by decide) (by decide)))
  have c295 : Fld Z h289 a "com/example/keelreach/keelreach/RedisOptions" "poolRecycleTimeout" "Ljava/time/Duration;" (.ref r122) := c276.other W289 (Or.inr (slot_ne (Or.inl (hw _ (List.mem_of_getElem? (i := 46) rfl))) (Or.inl (hw _ (List.mem_of_getElem? (i := 71) rfl))) (by decide) (t := (.object "java/time/Duration")) (t' := (.object "java/util/List")) (by decide) (by decide)))
  have c296 : Fld Z h289 a "com/example/keelreach/keelreach/RedisOptions" "connectTimeout" "Ljava/time/Duration;" (.ref r159) := c277.other W289 (Or.inr (slot_ne (Or.inl (hw _ (List.mem_of_getElem? (i := 49) rfl))) (Or.inl (hw _ (List.mem_of_getElem? (i := 71) rfl))) (by decide) (t := (.object "java/time/Duration")) (t' := (.object "java/util/List")) (by decide) (by decide)))
  have c297 : Fld Z h289 a "com/example/keelreach/keelreach/RedisOptions" "commandTimeout" "Ljava/time/Duration;" (.ref w_ZERO) := c278.other W289 (Or.inr (slot_ne (Or.inl (hw _ (List.mem_of_getElem? (i := 52) rfl))) (Or.inl (hw _ (List.mem_of_getElem? (i := 71) rfl))) (by decide) (t := (.object "java/time/Duration")) (t' := (.object "java/util/List")) (by decide) (by decide)))
  have c298 : Fld Z h289 a "com/example/keelreach/keelreach/RedisOptions" "maxCommandsInFlight" "I" (.int (10000 : Int32)) := c279.other W289 (Or.inr (slot_ne (Or.inl (hw _ (List.mem_of_getElem? (i := 54) rfl))) (Or.inl (hw _ (List.mem_of_getElem? (i := 71) rfl))) (by decide) (t := .int) (t' := (.object "java/util/List")) (by decide) (by decide)))
  have c299 : Fld Z h289 a "com/example/keelreach/keelreach/RedisOptions" "autoPipeliningInterval" "Ljava/time/Duration;" (.ref r233) := c280.other W289 (Or.inr (slot_ne (Or.inl (hw _ (List.mem_of_getElem? (i := 61) rfl))) (Or.inl (hw _ (List.mem_of_getElem? (i := 71) rfl))) (by decide) (t := (.object "java/time/Duration")) (t' := (.object "java/util/List")) (by decide) (by decide)))
  have c300 : Fld Z h289 a "com/example/keelreach/keelreach/RedisOptions" "autoPipeliningThreshold" "I" (.int (128 : Int32)) := c281.other W289 (Or.inr (slot_ne (Or.inl (hw _ (List.mem_of_getElem? (i := 63) rfl))) (Or.inl (hw _ (List.mem_of_getElem? (i := 71) rfl))) (by decide) (t := .int) (t' := (.object "java/util/List")) (by decide) (by decide)))
  have c301 : Fld Z h289 a "com/example/keelreach/keelreach/RedisOptions" "trustedCertificates" "Ljava/util/List;" (.ref w_EL) := c282.same W289
  have c302 : Fld Z h289 a "com/example/keelreach/keelreach/RedisOptions" "verifyHostName" "Z" o_verifyHostName := c283.other W289 (Or.inr (slot_ne (Or.inl (hw _ (List.mem_of_getElem? (i := 73) rfl))) (Or.inl (hw _ (List.mem_of_getElem? (i := 71) rfl))) (by decide) (t := .boolean) (t' := (.object "java/util/List")) (by decide) (by decide)))
  have c303 : Fld Z h289 a "com/example/keelreach/keelreach/RedisOptions" "autoPipelining" "Z" o_autoPipelining := c284.other W289 (Or.inr (slot_ne (Or.inl (hw _ (List.mem_of_getElem? (i := 105) rfl))) (Or.inl (hw _ (List.mem_of_getElem? (i := 71) rfl))) (by decide) (t := .boolean) (t' := (.object "java/util/List")) (by decide) (by decide)))
  have c304 : Sta Z h289 "com/example/keelreach/keelreach/ProtocolVersion" "RESP3" "Lcom/example/keelreach/keelreach/ProtocolVersion;" (.ref w_RESP3) := c285.wr W289
  have c305 : Sta Z h289 "java/time/Duration" "ZERO" "Ljava/time/Duration;" (.ref w_ZERO) := c286.wr W289
  have c306 : Sta Z h289 "java/util/ImmutableCollections" "EMPTY_LIST" "Ljava/util/ImmutableCollections$ListN;" (.ref w_EL) := c287.wr W289
  obtain ⟨T307, h307, X307, e307, W307, st307⟩ := putFN X289 hx hZ hown (hw _ (List.mem_of_getElem? (i := 72) rfl)) Via.refl e289 c302 c290 (Or.inl (hw _ (List.mem_of_getElem? (i := 73) rfl))) (hw _ (List.mem_of_getElem? (i := 6) rfl)) (ty := .boolean) (v' := (.int (1 : Int32))) (by decide) rfl (by decide) (g := (mkF m 91 #[.val (.ref a)] [(.int (1 : Int32)), (.ref a)])) rfl rfl (hb hby d2_91)
  have N307 := Fr.snoc X307 N289 gg_a
  have K307 := Keep.wr K289 W307 (Or.inl (List.mem_of_getElem? (i := 0) rfl))
  have Zs307 := Nat.le_trans Zs289 (Keep.of_wr W307).1
  have c308 : Exa Z h307 a "com/example/keelreach/keelreach/RedisOptions" := c290.wr W307
  have c309 : Fld Z h307 a "com/example/keelreach/keelreach/RedisOptions" "preferredProtocolVersion" "Lcom/example/keelreach/keelreach/ProtocolVersion;" (.ref w_RESP3) := c291.other W307 (Or.inr (slot_ne (Or.inl (hw _ (List.mem_of_getElem? (i := 18) rfl))) (Or.inl (hw _ (List.mem_of_getElem? (i := 73) rfl))) (by decide) (t := (.object "com/example/keelreach/keelreach/ProtocolVersion")) (t' := .boolean) (by decide) (by decide)))
  have c310 : Fld Z h307 a "com/example/keelreach/keelreach/RedisOptions" "maxPoolSize" "I" (.int (6 : Int32)) := c292.other W307 (Or.inr (slot_ne (Or.inl (hw _ (List.mem_of_getElem? (i := 20) rfl))) (Or.inl (hw _ (List.mem_of_getElem? (i := 73) rfl))) (by decide) (t := .int) (t' := .boolean) (by decide) (by decide)))
  have c311 : Fld Z h307 a "com/example/keelreach/keelreach/RedisOptions" "maxPoolWaiting" "I" (.int (24 : Int32)) := c293.other W307 (Or.inr (slot_ne (Or.inl (hw _ (List.mem_of_getElem? (i := 22) rfl))) (Or.inl (hw _ (List.mem_of_getElem? (i := 73) rfl))) (by decide) (t := .int) (t' := .boolean) (by decide) (by decide)))
  have c312 : Fld Z h307 a "com/example/keelreach/keelreach/RedisOptions" "poolCleanerInterval" "Ljava/time/Duration;" (.ref r85) := c294.other W307 (Or.inr (slot_ne (Or.inl (hw _ (List.mem_of_getElem? (i := 43) rfl))) (Or.inl (hw _ (List.mem_of_getElem? (i := 73) rfl))) (by decide) (t := (.object "java/time/Duration")) (t' := .boolean) (by decide) (by decide)))
  have c313 : Fld Z h307 a "com/example/keelreach/keelreach/RedisOptions" "poolRecycleTimeout" "Ljava/time/Duration;" (.ref r122) := c295.other W307 (Or.inr (slot_ne (Or.inl (hw _ (List.mem_of_getElem? (i := 46) rfl))) (Or.inl (hw _ (List.mem_of_getElem? (i := 73) rfl))) (by decide) (t := (.object "java/time/Duration")) (t' := .boolean) (by decide) (by decide)))
  have c314 : Fld Z h307 a "com/example/keelreach/keelreach/RedisOptions" "connectTimeout" "Ljava/time/Duration;" (.ref r159) := c296.other W307 (Or.inr (slot_ne (Or.inl (hw _ (List.mem_of_getElem? (i := 49) rfl))) (Or.inl (hw _ (List.mem_of_getElem? (i := 73) rfl))) (by decide) (t := (.object "java/time/Duration")) (t' := .boolean) (by decide) (by decide)))
  have c315 : Fld Z h307 a "com/example/keelreach/keelreach/RedisOptions" "commandTimeout" "Ljava/time/Duration;" (.ref w_ZERO) := c297.other W307 (Or.inr (slot_ne (Or.inl (hw _ (List.mem_of_getElem? (i := 52) rfl))) (Or.inl (hw _ (List.mem_of_getElem? (i := 73) rfl))) (by decide) (t := (.object "java/time/Duration")) (t' := .boolean) (by decide) (by decide)))
  have c316 : Fld Z h307 a "com/example/keelreach/keelreach/RedisOptions" "maxCommandsInFlight" "I" (.int (10000 : Int32)) := c298.other W307 (Or.inr (slot_ne (Or.inl (hw _ (List.mem_of_getElem? (i := 54) rfl))) (Or.inl (hw _ (List.mem_of_getElem? (i := 73) rfl))) (by decide) (t := .int) (t' := .boolean) (by decide) (by decide)))
  have c317 : Fld Z h307 a "com/example/keelreach/keelreach/RedisOptions" "autoPipeliningInterval" "Ljava/time/Duration;" (.ref r233) := c299.other W307 (Or.inr (slot_ne (Or.inl (hw _ (List.mem_of_getElem? (i := 61) rfl))) (Or.inl (hw _ (List.mem_of_getElem? (i := 73) rfl))) (by decide) (t := (.object "java/time/Duration")) (t' := .boolean) (by decide) (by decide)))
  have c318 : Fld Z h307 a "com/example/keelreach/keelreach/RedisOptions" "autoPipeliningThreshold" "I" (.int (128 : Int32)) := c300.other W307 (Or.inr (slot_ne (Or.inl (hw _ (List.mem_of_getElem? (i := 63) rfl))) (Or.inl (hw _ (List.mem_of_getElem? (i := 73) rfl))) (by decide) (t := .int) (t' := .boolean) (by decide) (by decide)))
  have c319 : Fld Z h307 a "com/example/keelreach/keelreach/RedisOptions" "trustedCertificates" "Ljava/util/List;" (.ref w_EL) := c301.other W307 (Or.inr (slot_ne (Or.inl (hw _ (List.mem_of_getElem? (i := 71) rfl))) (Or.inl (hw _ (List.mem_of_getElem? (i := 73) rfl))) (by decide) (t := (.object "java/util/List")) (t' := .boolean) (by decide) (by decide)))
  have c320 : Fld Z h307 a "com/example/keelreach/keelreach/RedisOptions" "verifyHostName" "Z" (.int (1 : Int32)) := c302.same W307
  have c321 : Fld Z h307 a "com/example/keelreach/keelreach/RedisOptions" "autoPipelining" "Z" o_autoPipelining := c303.other W307 (Or.inr (slot_ne (Or.inl (hw _ (List.mem_of_getElem? (i := 105) rfl))) (Or.inl (hw _ (List.mem_of_getElem? (i := 73) rfl))) (by decide) (t := .boolean) (t' := .boolean) (by decide) (by decide)))
  have c322 : Sta Z h307 "com/example/keelreach/keelreach/ProtocolVersion" "RESP3" "Lcom/example/keelreach/keelreach/ProtocolVersion;" (.ref w_RESP3) := c304.wr W307
  have c323 : Sta Z h307 "java/time/Duration" "ZERO" "Ljava/time/Duration;" (.ref w_ZERO) := c305.wr W307
  have c324 : Sta Z h307 "java/util/ImmutableCollections" "EMPTY_LIST" "Ljava/util/ImmutableCollections$ListN;" (.ref w_EL) := c306.wr W307
  have pre325 : ∀ t_, Steps p.tables e below (T307.setTop (mkF m 94 #[.val (.ref a)] [])) t_ → Steps p.tables e below (s₁.setTop (entryFrame m #[(.ref a)] 1)) t_ := fun t_ k_ => pre0 t_ (by
    show Steps p.tables e below (s₁.setTop (mkF m 0 #[.val (.ref a)] [])) _
    refine XS.aloadN X0.here hx rfl (hb hby d2_0) rfl rfl ?_
    show Steps p.tables e below (s₁.setTop (mkF m 1 #[.val (.ref a)] [(.ref a)])) _
    refine st29 _ ?_
    show Steps p.tables e below (T29.setTop (mkF m 4 #[.val (.ref a)] [])) _
    refine XS.aloadN X29.here hx rfl (hb hby d2_4) rfl rfl ?_
    show Steps p.tables e below (T29.setTop (mkF m 5 #[.val (.ref a)] [(.ref a)])) _
    refine st30 _ ?_
    show Steps p.tables e below (T30.setTop (mkF m 8 #[.val (.ref a)] [(.ref w_RESP3), (.ref a)])) _
    refine st31 _ ?_
    show Steps p.tables e below (T31.setTop (mkF m 11 #[.val (.ref a)] [])) _
    refine XS.aloadN X31.here hx rfl (hb hby d2_11) rfl rfl ?_
    show Steps p.tables e below (T31.setTop (mkF m 12 #[.val (.ref a)] [(.ref a)])) _
    refine XS.bipush X31.here hx rfl (hb hby d2_12) ?_
    show Steps p.tables e below (T31.setTop (mkF m 14 #[.val (.ref a)] [(.int (6 : Int32)), (.ref a)])) _
    refine st49 _ ?_
    show Steps p.tables e below (T49.setTop (mkF m 17 #[.val (.ref a)] [])) _
    refine XS.aloadN X49.here hx rfl (hb hby d2_17) rfl rfl ?_
    show Steps p.tables e below (T49.setTop (mkF m 18 #[.val (.ref a)] [(.ref a)])) _
    refine XS.bipush X49.here hx rfl (hb hby d2_18) ?_
    show Steps p.tables e below (T49.setTop (mkF m 20 #[.val (.ref a)] [(.int (24 : Int32)), (.ref a)])) _
    refine st67 _ ?_
    show Steps p.tables e below (T67.setTop (mkF m 23 #[.val (.ref a)] [])) _
    refine XS.aloadN X67.here hx rfl (hb hby d2_23) rfl rfl ?_
    show Steps p.tables e below (T67.setTop (mkF m 24 #[.val (.ref a)] [(.ref a)])) _
    refine X67.ldc2Long hx hown (mvT hZ (hw _ (List.mem_of_getElem? (i := 23) rfl))) (g := (mkF m 24 #[.val (.ref a)] [(.ref a)])) rfl (hb hby d2_24) _ ?_
    show Steps p.tables e below (T67.setTop (mkF m 27 #[.val (.ref a)] [(.long (30 : Int64)), (.ref a)])) _
    refine st85 _ ?_
    show Steps p.tables e below (T85.setTop (mkF m 30 #[.val (.ref a)] [(.ref r85), (.ref a)])) _
    refine st104 _ ?_
    show Steps p.tables e below (T104.setTop (mkF m 33 #[.val (.ref a)] [])) _
    refine XS.aloadN X104.here hx rfl (hb hby d2_33) rfl rfl ?_
    show Steps p.tables e below (T104.setTop (mkF m 34 #[.val (.ref a)] [(.ref a)])) _
    refine X104.ldc2Long hx hown (mvT hZ (hw _ (List.mem_of_getElem? (i := 44) rfl))) (g := (mkF m 34 #[.val (.ref a)] [(.ref a)])) rfl (hb hby d2_34) _ ?_
    show Steps p.tables e below (T104.setTop (mkF m 37 #[.val (.ref a)] [(.long (180 : Int64)), (.ref a)])) _
    refine st122 _ ?_
    show Steps p.tables e below (T122.setTop (mkF m 40 #[.val (.ref a)] [(.ref r122), (.ref a)])) _
    refine st141 _ ?_
    show Steps p.tables e below (T141.setTop (mkF m 43 #[.val (.ref a)] [])) _
    refine XS.aloadN X141.here hx rfl (hb hby d2_43) rfl rfl ?_
    show Steps p.tables e below (T141.setTop (mkF m 44 #[.val (.ref a)] [(.ref a)])) _
    refine X141.ldc2Long hx hown (mvT hZ (hw _ (List.mem_of_getElem? (i := 47) rfl))) (g := (mkF m 44 #[.val (.ref a)] [(.ref a)])) rfl (hb hby d2_44) _ ?_
    show Steps p.tables e below (T141.setTop (mkF m 47 #[.val (.ref a)] [(.long (10 : Int64)), (.ref a)])) _
    refine st159 _ ?_
    show Steps p.tables e below (T159.setTop (mkF m 50 #[.val (.ref a)] [(.ref r159), (.ref a)])) _
    refine st178 _ ?_
    show Steps p.tables e below (T178.setTop (mkF m 53 #[.val (.ref a)] [])) _
    refine XS.aloadN X178.here hx rfl (hb hby d2_53) rfl rfl ?_
    show Steps p.tables e below (T178.setTop (mkF m 54 #[.val (.ref a)] [(.ref a)])) _
    refine st196 _ ?_
    show Steps p.tables e below (T196.setTop (mkF m 57 #[.val (.ref a)] [(.ref w_ZERO), (.ref a)])) _
    refine st197 _ ?_
    show Steps p.tables e below (T197.setTop (mkF m 60 #[.val (.ref a)] [])) _
    refine XS.aloadN X197.here hx rfl (hb hby d2_60) rfl rfl ?_
    show Steps p.tables e below (T197.setTop (mkF m 61 #[.val (.ref a)] [(.ref a)])) _
    refine XS.sipush X197.here hx rfl (hb hby d2_61) ?_
    show Steps p.tables e below (T197.setTop (mkF m 64 #[.val (.ref a)] [(.int (10000 : Int32)), (.ref a)])) _
    refine st215 _ ?_
    show Steps p.tables e below (T215.setTop (mkF m 67 #[.val (.ref a)] [])) _
    refine XS.aloadN X215.here hx rfl (hb hby d2_67) rfl rfl ?_
    show Steps p.tables e below (T215.setTop (mkF m 68 #[.val (.ref a)] [(.ref a)])) _
    refine XS.lconst X215.here hx rfl (hb hby d2_68) ?_
    show Steps p.tables e below (T215.setTop (mkF m 69 #[.val (.ref a)] [(.long (1 : Int64)), (.ref a)])) _
    refine st233 _ ?_
    show Steps p.tables e below (T233.setTop (mkF m 72 #[.val (.ref a)] [(.ref r233), (.ref a)])) _
    refine st252 _ ?_
    show Steps p.tables e below (T252.setTop (mkF m 75 #[.val (.ref a)] [])) _
    refine XS.aloadN X252.here hx rfl (hb hby d2_75) rfl rfl ?_
    show Steps p.tables e below (T252.setTop (mkF m 76 #[.val (.ref a)] [(.ref a)])) _
    refine XS.sipush X252.here hx rfl (hb hby d2_76) ?_
    show Steps p.tables e below (T252.setTop (mkF m 79 #[.val (.ref a)] [(.int (128 : Int32)), (.ref a)])) _
    refine st270 _ ?_
    show Steps p.tables e below (T270.setTop (mkF m 82 #[.val (.ref a)] [])) _
    refine XS.aloadN X270.here hx rfl (hb hby d2_82) rfl rfl ?_
    show Steps p.tables e below (T270.setTop (mkF m 83 #[.val (.ref a)] [(.ref a)])) _
    refine st288 _ ?_
    show Steps p.tables e below (T288.setTop (mkF m 86 #[.val (.ref a)] [(.ref w_EL), (.ref a)])) _
    refine st289 _ ?_
    show Steps p.tables e below (T289.setTop (mkF m 89 #[.val (.ref a)] [])) _
    refine XS.aloadN X289.here hx rfl (hb hby d2_89) rfl rfl ?_
    show Steps p.tables e below (T289.setTop (mkF m 90 #[.val (.ref a)] [(.ref a)])) _
    refine XS.iconst X289.here hx rfl (hb hby d2_90) ?_
    show Steps p.tables e below (T289.setTop (mkF m 91 #[.val (.ref a)] [(.int (1 : Int32)), (.ref a)])) _
    refine st307 _ ?_
    show Steps p.tables e below (T307.setTop (mkF m 94 #[.val (.ref a)] [])) _
    exact k_)
  obtain ⟨fs, hr, hrun, hended, hW, hsame⟩ := X307.leave (v := none) (fun _ => rfl)
  refine ⟨_, _, pre325 _ ?_, hrun, hended, _, _, rfl, ?_, ⟨_, rfl⟩, hW, hsame.mono (by decide) (by decide)⟩
  · show Steps p.tables e below (T307.setTop (mkF m 94 #[.val (.ref a)] [])) _
    exact X307.returnOut hx Bd.returns (hb hby d2_94) hr
  · show Q_rinit Z a o_preferredProtocolVersion o_maxPoolSize o_maxPoolWaiting o_poolCleanerInterval o_poolRecycleTimeout o_connectTimeout o_commandTimeout o_maxCommandsInFlight o_autoPipeliningInterval o_autoPipeliningThreshold o_trustedCertificates o_verifyHostName o_autoPipelining w_RESP3 w_ZERO w_EL h0 n0 _ T307.heap _
    rw [e307]
    exact ⟨rfl, N307, K307, c308, c310, c311, c316, c318, c321⟩
theorem ef_setMaxCommandsInFlight (m : MethodId) (a : Addr) (n : Int32) : entryFrame m #[(.ref a), (.int n)] 2 = mkF m 0 #[.val (.ref a), .val (.int n)] [] := by first | (simp [entryFrame, mkF, argsToLocals, Value.category]; done) | rfl
def Q_setMaxCommandsInFlight (Z : State) (a : Addr) (n : Int32) (o_maxPoolSize : Value) (o_maxPoolWaiting : Value) (o_maxCommandsInFlight : Value) (o_autoPipeliningThreshold : Value) (o_autoPipelining : Value) (h0 : Heap) (n0 : Nat) (v : Option Value) (h : Heap) (L : List Loc) : Prop := v = some (.ref a) ∧ Fr n0 L ∧ Keep h0 h [a] ∧ Exa Z h a "com/example/keelreach/keelreach/RedisOptions" ∧ Fld Z h a "com/example/keelreach/keelreach/RedisOptions" "maxPoolSize" "I" o_maxPoolSize ∧ Fld Z h a "com/example/keelreach/keelreach/RedisOptions" "maxPoolWaiting" "I" o_maxPoolWaiting ∧ Fld Z h a "com/example/keelreach/keelreach/RedisOptions" "maxCommandsInFlight" "I" (.int n) ∧ Fld Z h a "com/example/keelreach/keelreach/RedisOptions" "autoPipeliningThreshold" "I" o_autoPipeliningThreshold ∧ Fld Z h a "com/example/keelreach/keelreach/RedisOptions" "autoPipelining" "Z" o_autoPipelining
theorem d9_0 : decode prog_6_method_19_code 0 = .ok (.iload_n 1, 1) := by decide +kernel
theorem d9_1 : decode prog_6_method_19_code 1 = .ok (.iconst 1, 1) := by decide +kernel
theorem d9_2 : decode prog_6_method_19_code 2 = .ok (.if_icmp .ge 17, 3) := by decide +kernel
theorem d9_19 : decode prog_6_method_19_code 19 = .ok (.aload_n 0, 1) := by decide +kernel
theorem d9_20 : decode prog_6_method_19_code 20 = .ok (.iload_n 1, 1) := by decide +kernel
theorem d9_21 : decode prog_6_method_19_code 21 = .ok (.putfield 53, 3) := by decide +kernel
theorem d9_24 : decode prog_6_method_19_code 24 = .ok (.aload_n 0, 1) := by decide +kernel
theorem d9_25 : decode prog_6_method_19_code 25 = .ok (.areturn, 1) := by decide +kernel
set_option maxRecDepth 65536 in
set_option maxHeartbeats 40000000 in
theorem rm_setMaxCommandsInFlight (l : Launch) (Z : State) (a0 : Array Value) (hw : ∀ d ∈ tables_1, d.before a0 Z = true) (ws : List Jvm.Cond) (a : Addr) (n : Int32) (o_maxPoolSize : Value) (o_maxPoolWaiting : Value) (o_maxCommandsInFlight : Value) (o_autoPipeliningThreshold : Value) (o_autoPipelining : Value) (h0 : Heap) (n0 : Nat) (Z0 : n0 ≤ h0.size) (E_a : Exa Z h0 a "com/example/keelreach/keelreach/RedisOptions") (gg_a : n0 ≤ a) (F_maxPoolSize : Fld Z h0 a "com/example/keelreach/keelreach/RedisOptions" "maxPoolSize" "I" o_maxPoolSize) (F_maxPoolWaiting : Fld Z h0 a "com/example/keelreach/keelreach/RedisOptions" "maxPoolWaiting" "I" o_maxPoolWaiting) (F_maxCommandsInFlight : Fld Z h0 a "com/example/keelreach/keelreach/RedisOptions" "maxCommandsInFlight" "I" o_maxCommandsInFlight) (F_autoPipeliningThreshold : Fld Z h0 a "com/example/keelreach/keelreach/RedisOptions" "autoPipeliningThreshold" "I" o_autoPipeliningThreshold) (F_autoPipelining : Fld Z h0 a "com/example/keelreach/keelreach/RedisOptions" "autoPipelining" "Z" o_autoPipelining) (hn : ¬ (n < (1 : Int32))) :
    MetFree l (⟨"com/example/keelreach/keelreach/RedisOptions", "setMaxCommandsInFlight", "(I)Lcom/example/keelreach/keelreach/RedisOptions;"⟩ : MethodName) (head1 (Jvm.Cond.code (⟨"com/example/keelreach/keelreach/RedisOptions", "setMaxCommandsInFlight", "(I)Lcom/example/keelreach/keelreach/RedisOptions;"⟩ : MethodName) prog_6_method_19_code 2 (some (.object "com/example/keelreach/keelreach/RedisOptions")) :: ws) ({ frames := 0, cells := 0, slots := 0, locals := 0 } : Room)) (fun a_ U_ => a_ = #[(.ref a), (.int n)] ∧ Z.Warmed39 U_.vm ∧ U_.heap = h0) (fun _ _ _ _ _ => True) (fun _ U_ o_ V_ => ∃ v_ L_, o_ = .returned v_ ∧ Q_setMaxCommandsInFlight Z a n o_maxPoolSize o_maxPoolWaiting o_maxCommandsInFlight o_autoPipeliningThreshold o_autoPipelining h0 n0 v_ V_.heap L_ ∧ FrameEnd U_ o_ V_ L_ ({ frames := 0, cells := 0, slots := 0, locals := 0 } : Room).cells ({ frames := 0, cells := 0, slots := 0, locals := 0 } : Room).slots) := by
  refine MetFree.of_bodySF (plainFor_of_name pn_2) hisR ?_
  intro p e s m args below meth c s₁ Bd hml0 hP hK
  obtain ⟨rfl, hZ, hh⟩ := hP
  have hx := Bd.exec
  have hby := Bd.bytes
  have hml : c.maxLocals = 2 := hml0
  have hown : s.vm.findClass "com/example/keelreach/keelreach/RedisOptions" = some m.cls := findClass_of_methodNamed Bd.named
  have hnm := (name_of_methodNamed Bd.named Bd.method).1
  have X0 : Stand p l e ({ frames := 0, cells := 0, slots := 0, locals := 0 } : Room) s m #[(.ref a), (.int n)] below meth c s₁ [] 0 0 := Stand.of_body Bd
  have e0 : s₁.heap = h0 := by rw [← hh, Bd.state]; rfl
  have N0 := Fr.nil n0
  have pre0 : ∀ t_, Steps p.tables e below (s₁.setTop (mkF m 0 #[.val (.ref a), .val (.int n)] [])) t_ → Steps p.tables e below (s₁.setTop (entryFrame m #[(.ref a), (.int n)] 2)) t_ := fun t_ k_ => castTop (ef_setMaxCommandsInFlight m a n) k_
  have O0 := own_ext_refl h0
  have K0 := Keep.refl h0 [a]
  obtain ⟨T326, h326, X326, e326, W326, st326⟩ := putF X0 hx hZ hown (host := "") (Or.inl (hw _ (List.mem_of_getElem? (i := 53) rfl))) Via.refl e0 F_maxCommandsInFlight E_a (Or.inl (hw _ (List.mem_of_getElem? (i := 54) rfl))) (hw _ (List.mem_of_getElem? (i := 6) rfl)) (ty := .int) (by decide) rfl rfl (g := (mkF m 21 #[.val (.ref a), .val (.int n)] [(.int n), (.ref a)])) rfl rfl (hb hby d9_21)
  have N326 := Fr.snoc X326 N0 gg_a
  have K326 := Keep.wr K0 W326 (Or.inl (List.mem_of_getElem? (i := 0) rfl))
  have Zs326 := Nat.le_trans Z0 (Keep.of_wr W326).1
  have c327 : Exa Z h326 a "com/example/keelreach/keelreach/RedisOptions" := E_a.wr W326
  have c328 : Fld Z h326 a "com/example/keelreach/keelreach/RedisOptions" "maxPoolSize" "I" o_maxPoolSize := F_maxPoolSize.other W326 (Or.inr (slot_ne (Or.inl (hw _ (List.mem_of_getElem? (i := 20) rfl))) (Or.inl (hw _ (List.mem_of_getElem? (i := 54) rfl))) (by decide) (t := .int) (t' := .int) (by decide) (by decide)))
  have c329 : Fld Z h326 a "com/example/keelreach/keelreach/RedisOptions" "maxPoolWaiting" "I" o_maxPoolWaiting := F_maxPoolWaiting.other W326 (Or.inr (slot_ne (Or.inl (hw _ (List.mem_of_getElem? (i := 22) rfl))) (Or.inl (hw _ (List.mem_of_getElem? (i := 54) rfl))) (by decide) (t := .int) (t' := .int) (by decide) (by decide)))
  have c330 : Fld Z h326 a "com/example/keelreach/keelreach/RedisOptions" "maxCommandsInFlight" "I" (.int n) := F_maxCommandsInFlight.same W326
  have c331 : Fld Z h326 a "com/example/keelreach/keelreach/RedisOptions" "autoPipeliningThreshold" "I" o_autoPipeliningThreshold := F_autoPipeliningThreshold.other W326 (Or.inr (slot_ne (Or.inl (hw _ (List.mem_of_getElem? (i := 63) rfl))) (Or.inl (hw _ (List.mem_of_getElem? (i := 54) rfl))) (by decide) (t := .int) (t' := .int) (by decide) (by decide)))
  have c332 : Fld Z h326 a "com/example/keelreach/keelreach/RedisOptions" "autoPipelining" "Z" o_autoPipelining := F_autoPipelining.other W326 (Or.inr (slot_ne (Or.inl (hw _ (List.mem_of_getElem? (i := 105) rfl))) (Or.inl (hw _ (List.mem_of_getElem? (i := 54) rfl))) (by decide) (t := .boolean) (t' := .int) (by decide) (by decide)))
  have pre333 : ∀ t_, Steps p.tables e below (T326.setTop (mkF m 25 #[.val (.ref a), .val (.int n)] [(.ref a)])) t_ → Steps p.tables e below (s₁.setTop (entryFrame m #[(.ref a), (.int n)] 2)) t_ := fun t_ k_ => pre0 t_ (by
    show Steps p.tables e below (s₁.setTop (mkF m 0 #[.val (.ref a), .val (.int n)] [])) _
    refine XS.iloadN X0.here hx rfl (hb hby d9_0) rfl ?_
    show Steps p.tables e below (s₁.setTop (mkF m 1 #[.val (.ref a), .val (.int n)] [(.int n)])) _
    refine XS.iconst X0.here hx rfl (hb hby d9_1) ?_
    show Steps p.tables e below (s₁.setTop (mkF m 2 #[.val (.ref a), .val (.int n)] [(.int (1 : Int32)), (.int n)])) _
    refine XS.icmpYes X0.here hx rfl (pc0 := 2) (pc' := 19) rfl (hb hby d9_2) rfl (flt hn).2.1 (by decide) (by decide) ?_
    show Steps p.tables e below (s₁.setTop (mkF m 19 #[.val (.ref a), .val (.int n)] [])) _
    refine XS.aloadN X0.here hx rfl (hb hby d9_19) rfl rfl ?_
    show Steps p.tables e below (s₁.setTop (mkF m 20 #[.val (.ref a), .val (.int n)] [(.ref a)])) _
    refine XS.iloadN X0.here hx rfl (hb hby d9_20) rfl ?_
    show Steps p.tables e below (s₁.setTop (mkF m 21 #[.val (.ref a), .val (.int n)] [(.int n), (.ref a)])) _
    refine st326 _ ?_
    show Steps p.tables e below (T326.setTop (mkF m 24 #[.val (.ref a), .val (.int n)] [])) _
    refine XS.aloadN X326.here hx rfl (hb hby d9_24) rfl rfl ?_
    show Steps p.tables e below (T326.setTop (mkF m 25 #[.val (.ref a), .val (.int n)] [(.ref a)])) _
    exact k_)
  obtain ⟨fs, hr, hrun, hended, hW, hsame⟩ := X326.leave (v := some (.ref a)) (fun h => by rw [Bd.returns] at h; cases h)
  refine ⟨_, _, pre333 _ ?_, hrun, hended, _, _, rfl, ?_, ⟨_, rfl⟩, hW, hsame.mono (by decide) (by decide)⟩
  · show Steps p.tables e below (T326.setTop (mkF m 25 #[.val (.ref a), .val (.int n)] [(.ref a)])) _
    exact retA X326 hx Bd.returns rfl rfl rfl (hb hby d9_25) hr
  · show Q_setMaxCommandsInFlight Z a n o_maxPoolSize o_maxPoolWaiting o_maxCommandsInFlight o_autoPipeliningThreshold o_autoPipelining h0 n0 _ T326.heap _
    rw [e326]
    exact ⟨rfl, N326, K326, c327, c328, c329, c330, c331, c332⟩
theorem ef_setAutoPipeliningThreshold (m : MethodId) (a : Addr) (n : Int32) : entryFrame m #[(.ref a), (.int n)] 2 = mkF m 0 #[.val (.ref a), .val (.int n)] [] := by first | (simp [entryFrame, mkF, argsToLocals, Value.category]; done) | rfl
def Q_setAutoPipeliningThreshold (Z : State) (a : Addr) (n : Int32) (o_maxPoolSize : Value) (o_maxPoolWaiting : Value) (o_maxCommandsInFlight : Value) (o_autoPipeliningThreshold : Value) (o_autoPipelining : Value) (h0 : Heap) (n0 : Nat) (v : Option Value) (h : Heap) (L : List Loc) : Prop := v = some (.ref a) ∧ Fr n0 L ∧ Keep h0 h [a] ∧ Exa Z h a "com/example/keelreach/keelreach/RedisOptions" ∧ Fld Z h a "com/example/keelreach/keelreach/RedisOptions" "maxPoolSize" "I" o_maxPoolSize ∧ Fld Z h a "com/example/keelreach/keelreach/RedisOptions" "maxPoolWaiting" "I" o_maxPoolWaiting ∧ Fld Z h a "com/example/keelreach/keelreach/RedisOptions" "maxCommandsInFlight" "I" o_maxCommandsInFlight ∧ Fld Z h a "com/example/keelreach/keelreach/RedisOptions" "autoPipeliningThreshold" "I" (.int n) ∧ Fld Z h a "com/example/keelreach/keelreach/RedisOptions" "autoPipelining" "Z" o_autoPipelining
theorem d10_0 : decode prog_6_method_25_code 0 = .ok (.iload_n 1, 1) := by decide +kernel
theorem d10_1 : decode prog_6_method_25_code 1 = .ok (.iconst 1, 1) := by decide +kernel
theorem d10_2 : decode prog_6_method_25_code 2 = .ok (.if_icmp .ge 17, 3) := by decide +kernel
theorem d10_19 : decode prog_6_method_25_code 19 = .ok (.aload_n 0, 1) := by decide +kernel
theorem d10_20 : decode prog_6_method_25_code 20 = .ok (.iload_n 1, 1) := by decide +kernel
theorem d10_21 : decode prog_6_method_25_code 21 = .ok (.putfield 62, 3) := by decide +kernel
theorem d10_24 : decode prog_6_method_25_code 24 = .ok (.aload_n 0, 1) := by decide +kernel
theorem d10_25 : decode prog_6_method_25_code 25 = .ok (.areturn, 1) := by decide +kernel
set_option maxRecDepth 65536 in
set_option maxHeartbeats 40000000 in
theorem rm_setAutoPipeliningThreshold (l : Launch) (Z : State) (a0 : Array Value) (hw : ∀ d ∈ tables_1, d.before a0 Z = true) (ws : List Jvm.Cond) (a : Addr) (n : Int32) (o_maxPoolSize : Value) (o_maxPoolWaiting : Value) (o_maxCommandsInFlight : Value) (o_autoPipeliningThreshold : Value) (o_autoPipelining : Value) (h0 : Heap) (n0 : Nat) (Z0 : n0 ≤ h0.size) (E_a : Exa Z h0 a "com/example/keelreach/keelreach/RedisOptions") (gg_a : n0 ≤ a) (F_maxPoolSize : Fld Z h0 a "com/example/keelreach/keelreach/RedisOptions" "maxPoolSize" "I" o_maxPoolSize) (F_maxPoolWaiting : Fld Z h0 a "com/example/keelreach/keelreach/RedisOptions" "maxPoolWaiting" "I" o_maxPoolWaiting) (F_maxCommandsInFlight : Fld Z h0 a "com/example/keelreach/keelreach/RedisOptions" "maxCommandsInFlight" "I" o_maxCommandsInFlight) (F_autoPipeliningThreshold : Fld Z h0 a "com/example/keelreach/keelreach/RedisOptions" "autoPipeliningThreshold" "I" o_autoPipeliningThreshold) (F_autoPipelining : Fld Z h0 a "com/example/keelreach/keelreach/RedisOptions" "autoPipelining" "Z" o_autoPipelining) (hn : ¬ (n < (1 : Int32))) :
    MetFree l (⟨"com/example/keelreach/keelreach/RedisOptions", "setAutoPipeliningThreshold", "(I)Lcom/example/keelreach/keelreach/RedisOptions;"⟩ : MethodName) (head1 (Jvm.Cond.code (⟨"com/example/keelreach/keelreach/RedisOptions", "setAutoPipeliningThreshold", "(I)Lcom/example/keelreach/keelreach/RedisOptions;"⟩ : MethodName) prog_6_method_25_code 2 (some (.object "com/example/keelreach/keelreach/RedisOptions")) :: ws) ({ frames := 0, cells := 0, slots := 0, locals := 0 } : Room)) (fun a_ U_ => a_ = #[(.ref a), (.int n)] ∧ Z.Warmed39 U_.vm ∧ U_.heap = h0) (fun _ _ _ _ _ => True) (fun _ U_ o_ V_ => ∃ v_ L_, o_ = .returned v_ ∧ Q_setAutoPipeliningThreshold Z a n o_maxPoolSize o_maxPoolWaiting o_maxCommandsInFlight o_autoPipeliningThreshold o_autoPipelining h0 n0 v_ V_.heap L_ ∧ FrameEnd U_ o_ V_ L_ ({ frames := 0, cells := 0, slots := 0, locals := 0 } : Room).cells ({ frames := 0, cells := 0, slots := 0, locals := 0 } : Room).slots) := by
  refine MetFree.of_bodySF (plainFor_of_name pn_2) hisR ?_
  intro p e s m args below meth c s₁ Bd hml0 hP hK
  obtain ⟨rfl, hZ, hh⟩ := hP
  have hx := Bd.exec
  have hby := Bd.bytes
  have hml : c.maxLocals = 2 := hml0
  have hown : s.vm.findClass "com/example/keelreach/keelreach/RedisOptions" = some m.cls := findClass_of_methodNamed Bd.named
  have hnm := (name_of_methodNamed Bd.named Bd.method).1
  have X0 : Stand p l e ({ frames := 0, cells := 0, slots := 0, locals := 0 } : Room) s m #[(.ref a), (.int n)] below meth c s₁ [] 0 0 := Stand.of_body Bd
  have e0 : s₁.heap = h0 := by rw [← hh, Bd.state]; rfl
  have N0 := Fr.nil n0
  have pre0 : ∀ t_, Steps p.tables e below (s₁.setTop (mkF m 0 #[.val (.ref a), .val (.int n)] [])) t_ → Steps p.tables e below (s₁.setTop (entryFrame m #[(.ref a), (.int n)] 2)) t_ := fun t_ k_ => castTop (ef_setAutoPipeliningThreshold m a n) k_
  have O0 := own_ext_refl h0
  have K0 := Keep.refl h0 [a]
  obtain ⟨T334, h334, X334, e334, W334, st334⟩ := putF X0 hx hZ hown (host := "") (Or.inl (hw _ (List.mem_of_getElem? (i := 62) rfl))) Via.refl e0 F_autoPipeliningThreshold E_a (Or.inl (hw _ (List.mem_of_getElem? (i := 63) rfl))) (hw _ (List.mem_of_getElem? (i := 6) rfl)) (ty := .int) (by decide) rfl rfl (g := (mkF m 21 #[.val (.ref a), .val (.int n)] [(.int n), (.ref a)])) rfl rfl (hb hby d10_21)
  have N334 := Fr.snoc X334 N0 gg_a
  have K334 := Keep.wr K0 W334 (Or.inl (List.mem_of_getElem? (i := 0) rfl))
  have Zs334 := Nat.le_trans Z0 (Keep.of_wr W334).1
  have c335 : Exa Z h334 a "com/example/keelreach/keelreach/RedisOptions" := E_a.wr W334
  have c336 : Fld Z h334 a "com/example/keelreach/keelreach/RedisOptions" "maxPoolSize" "I" o_maxPoolSize := F_maxPoolSize.other W334 (Or.inr (slot_ne (Or.inl (hw _ (List.mem_of_getElem? (i := 20) rfl))) (Or.inl (hw _ (List.mem_of_getElem? (i := 63) rfl))) (by decide) (t := .int) (t' := .int) (by decide) (by decide)))
  have c337 : Fld Z h334 a "com/example/keelreach/keelreach/RedisOptions" "maxPoolWaiting" "I" o_maxPoolWaiting := F_maxPoolWaiting.other W334 (Or.inr (slot_ne (Or.inl (hw _ (List.mem_of_getElem? (i := 22) rfl))) (Or.inl (hw _ (List.mem_of_getElem? (i := 63) rfl))) (by decide) (t := .int) (t' := .int) (by decide) (by decide)))
  have c338 : Fld Z h334 a "com/example/keelreach/keelreach/RedisOptions" "maxCommandsInFlight" "I" o_maxCommandsInFlight := F_maxCommandsInFlight.other W334 (Or.inr (slot_ne (Or.inl (hw _ (List.mem_of_getElem? (i := 54) rfl))) (Or.inl (hw _ (List.mem_of_getElem? (i := 63) rfl))) (by decide) (t := .int) (t' := .int) (by decide) (by decide)))
  have c339 : Fld Z h334 a "com/example/keelreach/keelreach/RedisOptions" "autoPipeliningThreshold" "I" (.int n) := F_autoPipeliningThreshold.same W334
  have c340 : Fld Z h334 a "com/example/keelreach/keelreach/RedisOptions" "autoPipelining" "Z" o_autoPipelining := F_autoPipelining.other W334 (Or.inr (slot_ne (Or.inl (hw _ (List.mem_of_getElem? (i := 105) rfl))) (Or.inl (hw _ (List.mem_of_getElem? (i := 63) rfl))) (by decide) (t := .boolean) (t' := .int) (by decide) (by decide)))
  have pre341 : ∀ t_, Steps p.tables e below (T334.setTop (mkF m 25 #[.val (.ref a), .val (.int n)] [(.ref a)])) t_ → Steps p.tables e below (s₁.setTop (entryFrame m #[(.ref a), (.int n)] 2)) t_ := fun t_ k_ => pre0 t_ (by
    show Steps p.tables e below (s₁.setTop (mkF m 0 #[.val (.ref a), .val (.int n)] [])) _
    refine XS.iloadN X0.here hx rfl (hb hby d10_0) rfl ?_
    show Steps p.tables e below (s₁.setTop (mkF m 1 #[.val (.ref a), .val (.int n)] [(.int n)])) _
    refine XS.iconst X0.here hx rfl (hb hby d10_1) ?_
    show Steps p.tables e below (s₁.setTop (mkF m 2 #[.val (.ref a), .val (.int n)] [(.int (1 : Int32)), (.int n)])) _
    refine XS.icmpYes X0.here hx rfl (pc0 := 2) (pc' := 19) rfl (hb hby d10_2) rfl (flt hn).2.1 (by decide) (by decide) ?_
    show Steps p.tables e below (s₁.setTop (mkF m 19 #[.val (.ref a), .val (.int n)] [])) _
    refine XS.aloadN X0.here hx rfl (hb hby d10_19) rfl rfl ?_
    show Steps p.tables e below (s₁.setTop (mkF m 20 #[.val (.ref a), .val (.int n)] [(.ref a)])) _
    refine XS.iloadN X0.here hx rfl (hb hby d10_20) rfl ?_
    show Steps p.tables e below (s₁.setTop (mkF m 21 #[.val (.ref a), .val (.int n)] [(.int n), (.ref a)])) _
    refine st334 _ ?_
    show Steps p.tables e below (T334.setTop (mkF m 24 #[.val (.ref a), .val (.int n)] [])) _
    refine XS.aloadN X334.here hx rfl (hb hby d10_24) rfl rfl ?_
    show Steps p.tables e below (T334.setTop (mkF m 25 #[.val (.ref a), .val (.int n)] [(.ref a)])) _
    exact k_)
  obtain ⟨fs, hr, hrun, hended, hW, hsame⟩ := X334.leave (v := some (.ref a)) (fun h => by rw [Bd.returns] at h; cases h)
  refine ⟨_, _, pre341 _ ?_, hrun, hended, _, _, rfl, ?_, ⟨_, rfl⟩, hW, hsame.mono (by decide) (by decide)⟩
  · show Steps p.tables e below (T334.setTop (mkF m 25 #[.val (.ref a), .val (.int n)] [(.ref a)])) _
    exact retA X334 hx Bd.returns rfl rfl rfl (hb hby d10_25) hr
  · show Q_setAutoPipeliningThreshold Z a n o_maxPoolSize o_maxPoolWaiting o_maxCommandsInFlight o_autoPipeliningThreshold o_autoPipelining h0 n0 _ T334.heap _
    rw [e334]
    exact ⟨rfl, N334, K334, c335, c336, c337, c338, c339, c340⟩
theorem ef_getMaxPoolSize (m : MethodId) (a : Addr) : entryFrame m #[(.ref a)] 1 = mkF m 0 #[.val (.ref a)] [] := by first | (simp [entryFrame, mkF, argsToLocals, Value.category]; done) | rfl
def Q_getMaxPoolSize (Z : State) (a : Addr) (t : Int32) (h0 : Heap) (n0 : Nat) (v : Option Value) (h : Heap) (L : List Loc) : Prop := v = some (.int t) ∧ Fr n0 L ∧ h = h0
theorem d13_0 : decode prog_6_method_6_code 0 = .ok (.aload_n 0, 1) := by decide +kernel
theorem d13_1 : decode prog_6_method_6_code 1 = .ok (.getfield 18, 3) := by decide +kernel
theorem d13_4 : decode prog_6_method_6_code 4 = .ok (.ireturn, 1) := by decide +kernel
set_option maxRecDepth 65536 in
set_option maxHeartbeats 40000000 in
theorem rm_getMaxPoolSize (l : Launch) (Z : State) (a0 : Array Value) (hw : ∀ d ∈ tables_1, d.before a0 Z = true) (ws : List Jvm.Cond) (a : Addr) (t : Int32) (h0 : Heap) (n0 : Nat) (Z0 : n0 ≤ h0.size) (Ft : Fld Z h0 a "com/example/keelreach/keelreach/RedisOptions" "maxPoolSize" "I" (.int t)) :
    MetFree l (⟨"com/example/keelreach/keelreach/RedisOptions", "getMaxPoolSize", "()I"⟩ : MethodName) (head1 (Jvm.Cond.code (⟨"com/example/keelreach/keelreach/RedisOptions", "getMaxPoolSize", "()I"⟩ : MethodName) prog_6_method_6_code 1 (some .int) :: ws) ({ frames := 0, cells := 0, slots := 0, locals := 0 } : Room)) (fun a_ U_ => a_ = #[(.ref a)] ∧ Z.Warmed39 U_.vm ∧ U_.heap = h0) (fun _ _ _ _ _ => True) (fun _ U_ o_ V_ => ∃ v_ L_, o_ = .returned v_ ∧ Q_getMaxPoolSize Z a t h0 n0 v_ V_.heap L_ ∧ FrameEnd U_ o_ V_ L_ ({ frames := 0, cells := 0, slots := 0, locals := 0 } : Room).cells ({ frames := 0, cells := 0, slots := 0, locals := 0 } : Room).slots) := by
  refine MetFree.of_bodySF (plainFor_of_name pn_2) hisR ?_
  intro p e s m args below meth c s₁ Bd hml0 hP hK
  obtain ⟨rfl, hZ, hh⟩ := hP
  have hx := Bd.exec
  have hby := Bd.bytes
  have hml : c.maxLocals = 1 := hml0
  have hown : s.vm.findClass "com/example/keelreach/keelreach/RedisOptions" = some m.cls := findClass_of_methodNamed Bd.named
  have hnm := (name_of_methodNamed Bd.named Bd.method).1
  have X0 : Stand p l e ({ frames := 0, cells := 0, slots := 0, locals := 0 } : Room) s m #[(.ref a)] below meth c s₁ [] 0 0 := Stand.of_body Bd
  have e0 : s₁.heap = h0 := by rw [← hh, Bd.state]; rfl
  have N0 := Fr.nil n0
  have pre0 : ∀ t_, Steps p.tables e below (s₁.setTop (mkF m 0 #[.val (.ref a)] [])) t_ → Steps p.tables e below (s₁.setTop (entryFrame m #[(.ref a)] 1)) t_ := fun t_ k_ => castTop (ef_getMaxPoolSize m a) k_
  obtain ⟨T342, X342, e342, st342⟩ := getF X0 hx hZ hown (host := "") (Or.inl (hw _ (List.mem_of_getElem? (i := 19) rfl))) Via.refl e0 Ft (g := (mkF m 1 #[.val (.ref a)] [(.ref a)])) rfl rfl (hb hby d13_1)
  have pre343 : ∀ t_, Steps p.tables e below (T342.setTop (mkF m 4 #[.val (.ref a)] [(.int t)])) t_ → Steps p.tables e below (s₁.setTop (entryFrame m #[(.ref a)] 1)) t_ := fun t_ k_ => pre0 t_ (by
    show Steps p.tables e below (s₁.setTop (mkF m 0 #[.val (.ref a)] [])) _
    refine XS.aloadN X0.here hx rfl (hb hby d13_0) rfl rfl ?_
    show Steps p.tables e below (s₁.setTop (mkF m 1 #[.val (.ref a)] [(.ref a)])) _
    refine st342 _ ?_
    show Steps p.tables e below (T342.setTop (mkF m 4 #[.val (.ref a)] [(.int t)])) _
    exact k_)
  obtain ⟨fs, hr, hrun, hended, hW, hsame⟩ := X342.leave (v := some (.int t)) (fun h => by rw [Bd.returns] at h; cases h)
  refine ⟨_, _, pre343 _ ?_, hrun, hended, _, _, rfl, ?_, ⟨_, rfl⟩, hW, hsame.mono (by decide) (by decide)⟩
  · show Steps p.tables e below (T342.setTop (mkF m 4 #[.val (.ref a)] [(.int t)])) _
    exact retI X342 hx Bd.returns (hb hby d13_4) hr
  · show Q_getMaxPoolSize Z a t h0 n0 _ T342.heap _
    rw [e342]
    exact ⟨rfl, N0, rfl⟩
theorem ef_getMaxCommandsInFlight (m : MethodId) (a : Addr) : entryFrame m #[(.ref a)] 1 = mkF m 0 #[.val (.ref a)] [] := by first | (simp [entryFrame, mkF, argsToLocals, Value.category]; done) | rfl
def Q_getMaxCommandsInFlight (Z : State) (a : Addr) (t : Int32) (h0 : Heap) (n0 : Nat) (v : Option Value) (h : Heap) (L : List Loc) : Prop := v = some (.int t) ∧ Fr n0 L ∧ h = h0
theorem d12_0 : decode prog_6_method_18_code 0 = .ok (.aload_n 0, 1) := by decide +kernel
theorem d12_1 : decode prog_6_method_18_code 1 = .ok (.getfield 53, 3) := by decide +kernel
theorem d12_4 : decode prog_6_method_18_code 4 = .ok (.ireturn, 1) := by decide +kernel
set_option maxRecDepth 65536 in
set_option maxHeartbeats 40000000 in
theorem rm_getMaxCommandsInFlight (l : Launch) (Z : State) (a0 : Array Value) (hw : ∀ d ∈ tables_1, d.before a0 Z = true) (ws : List Jvm.Cond) (a : Addr) (t : Int32) (h0 : Heap) (n0 : Nat) (Z0 : n0 ≤ h0.size) (Ft : Fld Z h0 a "com/example/keelreach/keelreach/RedisOptions" "maxCommandsInFlight" "I" (.int t)) :
    MetFree l (⟨"com/example/keelreach/keelreach/RedisOptions", "getMaxCommandsInFlight", "()I"⟩ : MethodName) (head1 (Jvm.Cond.code (⟨"com/example/keelreach/keelreach/RedisOptions", "getMaxCommandsInFlight", "()I"⟩ : MethodName) prog_6_method_18_code 1 (some .int) :: ws) ({ frames := 0, cells := 0, slots := 0, locals := 0 } : Room)) (fun a_ U_ => a_ = #[(.ref a)] ∧ Z.Warmed39 U_.vm ∧ U_.heap = h0) (fun _ _ _ _ _ => True) (fun _ U_ o_ V_ => ∃ v_ L_, o_ = .returned v_ ∧ Q_getMaxCommandsInFlight Z a t h0 n0 v_ V_.heap L_ ∧ FrameEnd U_ o_ V_ L_ ({ frames := 0, cells := 0, slots := 0, locals := 0 } : Room).cells ({ frames := 0, cells := 0, slots := 0, locals := 0 } : Room).slots) := by
  refine MetFree.of_bodySF (plainFor_of_name pn_2) hisR ?_
  intro p e s m args below meth c s₁ Bd hml0 hP hK
  obtain ⟨rfl, hZ, hh⟩ := hP
  have hx := Bd.exec
  have hby := Bd.bytes
  have hml : c.maxLocals = 1 := hml0
  have hown : s.vm.findClass "com/example/keelreach/keelreach/RedisOptions" = some m.cls := findClass_of_methodNamed Bd.named
  have hnm := (name_of_methodNamed Bd.named Bd.method).1
  have X0 : Stand p l e ({ frames := 0, cells := 0, slots := 0, locals := 0 } : Room) s m #[(.ref a)] below meth c s₁ [] 0 0 := Stand.of_body Bd
  have e0 : s₁.heap = h0 := by rw [← hh, Bd.state]; rfl
  have N0 := Fr.nil n0
  have pre0 : ∀ t_, Steps p.tables e below (s₁.setTop (mkF m 0 #[.val (.ref a)] [])) t_ → Steps p.tables e below (s₁.setTop (entryFrame m #[(.ref a)] 1)) t_ := fun t_ k_ => castTop (ef_getMaxCommandsInFlight m a) k_
  obtain ⟨T344, X344, e344, st344⟩ := getF X0 hx hZ hown (host := "") (Or.inl (hw _ (List.mem_of_getElem? (i := 53) rfl))) Via.refl e0 Ft (g := (mkF m 1 #[.val (.ref a)] [(.ref a)])) rfl rfl (hb hby d12_1)
  have pre345 : ∀ t_, Steps p.tables e below (T344.setTop (mkF m 4 #[.val (.ref a)] [(.int t)])) t_ → Steps p.tables e below (s₁.setTop (entryFrame m #[(.ref a)] 1)) t_ := fun t_ k_ => pre0 t_ (by
    show Steps p.tables e below (s₁.setTop (mkF m 0 #[.val (.ref a)] [])) _
    refine XS.aloadN X0.here hx rfl (hb hby d12_0) rfl rfl ?_
    show Steps p.tables e below (s₁.setTop (mkF m 1 #[.val (.ref a)] [(.ref a)])) _
    refine st344 _ ?_
    show Steps p.tables e below (T344.setTop (mkF m 4 #[.val (.ref a)] [(.int t)])) _
    exact k_)
  obtain ⟨fs, hr, hrun, hended, hW, hsame⟩ := X344.leave (v := some (.int t)) (fun h => by rw [Bd.returns] at h; cases h)
  refine ⟨_, _, pre345 _ ?_, hrun, hended, _, _, rfl, ?_, ⟨_, rfl⟩, hW, hsame.mono (by decide) (by decide)⟩
  · show Steps p.tables e below (T344.setTop (mkF m 4 #[.val (.ref a)] [(.int t)])) _
    exact retI X344 hx Bd.returns (hb hby d12_4) hr
  · show Q_getMaxCommandsInFlight Z a t h0 n0 _ T344.heap _
    rw [e344]
    exact ⟨rfl, N0, rfl⟩
theorem ef_getAutoPipeliningThreshold (m : MethodId) (a : Addr) : entryFrame m #[(.ref a)] 1 = mkF m 0 #[.val (.ref a)] [] := by first | (simp [entryFrame, mkF, argsToLocals, Value.category]; done) | rfl
def Q_getAutoPipeliningThreshold (Z : State) (a : Addr) (t : Int32) (h0 : Heap) (n0 : Nat) (v : Option Value) (h : Heap) (L : List Loc) : Prop := v = some (.int t) ∧ Fr n0 L ∧ h = h0
theorem d11_0 : decode prog_6_method_24_code 0 = .ok (.aload_n 0, 1) := by decide +kernel
theorem d11_1 : decode prog_6_method_24_code 1 = .ok (.getfield 62, 3) := by decide +kernel
theorem d11_4 : decode prog_6_method_24_code 4 = .ok (.ireturn, 1) := by decide +kernel
set_option maxRecDepth 65536 in
set_option maxHeartbeats 40000000 in
theorem rm_getAutoPipeliningThreshold (l : Launch) (Z : State) (a0 : Array Value) (hw : ∀ d ∈ tables_1, d.before a0 Z = true) (ws : List Jvm.Cond) (a : Addr) (t : Int32) (h0 : Heap) (n0 : Nat) (Z0 : n0 ≤ h0.size) (Ft : Fld Z h0 a "com/example/keelreach/keelreach/RedisOptions" "autoPipeliningThreshold" "I" (.int t)) :
    MetFree l (⟨"com/example/keelreach/keelreach/RedisOptions", "getAutoPipeliningThreshold", "()I"⟩ : MethodName) (head1 (Jvm.Cond.code (⟨"com/example/keelreach/keelreach/RedisOptions", "getAutoPipeliningThreshold", "()I"⟩ : MethodName) prog_6_method_24_code 1 (some .int) :: ws) ({ frames := 0, cells := 0, slots := 0, locals := 0 } : Room)) (fun a_ U_ => a_ = #[(.ref a)] ∧ Z.Warmed39 U_.vm ∧ U_.heap = h0) (fun _ _ _ _ _ => True) (fun _ U_ o_ V_ => ∃ v_ L_, o_ = .returned v_ ∧ Q_getAutoPipeliningThreshold Z a t h0 n0 v_ V_.heap L_ ∧ FrameEnd U_ o_ V_ L_ ({ frames := 0, cells := 0, slots := 0, locals := 0 } : Room).cells ({ frames := 0, cells := 0, slots := 0, locals := 0 } : Room).slots) := by
  refine MetFree.of_bodySF (plainFor_of_name pn_2) hisR ?_
  intro p e s m args below meth c s₁ Bd hml0 hP hK
  obtain ⟨rfl, hZ, hh⟩ := hP
  have hx := Bd.exec
  have hby := Bd.bytes
  have hml : c.maxLocals = 1 := hml0
  have hown : s.vm.findClass "com/example/keelreach/keelreach/RedisOptions" = some m.cls := findClass_of_methodNamed Bd.named
  have hnm := (name_of_methodNamed Bd.named Bd.method).1
  have X0 : Stand p l e ({ frames := 0, cells := 0, slots := 0, locals := 0 } : Room) s m #[(.ref a)] below meth c s₁ [] 0 0 := Stand.of_body Bd
  have e0 : s₁.heap = h0 := by rw [← hh, Bd.state]; rfl
  have N0 := Fr.nil n0
  have pre0 : ∀ t_, Steps p.tables e below (s₁.setTop (mkF m 0 #[.val (.ref a)] [])) t_ → Steps p.tables e below (s₁.setTop (entryFrame m #[(.ref a)] 1)) t_ := fun t_ k_ => castTop (ef_getAutoPipeliningThreshold m a) k_
  obtain ⟨T346, X346, e346, st346⟩ := getF X0 hx hZ hown (host := "") (Or.inl (hw _ (List.mem_of_getElem? (i := 62) rfl))) Via.refl e0 Ft (g := (mkF m 1 #[.val (.ref a)] [(.ref a)])) rfl rfl (hb hby d11_1)
  have pre347 : ∀ t_, Steps p.tables e below (T346.setTop (mkF m 4 #[.val (.ref a)] [(.int t)])) t_ → Steps p.tables e below (s₁.setTop (entryFrame m #[(.ref a)] 1)) t_ := fun t_ k_ => pre0 t_ (by
    show Steps p.tables e below (s₁.setTop (mkF m 0 #[.val (.ref a)] [])) _
    refine XS.aloadN X0.here hx rfl (hb hby d11_0) rfl rfl ?_
    show Steps p.tables e below (s₁.setTop (mkF m 1 #[.val (.ref a)] [(.ref a)])) _
    refine st346 _ ?_
    show Steps p.tables e below (T346.setTop (mkF m 4 #[.val (.ref a)] [(.int t)])) _
    exact k_)
  obtain ⟨fs, hr, hrun, hended, hW, hsame⟩ := X346.leave (v := some (.int t)) (fun h => by rw [Bd.returns] at h; cases h)
  refine ⟨_, _, pre347 _ ?_, hrun, hended, _, _, rfl, ?_, ⟨_, rfl⟩, hW, hsame.mono (by decide) (by decide)⟩
  · show Steps p.tables e below (T346.setTop (mkF m 4 #[.val (.ref a)] [(.int t)])) _
    exact retI X346 hx Bd.returns (hb hby d11_4) hr
  · show Q_getAutoPipeliningThreshold Z a t h0 n0 _ T346.heap _
    rw [e346]
    exact ⟨rfl, N0, rfl⟩
theorem ef_isAutoPipelining (m : MethodId) (a : Addr) : entryFrame m #[(.ref a)] 1 = mkF m 0 #[.val (.ref a)] [] := by first | (simp [entryFrame, mkF, argsToLocals, Value.category]; done) | rfl
def Q_isAutoPipelining (Z : State) (a : Addr) (h0 : Heap) (n0 : Nat) (v : Option Value) (h : Heap) (L : List Loc) : Prop := v = some (.int (0 : Int32)) ∧ Fr n0 L ∧ h = h0
theorem d14_0 : decode prog_6_method_20_code 0 = .ok (.aload_n 0, 1) := by decide +kernel
theorem d14_1 : decode prog_6_method_20_code 1 = .ok (.getfield 129, 3) := by decide +kernel
theorem d14_4 : decode prog_6_method_20_code 4 = .ok (.ireturn, 1) := by decide +kernel
set_option maxRecDepth 65536 in
set_option maxHeartbeats 40000000 in
theorem rm_isAutoPipelining (l : Launch) (Z : State) (a0 : Array Value) (hw : ∀ d ∈ tables_1, d.before a0 Z = true) (ws : List Jvm.Cond) (a : Addr) (h0 : Heap) (n0 : Nat) (Z0 : n0 ≤ h0.size) (Ft : Fld Z h0 a "com/example/keelreach/keelreach/RedisOptions" "autoPipelining" "Z" (.int (0 : Int32))) :
    MetFree l (⟨"com/example/keelreach/keelreach/RedisOptions", "isAutoPipelining", "()Z"⟩ : MethodName) (head1 (Jvm.Cond.code (⟨"com/example/keelreach/keelreach/RedisOptions", "isAutoPipelining", "()Z"⟩ : MethodName) prog_6_method_20_code 1 (some .boolean) :: ws) ({ frames := 0, cells := 0, slots := 0, locals := 0 } : Room)) (fun a_ U_ => a_ = #[(.ref a)] ∧ Z.Warmed39 U_.vm ∧ U_.heap = h0) (fun _ _ _ _ _ => True) (fun _ U_ o_ V_ => ∃ v_ L_, o_ = .returned v_ ∧ Q_isAutoPipelining Z a h0 n0 v_ V_.heap L_ ∧ FrameEnd U_ o_ V_ L_ ({ frames := 0, cells := 0, slots := 0, locals := 0 } : Room).cells ({ frames := 0, cells := 0, slots := 0, locals := 0 } : Room).slots) := by
  refine MetFree.of_bodySF (plainFor_of_name pn_2) hisR ?_
  intro p e s m args below meth c s₁ Bd hml0 hP hK
  obtain ⟨rfl, hZ, hh⟩ := hP
  have hx := Bd.exec
  have hby := Bd.bytes
  have hml : c.maxLocals = 1 := hml0
  have hown : s.vm.findClass "com/example/keelreach/keelreach/RedisOptions" = some m.cls := findClass_of_methodNamed Bd.named
  have hnm := (name_of_methodNamed Bd.named Bd.method).1
  have X0 : Stand p l e ({ frames := 0, cells := 0, slots := 0, locals := 0 } : Room) s m #[(.ref a)] below meth c s₁ [] 0 0 := Stand.of_body Bd
  have e0 : s₁.heap = h0 := by rw [← hh, Bd.state]; rfl
  have N0 := Fr.nil n0
  have pre0 : ∀ t_, Steps p.tables e below (s₁.setTop (mkF m 0 #[.val (.ref a)] [])) t_ → Steps p.tables e below (s₁.setTop (entryFrame m #[(.ref a)] 1)) t_ := fun t_ k_ => castTop (ef_isAutoPipelining m a) k_
  obtain ⟨T348, X348, e348, st348⟩ := getF X0 hx hZ hown (host := "") (Or.inl (hw _ (List.mem_of_getElem? (i := 104) rfl))) Via.refl e0 Ft (g := (mkF m 1 #[.val (.ref a)] [(.ref a)])) rfl rfl (hb hby d14_1)
  have pre349 : ∀ t_, Steps p.tables e below (T348.setTop (mkF m 4 #[.val (.ref a)] [(.int (0 : Int32))])) t_ → Steps p.tables e below (s₁.setTop (entryFrame m #[(.ref a)] 1)) t_ := fun t_ k_ => pre0 t_ (by
    show Steps p.tables e below (s₁.setTop (mkF m 0 #[.val (.ref a)] [])) _
    refine XS.aloadN X0.here hx rfl (hb hby d14_0) rfl rfl ?_
    show Steps p.tables e below (s₁.setTop (mkF m 1 #[.val (.ref a)] [(.ref a)])) _
    refine st348 _ ?_
    show Steps p.tables e below (T348.setTop (mkF m 4 #[.val (.ref a)] [(.int (0 : Int32))])) _
    exact k_)
  obtain ⟨fs, hr, hrun, hended, hW, hsame⟩ := X348.leave (v := some (.int (0 : Int32))) (fun h => by rw [Bd.returns] at h; cases h)
  refine ⟨_, _, pre349 _ ?_, hrun, hended, _, _, rfl, ?_, ⟨_, rfl⟩, hW, hsame.mono (by decide) (by decide)⟩
  · show Steps p.tables e below (T348.setTop (mkF m 4 #[.val (.ref a)] [(.int (0 : Int32))])) _
    exact retN X348 hx (t := .boolean) Bd.returns (by simp) (hb hby d14_4) hr
  · show Q_isAutoPipelining Z a h0 n0 _ T348.heap _
    rw [e348]
    exact ⟨rfl, N0, rfl⟩
theorem ef_0 (m : MethodId) (k0 : Int32) (k1 : Int32) (k2 : Int32) : entryFrame m #[(.int k0), (.int k1), (.int k2)] maxLocals = mkF m 0 #[.val (.int k0), .val (.int k1), .val (.int k2), .unset, .unset, .unset, .unset, .unset, .unset, .unset] [] := by first | (simp [entryFrame, mkF, argsToLocals, Value.category, maxLocals]; done) | rfl
def Q_0 (Z : State) (k0 : Int32) (k1 : Int32) (k2 : Int32) (w_RESP3 : Addr) (w_ZERO : Addr) (w_EL : Addr) (h0 : Heap) (n0 : Nat) (v : Option Value) (h : Heap) (L : List Loc) : Prop := v = some (.int (1 : Int32)) ∧ Fr n0 L
theorem pn_3 : plainName "com/example/keelreach/keelreach/RedisOptionsSetAutoPipeliningThresholdPinLaw" = true := by first | (simp [plainName, overriddenIn]; done) | decide +kernel
theorem pd_4 : parseMethodDescriptor "(II)I" = some ⟨[.int, .int], some .int⟩ := by decide +kernel
theorem pd_5 : parseMethodDescriptor "()V" = some ⟨[], none⟩ := by decide +kernel
theorem pd_6 : parseMethodDescriptor "(I)Lcom/example/keelreach/keelreach/RedisOptions;" = some ⟨[.int], some (.object "com/example/keelreach/keelreach/RedisOptions")⟩ := by decide +kernel
theorem pd_7 : parseMethodDescriptor "()I" = some ⟨[], some .int⟩ := by decide +kernel
theorem pd_8 : parseMethodDescriptor "()Z" = some ⟨[], some .boolean⟩ := by decide +kernel
set_option maxRecDepth 65536 in
set_option maxHeartbeats 40000000 in
theorem rm_0 (l : Launch) (Z : State) (a0 : Array Value) (hw : ∀ d ∈ tables_1, d.before a0 Z = true) (ws : List Jvm.Cond) (k0 : Int32) (k1 : Int32) (k2 : Int32) (w_RESP3 : Addr) (w_ZERO : Addr) (w_EL : Addr) (h0 : Heap) (n0 : Nat) (Z0 : n0 ≤ h0.size) (S_RESP3 : Sta Z h0 "com/example/keelreach/keelreach/ProtocolVersion" "RESP3" "Lcom/example/keelreach/keelreach/ProtocolVersion;" (.ref w_RESP3)) (S_ZERO : Sta Z h0 "java/time/Duration" "ZERO" "Ljava/time/Duration;" (.ref w_ZERO)) (S_EL : Sta Z h0 "java/util/ImmutableCollections" "EMPTY_LIST" "Ljava/util/ImmutableCollections$ListN;" (.ref w_EL)) :
    MetFree l x (head1 (Jvm.Cond.code x code maxLocals ret :: ws) room_1) (fun a_ U_ => a_ = #[(.int k0), (.int k1), (.int k2)] ∧ Z.Warmed39 U_.vm ∧ U_.heap = h0) (fun _ _ _ _ _ => True) (fun _ U_ o_ V_ => ∃ v_ L_, o_ = .returned v_ ∧ Q_0 Z k0 k1 k2 w_RESP3 w_ZERO w_EL h0 n0 v_ V_.heap L_ ∧ FrameEnd U_ o_ V_ L_ room_1.cells room_1.slots) := by
  refine MetFree.of_bodySF (plainFor_of_name pn_3) hisR ?_
  intro p e s m args below meth c s₁ Bd hml0 hP hK
  obtain ⟨rfl, hZ, hh⟩ := hP
  have hx := Bd.exec
  have hby := Bd.bytes
  have hml : c.maxLocals = 10 := hml0
  have hown : s.vm.findClass "com/example/keelreach/keelreach/RedisOptionsSetAutoPipeliningThresholdPinLaw" = some m.cls := findClass_of_methodNamed Bd.named
  have hnm := (name_of_methodNamed Bd.named Bd.method).1
  have X0 : Stand p l e room_1 s m #[(.int k0), (.int k1), (.int k2)] below meth c s₁ [] 0 0 := Stand.of_body Bd
  have e0 : s₁.heap = h0 := by rw [← hh, Bd.state]; rfl
  have N0 := Fr.nil n0
  have pre0 : ∀ t_, Steps p.tables e below (s₁.setTop (mkF m 0 #[.val (.int k0), .val (.int k1), .val (.int k2), .unset, .unset, .unset, .unset, .unset, .unset, .unset] [])) t_ → Steps p.tables e below (s₁.setTop (entryFrame m #[(.int k0), (.int k1), (.int k2)] maxLocals)) t_ := fun t_ k_ => castTop (ef_0 m k0 k1 k2) k_
  have O0 := own_ext_refl h0
  obtain ⟨v350, _, ⟨T350, L350, k350, n350⟩, -, X350, ⟨Lc350, hQ350, l350, y350, z350⟩, st350⟩ := Jvm.LawKit.callS X0 hx (y := (⟨"java/lang/Math", "max", "(II)I"⟩ : MethodName)) hown (mvT hZ (hw _ (List.mem_of_getElem? (i := 1) rfl))) (mvT hZ (hw _ (List.mem_of_getElem? (i := 2) rfl))) (mvT hZ (hw _ (List.mem_of_getElem? (i := 3) rfl))) (mvT hZ (hw _ (List.mem_of_getElem? (i := 4) rfl))) (by decide) (backOf (W := 0) (rm_max l Z a0 hw [] (1 : Int32) (k0 &&& (2147483647 : Int32)) h0 n0 Z0 ) hZ (hw _ (List.mem_of_getElem? (i := 4) rfl)) (hw _ (List.mem_of_getElem? (i := 3) rfl)) (by decide) (by decide)) (g := (mkF m 5 #[.val (.int k0), .val (.int k1), .val (.int k2), .unset, .unset, .unset, .unset, .unset, .unset, .unset] [(.int (k0 &&& (2147483647 : Int32))), (.int (1 : Int32))])) rfl (by rw [hml]; rfl) (argsL := [(.int (1 : Int32)), (.int (k0 &&& (2147483647 : Int32)))]) (rest := []) (lenOf pd_4 rfl) rfl (by show 2 * 0 + _ ≤ _; exact Nat.le_of_eq rfl) (hb hby at_5) (fun _ _ => ⟨rfl, e0, (by decide : 0 + 0 ≤ _), (by decide : 0 + 0 ≤ _)⟩)
  dsimp only [Pt.U, Pt.locs, Pt.cells, Pt.slots] at X350 l350 y350 z350 st350 hQ350
  subst l350 y350 z350
  obtain ⟨hv350, N350q, e350⟩ := hQ350
  have N350 := Fr.app N0 N350q
  subst hv350
  obtain ⟨v351, _, ⟨T351, L351, k351, n351⟩, -, X351, ⟨Lc351, hQ351, l351, y351, z351⟩, st351⟩ := Jvm.LawKit.callS X350 hx (y := (⟨"java/lang/Math", "max", "(II)I"⟩ : MethodName)) hown (mvT hZ (hw _ (List.mem_of_getElem? (i := 1) rfl))) (mvT hZ (hw _ (List.mem_of_getElem? (i := 2) rfl))) (mvT hZ (hw _ (List.mem_of_getElem? (i := 3) rfl))) (mvT hZ (hw _ (List.mem_of_getElem? (i := 4) rfl))) (by decide) (backOf (W := 0) (rm_max l Z a0 hw [] (1 : Int32) (k1 &&& (2147483647 : Int32)) h0 n0 Z0 ) hZ (hw _ (List.mem_of_getElem? (i := 4) rfl)) (hw _ (List.mem_of_getElem? (i := 3) rfl)) (by decide) (by decide)) (g := (mkF m 14 #[.val (.int k0), .val (.int k1), .val (.int k2), .val (.int (own_max (1 : Int32) (k0 &&& (2147483647 : Int32)))), .unset, .unset, .unset, .unset, .unset, .unset] [(.int (k1 &&& (2147483647 : Int32))), (.int (1 : Int32))])) rfl (by rw [hml]; rfl) (argsL := [(.int (1 : Int32)), (.int (k1 &&& (2147483647 : Int32)))]) (rest := []) (lenOf pd_4 rfl) rfl (by show 2 * 0 + _ ≤ _; exact Nat.le_of_eq rfl) (hb hby at_14) (fun _ _ => ⟨rfl, e350, (by decide : 0 + 0 ≤ _), (by decide : 0 + 0 ≤ _)⟩)
  dsimp only [Pt.U, Pt.locs, Pt.cells, Pt.slots] at X351 l351 y351 z351 st351 hQ351
  subst l351 y351 z351
  obtain ⟨hv351, N351q, e351⟩ := hQ351
  have N351 := Fr.app N350 N351q
  subst hv351
  obtain ⟨v352, _, ⟨T352, L352, k352, n352⟩, -, X352, ⟨Lc352, hQ352, l352, y352, z352⟩, st352⟩ := Jvm.LawKit.callS X351 hx (y := (⟨"java/lang/Math", "max", "(II)I"⟩ : MethodName)) hown (mvT hZ (hw _ (List.mem_of_getElem? (i := 1) rfl))) (mvT hZ (hw _ (List.mem_of_getElem? (i := 2) rfl))) (mvT hZ (hw _ (List.mem_of_getElem? (i := 3) rfl))) (mvT hZ (hw _ (List.mem_of_getElem? (i := 4) rfl))) (by decide) (backOf (W := 0) (rm_max l Z a0 hw [] (1 : Int32) (k2 &&& (2147483647 : Int32)) h0 n0 Z0 ) hZ (hw _ (List.mem_of_getElem? (i := 4) rfl)) (hw _ (List.mem_of_getElem? (i := 3) rfl)) (by decide) (by decide)) (g := (mkF m 24 #[.val (.int k0), .val (.int k1), .val (.int k2), .val (.int (own_max (1 : Int32) (k0 &&& (2147483647 : Int32)))), .val (.int (own_max (1 : Int32) (k1 &&& (2147483647 : Int32)))), .unset, .unset, .unset, .unset, .unset] [(.int (k2 &&& (2147483647 : Int32))), (.int (1 : Int32))])) rfl (by rw [hml]; rfl) (argsL := [(.int (1 : Int32)), (.int (k2 &&& (2147483647 : Int32)))]) (rest := []) (lenOf pd_4 rfl) rfl (by show 2 * 0 + _ ≤ _; exact Nat.le_of_eq rfl) (hb hby at_24) (fun _ _ => ⟨rfl, e351, (by decide : 0 + 0 ≤ _), (by decide : 0 + 0 ≤ _)⟩)
  dsimp only [Pt.U, Pt.locs, Pt.cells, Pt.slots] at X352 l352 y352 z352 st352 hQ352
  subst l352 y352 z352
  obtain ⟨hv352, N352q, e352⟩ := hQ352
  have N352 := Fr.app N351 N352q
  subst hv352
  obtain ⟨T353, h353, X353, e353, E353, A353, D353, -, st353⟩ := newO X352 hx hZ hown (hw _ (List.mem_of_getElem? (i := 5) rfl)) (hw _ (List.mem_of_getElem? (i := 6) rfl)) (hw _ (List.mem_of_getElem? (i := 7) rfl)) e352 (g := (mkF m 29 #[.val (.int k0), .val (.int k1), .val (.int k2), .val (.int (own_max (1 : Int32) (k0 &&& (2147483647 : Int32)))), .val (.int (own_max (1 : Int32) (k1 &&& (2147483647 : Int32)))), .val (.int (own_max (1 : Int32) (k2 &&& (2147483647 : Int32)))), .unset, .unset, .unset, .unset] [])) rfl (hb hby at_29) (by decide) (by decide)
  obtain ⟨b353, g353⟩ : ∃ z, z = h0.size := ⟨_, rfl⟩
  rw [← g353] at A353 D353 st353
  have gg_b353 : n0 ≤ b353 := Nat.le_trans Z0 (Nat.le_of_eq g353.symm)
  have sz_b353 : h0.size ≤ b353 := Nat.le_trans O0.1 (Nat.le_of_eq g353.symm)
  have O354 := own_ext_trans O0 E353
  have Zs354 := Nat.le_trans Z0 (E353).1
  have c355 : Sta Z h353 "com/example/keelreach/keelreach/ProtocolVersion" "RESP3" "Lcom/example/keelreach/keelreach/ProtocolVersion;" (.ref w_RESP3) := S_RESP3.ext E353
  have c356 : Sta Z h353 "java/time/Duration" "ZERO" "Ljava/time/Duration;" (.ref w_ZERO) := S_ZERO.ext E353
  have c357 : Sta Z h353 "java/util/ImmutableCollections" "EMPTY_LIST" "Ljava/util/ImmutableCollections$ListN;" (.ref w_EL) := S_EL.ext E353
  have F353_preferredProtocolVersion : Fld Z h353 b353 "com/example/keelreach/keelreach/RedisOptions" "preferredProtocolVersion" "Lcom/example/keelreach/keelreach/ProtocolVersion;" .null := D353 (Or.inl (hw _ (List.mem_of_getElem? (i := 18) rfl))) (ty := (.object "com/example/keelreach/keelreach/ProtocolVersion")) (by decide)
  have F353_maxPoolSize : Fld Z h353 b353 "com/example/keelreach/keelreach/RedisOptions" "maxPoolSize" "I" (.int (0 : Int32)) := D353 (Or.inl (hw _ (List.mem_of_getElem? (i := 20) rfl))) (ty := .int) (by decide)
  have F353_maxPoolWaiting : Fld Z h353 b353 "com/example/keelreach/keelreach/RedisOptions" "maxPoolWaiting" "I" (.int (0 : Int32)) := D353 (Or.inl (hw _ (List.mem_of_getElem? (i := 22) rfl))) (ty := .int) (by decide)
  have F353_poolCleanerInterval : Fld Z h353 b353 "com/example/keelreach/keelreach/RedisOptions" "poolCleanerInterval" "Ljava/time/Duration;" .null := D353 (Or.inl (hw _ (List.mem_of_getElem? (i := 43) rfl))) (ty := (.object "java/time/Duration")) (by decide)
  have F353_poolRecycleTimeout : Fld Z h353 b353 "com/example/keelreach/keelreach/RedisOptions" "poolRecycleTimeout" "Ljava/time/Duration;" .null := D353 (Or.inl (hw _ (List.mem_of_getElem? (i := 46) rfl))) (ty := (.object "java/time/Duration")) (by decide)
  have F353_connectTimeout : Fld Z h353 b353 "com/example/keelreach/keelreach/RedisOptions" "connectTimeout" "Ljava/time/Duration;" .null := D353 (Or.inl (hw _ (List.mem_of_getElem? (i := 49) rfl))) (ty := (.object "java/time/Duration")) (by decide)
  have F353_commandTimeout : Fld Z h353 b353 "com/example/keelreach/keelreach/RedisOptions" "commandTimeout" "Ljava/time/Duration;" .null := D353 (Or.inl (hw _ (List.mem_of_getElem? (i := 52) rfl))) (ty := (.object "java/time/Duration")) (by decide)
  have F353_maxCommandsInFlight : Fld Z h353 b353 "com/example/keelreach/keelreach/RedisOptions" "maxCommandsInFlight" "I" (.int (0 : Int32)) := D353 (Or.inl (hw _ (List.mem_of_getElem? (i := 54) rfl))) (ty := .int) (by decide)
  have F353_autoPipeliningInterval : Fld Z h353 b353 "com/example/keelreach/keelreach/RedisOptions" "autoPipeliningInterval" "Ljava/time/Duration;" .null := D353 (Or.inl (hw _ (List.mem_of_getElem? (i := 61) rfl))) (ty := (.object "java/time/Duration")) (by decide)
  have F353_autoPipeliningThreshold : Fld Z h353 b353 "com/example/keelreach/keelreach/RedisOptions" "autoPipeliningThreshold" "I" (.int (0 : Int32)) := D353 (Or.inl (hw _ (List.mem_of_getElem? (i := 63) rfl))) (ty := .int) (by decide)
  have F353_trustedCertificates : Fld Z h353 b353 "com/example/keelreach/keelreach/RedisOptions" "trustedCertificates" "Ljava/util/List;" .null := D353 (Or.inl (hw _ (List.mem_of_getElem? (i := 71) rfl))) (ty := (.object "java/util/List")) (by decide)
  have F353_verifyHostName : Fld Z h353 b353 "com/example/keelreach/keelreach/RedisOptions" "verifyHostName" "Z" (.int (0 : Int32)) := D353 (Or.inl (hw _ (List.mem_of_getElem? (i := 73) rfl))) (ty := .boolean) (by decide)
  have F353_autoPipelining : Fld Z h353 b353 "com/example/keelreach/keelreach/RedisOptions" "autoPipelining" "Z" (.int (0 : Int32)) := D353 (Or.inl (hw _ (List.mem_of_getElem? (i := 105) rfl))) (ty := .boolean) (by decide)
  obtain ⟨v358, _, ⟨T358, L358, k358, n358⟩, -, X358, ⟨Lc358, hQ358, l358, y358, z358⟩, st358⟩ := X353.specialBack hx (y := (⟨"com/example/keelreach/keelreach/RedisOptions", "<init>", "()V"⟩ : MethodName)) rfl hown (mvT hZ (hw _ (List.mem_of_getElem? (i := 8) rfl))) (mvT hZ (hw _ (List.mem_of_getElem? (i := 9) rfl))) (mvT hZ (hw _ (List.mem_of_getElem? (i := 10) rfl))) (by decide) (backOf (W := 1) (rm_rinit l Z a0 hw [] b353 .null (.int (0 : Int32)) (.int (0 : Int32)) .null .null .null .null (.int (0 : Int32)) .null (.int (0 : Int32)) .null (.int (0 : Int32)) (.int (0 : Int32)) w_RESP3 w_ZERO w_EL h353 n0 Zs354 A353 gg_b353 F353_preferredProtocolVersion F353_maxPoolSize F353_maxPoolWaiting F353_poolCleanerInterval F353_poolRecycleTimeout F353_connectTimeout F353_commandTimeout F353_maxCommandsInFlight F353_autoPipeliningInterval F353_autoPipeliningThreshold F353_trustedCertificates F353_verifyHostName F353_autoPipelining c355 c356 c357) hZ (hw _ (List.mem_of_getElem? (i := 10) rfl)) (hw _ (List.mem_of_getElem? (i := 7) rfl)) (by decide) (by decide)) (g := (mkF m 33 #[.val (.int k0), .val (.int k1), .val (.int k2), .val (.int (own_max (1 : Int32) (k0 &&& (2147483647 : Int32)))), .val (.int (own_max (1 : Int32) (k1 &&& (2147483647 : Int32)))), .val (.int (own_max (1 : Int32) (k2 &&& (2147483647 : Int32)))), .unset, .unset, .unset, .unset] [(.ref b353), (.ref b353)])) rfl (by rw [hml]; rfl) (Steps.refl _) (a := b353) (argsL := []) (rest := [(.ref b353)]) (lenOf pd_5 rfl) rfl (by show 2 * 0 + _ ≤ _; exact Nat.le_of_eq rfl) (hb hby at_33) (fun _ _ => ⟨rfl, e353, (by decide : 1 + 4 ≤ _), (by decide : 16 + 8 ≤ _)⟩)
  dsimp only [Pt.U, Pt.locs, Pt.cells, Pt.slots] at X358 l358 y358 z358 st358 hQ358
  subst l358 y358 z358
  obtain ⟨hv358, N358q, M358⟩ := hQ358
  have N358 := Fr.app N352 N358q
  subst hv358
  obtain ⟨K358k, E358x, F358_maxPoolSize, F358_maxPoolWaiting, F358_maxCommandsInFlight, F358_autoPipeliningThreshold, F358_autoPipelining⟩ := M358
  have O359 := own_ext_keep O354 K358k (allS sz_b353 all0)
  have Zs359 := Nat.le_trans Zs354 K358k.1
  have c360 : Exa Z T358.heap b353 "com/example/keelreach/keelreach/RedisOptions" := A353.keep K358k
  obtain ⟨cq361, kq361, q361a, q361b, q361c⟩ := isOf hZ rfl E358x
  obtain ⟨v361, _, ⟨T361, L361, k361, n361⟩, -, X361, ⟨Lc361, hQ361, l361, y361, z361⟩, st361⟩ := X358.virtualBack hx (y := (⟨"com/example/keelreach/keelreach/RedisOptions", "setMaxCommandsInFlight", "(I)Lcom/example/keelreach/keelreach/RedisOptions;"⟩ : MethodName)) (z := (⟨"com/example/keelreach/keelreach/RedisOptions", "setMaxCommandsInFlight", "(I)Lcom/example/keelreach/keelreach/RedisOptions;"⟩ : MethodName)) hown (mvT hZ (hw _ (List.mem_of_getElem? (i := 74) rfl))) (mvT hZ (hw _ (List.mem_of_getElem? (i := 75) rfl))) (notFace_of_selects (args := #[]) (mvT hZ (hw _ (List.mem_of_getElem? (i := 77) rfl)))) (mvT hZ (hw _ (List.mem_of_getElem? (i := 77) rfl))) (mvT hZ (hw _ (List.mem_of_getElem? (i := 76) rfl))) (by decide) (backOf (W := 0) (rm_setMaxCommandsInFlight l Z a0 hw [] b353 (own_max (1 : Int32) (k2 &&& (2147483647 : Int32))) (.int (6 : Int32)) (.int (24 : Int32)) (.int (10000 : Int32)) (.int (128 : Int32)) (.int (0 : Int32)) T358.heap n0 Zs359 E358x gg_b353 F358_maxPoolSize F358_maxPoolWaiting F358_maxCommandsInFlight F358_autoPipeliningThreshold F358_autoPipelining (own_max_ge (k2 &&& (2147483647 : Int32)))) hZ (hw _ (List.mem_of_getElem? (i := 78) rfl)) (hw _ (List.mem_of_getElem? (i := 7) rfl)) (by decide) (by decide)) q361a q361c (g := (mkF m 42 #[.val (.int k0), .val (.int k1), .val (.int k2), .val (.int (own_max (1 : Int32) (k0 &&& (2147483647 : Int32)))), .val (.int (own_max (1 : Int32) (k1 &&& (2147483647 : Int32)))), .val (.int (own_max (1 : Int32) (k2 &&& (2147483647 : Int32)))), .val (.ref b353), .unset, .unset, .unset] [(.int (own_max (1 : Int32) (k2 &&& (2147483647 : Int32)))), (.ref b353)])) rfl (by rw [hml]; rfl) (Steps.refl _) (argsL := [(.int (own_max (1 : Int32) (k2 &&& (2147483647 : Int32))))]) (rest := []) (lenOf pd_6 rfl) rfl (by show 2 * 0 + _ ≤ _; exact Nat.le_of_eq rfl) (hb hby at_42) (fun _ _ => ⟨rfl, rfl, (by decide : 5 + 0 ≤ _), (by decide : 24 + 0 ≤ _)⟩)
  dsimp only [Pt.U, Pt.locs, Pt.cells, Pt.slots] at X361 l361 y361 z361 st361 hQ361
  subst l361 y361 z361
  obtain ⟨hv361, N361q, M361⟩ := hQ361
  have N361 := Fr.app N358 N361q
  subst hv361
  obtain ⟨K361k, E361x, F361_maxPoolSize, F361_maxPoolWaiting, F361_maxCommandsInFlight, F361_autoPipeliningThreshold, F361_autoPipelining⟩ := M361
  have O362 := own_ext_keep O359 K361k (allS sz_b353 all0)
  have Zs362 := Nat.le_trans Zs359 K361k.1
  have c363 : Exa Z T361.heap b353 "com/example/keelreach/keelreach/RedisOptions" := E358x.keep K361k
  obtain ⟨cq364, kq364, q364a, q364b, q364c⟩ := isOf hZ rfl E361x
  obtain ⟨v364, _, ⟨T364, L364, k364, n364⟩, -, X364, ⟨Lc364, hQ364, l364, y364, z364⟩, st364⟩ := X361.virtualBack hx (y := (⟨"com/example/keelreach/keelreach/RedisOptions", "setAutoPipeliningThreshold", "(I)Lcom/example/keelreach/keelreach/RedisOptions;"⟩ : MethodName)) (z := (⟨"com/example/keelreach/keelreach/RedisOptions", "setAutoPipeliningThreshold", "(I)Lcom/example/keelreach/keelreach/RedisOptions;"⟩ : MethodName)) hown (mvT hZ (hw _ (List.mem_of_getElem? (i := 79) rfl))) (mvT hZ (hw _ (List.mem_of_getElem? (i := 80) rfl))) (notFace_of_selects (args := #[]) (mvT hZ (hw _ (List.mem_of_getElem? (i := 82) rfl)))) (mvT hZ (hw _ (List.mem_of_getElem? (i := 82) rfl))) (mvT hZ (hw _ (List.mem_of_getElem? (i := 81) rfl))) (by decide) (backOf (W := 0) (rm_setAutoPipeliningThreshold l Z a0 hw [] b353 (own_max (1 : Int32) (k0 &&& (2147483647 : Int32))) (.int (6 : Int32)) (.int (24 : Int32)) (.int (own_max (1 : Int32) (k2 &&& (2147483647 : Int32)))) (.int (128 : Int32)) (.int (0 : Int32)) T361.heap n0 Zs362 E361x gg_b353 F361_maxPoolSize F361_maxPoolWaiting F361_maxCommandsInFlight F361_autoPipeliningThreshold F361_autoPipelining (own_max_ge (k0 &&& (2147483647 : Int32)))) hZ (hw _ (List.mem_of_getElem? (i := 83) rfl)) (hw _ (List.mem_of_getElem? (i := 7) rfl)) (by decide) (by decide)) q364a q364c (g := (mkF m 49 #[.val (.int k0), .val (.int k1), .val (.int k2), .val (.int (own_max (1 : Int32) (k0 &&& (2147483647 : Int32)))), .val (.int (own_max (1 : Int32) (k1 &&& (2147483647 : Int32)))), .val (.int (own_max (1 : Int32) (k2 &&& (2147483647 : Int32)))), .val (.ref b353), .unset, .unset, .unset] [(.int (own_max (1 : Int32) (k0 &&& (2147483647 : Int32)))), (.ref b353)])) rfl (by rw [hml]; rfl) (Steps.refl _) (argsL := [(.int (own_max (1 : Int32) (k0 &&& (2147483647 : Int32))))]) (rest := []) (lenOf pd_6 rfl) rfl (by show 2 * 0 + _ ≤ _; exact Nat.le_of_eq rfl) (hb hby at_49) (fun _ _ => ⟨rfl, rfl, (by decide : 5 + 0 ≤ _), (by decide : 24 + 0 ≤ _)⟩)
  dsimp only [Pt.U, Pt.locs, Pt.cells, Pt.slots] at X364 l364 y364 z364 st364 hQ364
  subst l364 y364 z364
  obtain ⟨hv364, N364q, M364⟩ := hQ364
  have N364 := Fr.app N361 N364q
  subst hv364
  obtain ⟨K364k, E364x, F364_maxPoolSize, F364_maxPoolWaiting, F364_maxCommandsInFlight, F364_autoPipeliningThreshold, F364_autoPipelining⟩ := M364
  have O365 := own_ext_keep O362 K364k (allS sz_b353 all0)
  have Zs365 := Nat.le_trans Zs362 K364k.1
  have c366 : Exa Z T364.heap b353 "com/example/keelreach/keelreach/RedisOptions" := E361x.keep K364k
  obtain ⟨cq367, kq367, q367a, q367b, q367c⟩ := isOf hZ rfl E364x
  obtain ⟨v367, _, ⟨T367, L367, k367, n367⟩, -, X367, ⟨Lc367, hQ367, l367, y367, z367⟩, st367⟩ := X364.virtualBack hx (y := (⟨"com/example/keelreach/keelreach/RedisOptions", "getAutoPipeliningThreshold", "()I"⟩ : MethodName)) (z := (⟨"com/example/keelreach/keelreach/RedisOptions", "getAutoPipeliningThreshold", "()I"⟩ : MethodName)) hown (mvT hZ (hw _ (List.mem_of_getElem? (i := 84) rfl))) (mvT hZ (hw _ (List.mem_of_getElem? (i := 85) rfl))) (notFace_of_selects (args := #[]) (mvT hZ (hw _ (List.mem_of_getElem? (i := 87) rfl)))) (mvT hZ (hw _ (List.mem_of_getElem? (i := 87) rfl))) (mvT hZ (hw _ (List.mem_of_getElem? (i := 86) rfl))) (by decide) (backOf (W := 0) (rm_getAutoPipeliningThreshold l Z a0 hw [] b353 (own_max (1 : Int32) (k0 &&& (2147483647 : Int32))) T364.heap n0 Zs365 F364_autoPipeliningThreshold) hZ (hw _ (List.mem_of_getElem? (i := 88) rfl)) (hw _ (List.mem_of_getElem? (i := 7) rfl)) (by decide) (by decide)) q367a q367c (g := (mkF m 63 #[.val (.int k0), .val (.int k1), .val (.int k2), .val (.int (own_max (1 : Int32) (k0 &&& (2147483647 : Int32)))), .val (.int (own_max (1 : Int32) (k1 &&& (2147483647 : Int32)))), .val (.int (own_max (1 : Int32) (k2 &&& (2147483647 : Int32)))), .val (.ref b353), .val (.ref b353), .unset, .unset] [(.ref b353)])) rfl (by rw [hml]; rfl) (Steps.refl _) (argsL := []) (rest := []) (lenOf pd_7 rfl) rfl (by show 2 * 0 + _ ≤ _; exact Nat.le_of_eq rfl) (hb hby at_63) (fun _ _ => ⟨rfl, rfl, (by decide : 5 + 0 ≤ _), (by decide : 24 + 0 ≤ _)⟩)
  dsimp only [Pt.U, Pt.locs, Pt.cells, Pt.slots] at X367 l367 y367 z367 st367 hQ367
  subst l367 y367 z367
  obtain ⟨hv367, N367q, e367⟩ := hQ367
  have N367 := Fr.app N364 N367q
  subst hv367
  obtain ⟨cq368, kq368, q368a, q368b, q368c⟩ := isOf hZ e367 E364x
  obtain ⟨v368, _, ⟨T368, L368, k368, n368⟩, -, X368, ⟨Lc368, hQ368, l368, y368, z368⟩, st368⟩ := X367.virtualBack hx (y := (⟨"com/example/keelreach/keelreach/RedisOptions", "getMaxCommandsInFlight", "()I"⟩ : MethodName)) (z := (⟨"com/example/keelreach/keelreach/RedisOptions", "getMaxCommandsInFlight", "()I"⟩ : MethodName)) hown (mvT hZ (hw _ (List.mem_of_getElem? (i := 89) rfl))) (mvT hZ (hw _ (List.mem_of_getElem? (i := 90) rfl))) (notFace_of_selects (args := #[]) (mvT hZ (hw _ (List.mem_of_getElem? (i := 92) rfl)))) (mvT hZ (hw _ (List.mem_of_getElem? (i := 92) rfl))) (mvT hZ (hw _ (List.mem_of_getElem? (i := 91) rfl))) (by decide) (backOf (W := 0) (rm_getMaxCommandsInFlight l Z a0 hw [] b353 (own_max (1 : Int32) (k2 &&& (2147483647 : Int32))) T364.heap n0 Zs365 F364_maxCommandsInFlight) hZ (hw _ (List.mem_of_getElem? (i := 93) rfl)) (hw _ (List.mem_of_getElem? (i := 7) rfl)) (by decide) (by decide)) q368a q368c (g := (mkF m 72 #[.val (.int k0), .val (.int k1), .val (.int k2), .val (.int (own_max (1 : Int32) (k0 &&& (2147483647 : Int32)))), .val (.int (own_max (1 : Int32) (k1 &&& (2147483647 : Int32)))), .val (.int (own_max (1 : Int32) (k2 &&& (2147483647 : Int32)))), .val (.ref b353), .val (.ref b353), .unset, .unset] [(.ref b353)])) rfl (by rw [hml]; rfl) (Steps.refl _) (argsL := []) (rest := []) (lenOf pd_7 rfl) rfl (by show 2 * 0 + _ ≤ _; exact Nat.le_of_eq rfl) (hb hby at_72) (fun _ _ => ⟨rfl, e367, (by decide : 5 + 0 ≤ _), (by decide : 24 + 0 ≤ _)⟩)
  dsimp only [Pt.U, Pt.locs, Pt.cells, Pt.slots] at X368 l368 y368 z368 st368 hQ368
  subst l368 y368 z368
  obtain ⟨hv368, N368q, e368⟩ := hQ368
  have N368 := Fr.app N367 N368q
  subst hv368
  obtain ⟨cq369, kq369, q369a, q369b, q369c⟩ := isOf hZ e368 E364x
  obtain ⟨v369, _, ⟨T369, L369, k369, n369⟩, -, X369, ⟨Lc369, hQ369, l369, y369, z369⟩, st369⟩ := X368.virtualBack hx (y := (⟨"com/example/keelreach/keelreach/RedisOptions", "getMaxPoolSize", "()I"⟩ : MethodName)) (z := (⟨"com/example/keelreach/keelreach/RedisOptions", "getMaxPoolSize", "()I"⟩ : MethodName)) hown (mvT hZ (hw _ (List.mem_of_getElem? (i := 94) rfl))) (mvT hZ (hw _ (List.mem_of_getElem? (i := 95) rfl))) (notFace_of_selects (args := #[]) (mvT hZ (hw _ (List.mem_of_getElem? (i := 97) rfl)))) (mvT hZ (hw _ (List.mem_of_getElem? (i := 97) rfl))) (mvT hZ (hw _ (List.mem_of_getElem? (i := 96) rfl))) (by decide) (backOf (W := 0) (rm_getMaxPoolSize l Z a0 hw [] b353 (6 : Int32) T364.heap n0 Zs365 F364_maxPoolSize) hZ (hw _ (List.mem_of_getElem? (i := 98) rfl)) (hw _ (List.mem_of_getElem? (i := 7) rfl)) (by decide) (by decide)) q369a q369c (g := (mkF m 82 #[.val (.int k0), .val (.int k1), .val (.int k2), .val (.int (own_max (1 : Int32) (k0 &&& (2147483647 : Int32)))), .val (.int (own_max (1 : Int32) (k1 &&& (2147483647 : Int32)))), .val (.int (own_max (1 : Int32) (k2 &&& (2147483647 : Int32)))), .val (.ref b353), .val (.ref b353), .unset, .unset] [(.ref b353)])) rfl (by rw [hml]; rfl) (Steps.refl _) (argsL := []) (rest := []) (lenOf pd_7 rfl) rfl (by show 2 * 0 + _ ≤ _; exact Nat.le_of_eq rfl) (hb hby at_82) (fun _ _ => ⟨rfl, e368, (by decide : 5 + 0 ≤ _), (by decide : 24 + 0 ≤ _)⟩)
  dsimp only [Pt.U, Pt.locs, Pt.cells, Pt.slots] at X369 l369 y369 z369 st369 hQ369
  subst l369 y369 z369
  obtain ⟨hv369, N369q, e369⟩ := hQ369
  have N369 := Fr.app N368 N369q
  subst hv369
  obtain ⟨cq370, kq370, q370a, q370b, q370c⟩ := isOf hZ e369 E364x
  obtain ⟨v370, _, ⟨T370, L370, k370, n370⟩, -, X370, ⟨Lc370, hQ370, l370, y370, z370⟩, st370⟩ := X369.virtualBack hx (y := (⟨"com/example/keelreach/keelreach/RedisOptions", "isAutoPipelining", "()Z"⟩ : MethodName)) (z := (⟨"com/example/keelreach/keelreach/RedisOptions", "isAutoPipelining", "()Z"⟩ : MethodName)) hown (mvT hZ (hw _ (List.mem_of_getElem? (i := 99) rfl))) (mvT hZ (hw _ (List.mem_of_getElem? (i := 100) rfl))) (notFace_of_selects (args := #[]) (mvT hZ (hw _ (List.mem_of_getElem? (i := 102) rfl)))) (mvT hZ (hw _ (List.mem_of_getElem? (i := 102) rfl))) (mvT hZ (hw _ (List.mem_of_getElem? (i := 101) rfl))) (by decide) (backOf (W := 0) (rm_isAutoPipelining l Z a0 hw [] b353 T364.heap n0 Zs365 F364_autoPipelining) hZ (hw _ (List.mem_of_getElem? (i := 103) rfl)) (hw _ (List.mem_of_getElem? (i := 7) rfl)) (by decide) (by decide)) q370a q370c (g := (mkF m 92 #[.val (.int k0), .val (.int k1), .val (.int k2), .val (.int (own_max (1 : Int32) (k0 &&& (2147483647 : Int32)))), .val (.int (own_max (1 : Int32) (k1 &&& (2147483647 : Int32)))), .val (.int (own_max (1 : Int32) (k2 &&& (2147483647 : Int32)))), .val (.ref b353), .val (.ref b353), .unset, .unset] [(.ref b353)])) rfl (by rw [hml]; rfl) (Steps.refl _) (argsL := []) (rest := []) (lenOf pd_8 rfl) rfl (by show 2 * 0 + _ ≤ _; exact Nat.le_of_eq rfl) (hb hby at_92) (fun _ _ => ⟨rfl, e369, (by decide : 5 + 0 ≤ _), (by decide : 24 + 0 ≤ _)⟩)
  dsimp only [Pt.U, Pt.locs, Pt.cells, Pt.slots] at X370 l370 y370 z370 st370 hQ370
  subst l370 y370 z370
  obtain ⟨hv370, N370q, e370⟩ := hQ370
  have N370 := Fr.app N369 N370q
  subst hv370
  obtain ⟨cq371, kq371, q371a, q371b, q371c⟩ := isOf hZ e370 E364x
  obtain ⟨v371, _, ⟨T371, L371, k371, n371⟩, -, X371, ⟨Lc371, hQ371, l371, y371, z371⟩, st371⟩ := X370.virtualBack hx (y := (⟨"com/example/keelreach/keelreach/RedisOptions", "setAutoPipeliningThreshold", "(I)Lcom/example/keelreach/keelreach/RedisOptions;"⟩ : MethodName)) (z := (⟨"com/example/keelreach/keelreach/RedisOptions", "setAutoPipeliningThreshold", "(I)Lcom/example/keelreach/keelreach/RedisOptions;"⟩ : MethodName)) hown (mvT hZ (hw _ (List.mem_of_getElem? (i := 79) rfl))) (mvT hZ (hw _ (List.mem_of_getElem? (i := 80) rfl))) (notFace_of_selects (args := #[]) (mvT hZ (hw _ (List.mem_of_getElem? (i := 82) rfl)))) (mvT hZ (hw _ (List.mem_of_getElem? (i := 82) rfl))) (mvT hZ (hw _ (List.mem_of_getElem? (i := 81) rfl))) (by decide) (backOf (W := 0) (rm_setAutoPipeliningThreshold l Z a0 hw [] b353 (own_max (1 : Int32) (k1 &&& (2147483647 : Int32))) (.int (6 : Int32)) (.int (24 : Int32)) (.int (own_max (1 : Int32) (k2 &&& (2147483647 : Int32)))) (.int (own_max (1 : Int32) (k0 &&& (2147483647 : Int32)))) (.int (0 : Int32)) T364.heap n0 Zs365 E364x gg_b353 F364_maxPoolSize F364_maxPoolWaiting F364_maxCommandsInFlight F364_autoPipeliningThreshold F364_autoPipelining (own_max_ge (k1 &&& (2147483647 : Int32)))) hZ (hw _ (List.mem_of_getElem? (i := 83) rfl)) (hw _ (List.mem_of_getElem? (i := 7) rfl)) (by decide) (by decide)) q371a q371c (g := (mkF m 109 #[.val (.int k0), .val (.int k1), .val (.int k2), .val (.int (own_max (1 : Int32) (k0 &&& (2147483647 : Int32)))), .val (.int (own_max (1 : Int32) (k1 &&& (2147483647 : Int32)))), .val (.int (own_max (1 : Int32) (k2 &&& (2147483647 : Int32)))), .val (.ref b353), .val (.ref b353), .val (.int (1 : Int32)), .unset] [(.int (own_max (1 : Int32) (k1 &&& (2147483647 : Int32)))), (.ref b353)])) rfl (by rw [hml]; rfl) (Steps.refl _) (argsL := [(.int (own_max (1 : Int32) (k1 &&& (2147483647 : Int32))))]) (rest := []) (lenOf pd_6 rfl) rfl (by show 2 * 0 + _ ≤ _; exact Nat.le_of_eq rfl) (hb hby at_109) (fun _ _ => ⟨rfl, e370, (by decide : 5 + 0 ≤ _), (by decide : 24 + 0 ≤ _)⟩)
  dsimp only [Pt.U, Pt.locs, Pt.cells, Pt.slots] at X371 l371 y371 z371 st371 hQ371
  subst l371 y371 z371
  obtain ⟨hv371, N371q, M371⟩ := hQ371
  have N371 := Fr.app N370 N371q
  subst hv371
  obtain ⟨K371k, E371x, F371_maxPoolSize, F371_maxPoolWaiting, F371_maxCommandsInFlight, F371_autoPipeliningThreshold, F371_autoPipelining⟩ := M371
  have O372 := own_ext_keep O365 K371k (allS sz_b353 all0)
  have Zs372 := Nat.le_trans Zs365 K371k.1
  have c373 : Exa Z T371.heap b353 "com/example/keelreach/keelreach/RedisOptions" := E364x.keep K371k
  obtain ⟨cq374, kq374, q374a, q374b, q374c⟩ := isOf hZ rfl E371x
  obtain ⟨v374, _, ⟨T374, L374, k374, n374⟩, -, X374, ⟨Lc374, hQ374, l374, y374, z374⟩, st374⟩ := X371.virtualBack hx (y := (⟨"com/example/keelreach/keelreach/RedisOptions", "getAutoPipeliningThreshold", "()I"⟩ : MethodName)) (z := (⟨"com/example/keelreach/keelreach/RedisOptions", "getAutoPipeliningThreshold", "()I"⟩ : MethodName)) hown (mvT hZ (hw _ (List.mem_of_getElem? (i := 84) rfl))) (mvT hZ (hw _ (List.mem_of_getElem? (i := 85) rfl))) (notFace_of_selects (args := #[]) (mvT hZ (hw _ (List.mem_of_getElem? (i := 87) rfl)))) (mvT hZ (hw _ (List.mem_of_getElem? (i := 87) rfl))) (mvT hZ (hw _ (List.mem_of_getElem? (i := 86) rfl))) (by decide) (backOf (W := 0) (rm_getAutoPipeliningThreshold l Z a0 hw [] b353 (own_max (1 : Int32) (k1 &&& (2147483647 : Int32))) T371.heap n0 Zs372 F371_autoPipeliningThreshold) hZ (hw _ (List.mem_of_getElem? (i := 88) rfl)) (hw _ (List.mem_of_getElem? (i := 7) rfl)) (by decide) (by decide)) q374a q374c (g := (mkF m 128 #[.val (.int k0), .val (.int k1), .val (.int k2), .val (.int (own_max (1 : Int32) (k0 &&& (2147483647 : Int32)))), .val (.int (own_max (1 : Int32) (k1 &&& (2147483647 : Int32)))), .val (.int (own_max (1 : Int32) (k2 &&& (2147483647 : Int32)))), .val (.ref b353), .val (.ref b353), .val (.int (1 : Int32)), .val (.ref b353)] [(.ref b353)])) rfl (by rw [hml]; rfl) (Steps.refl _) (argsL := []) (rest := []) (lenOf pd_7 rfl) rfl (by show 2 * 0 + _ ≤ _; exact Nat.le_of_eq rfl) (hb hby at_128) (fun _ _ => ⟨rfl, rfl, (by decide : 5 + 0 ≤ _), (by decide : 24 + 0 ≤ _)⟩)
  dsimp only [Pt.U, Pt.locs, Pt.cells, Pt.slots] at X374 l374 y374 z374 st374 hQ374
  subst l374 y374 z374
  obtain ⟨hv374, N374q, e374⟩ := hQ374
  have N374 := Fr.app N371 N374q
  subst hv374
  obtain ⟨cq375, kq375, q375a, q375b, q375c⟩ := isOf hZ e374 E371x
  obtain ⟨v375, _, ⟨T375, L375, k375, n375⟩, -, X375, ⟨Lc375, hQ375, l375, y375, z375⟩, st375⟩ := X374.virtualBack hx (y := (⟨"com/example/keelreach/keelreach/RedisOptions", "getMaxCommandsInFlight", "()I"⟩ : MethodName)) (z := (⟨"com/example/keelreach/keelreach/RedisOptions", "getMaxCommandsInFlight", "()I"⟩ : MethodName)) hown (mvT hZ (hw _ (List.mem_of_getElem? (i := 89) rfl))) (mvT hZ (hw _ (List.mem_of_getElem? (i := 90) rfl))) (notFace_of_selects (args := #[]) (mvT hZ (hw _ (List.mem_of_getElem? (i := 92) rfl)))) (mvT hZ (hw _ (List.mem_of_getElem? (i := 92) rfl))) (mvT hZ (hw _ (List.mem_of_getElem? (i := 91) rfl))) (by decide) (backOf (W := 0) (rm_getMaxCommandsInFlight l Z a0 hw [] b353 (own_max (1 : Int32) (k2 &&& (2147483647 : Int32))) T371.heap n0 Zs372 F371_maxCommandsInFlight) hZ (hw _ (List.mem_of_getElem? (i := 93) rfl)) (hw _ (List.mem_of_getElem? (i := 7) rfl)) (by decide) (by decide)) q375a q375c (g := (mkF m 138 #[.val (.int k0), .val (.int k1), .val (.int k2), .val (.int (own_max (1 : Int32) (k0 &&& (2147483647 : Int32)))), .val (.int (own_max (1 : Int32) (k1 &&& (2147483647 : Int32)))), .val (.int (own_max (1 : Int32) (k2 &&& (2147483647 : Int32)))), .val (.ref b353), .val (.ref b353), .val (.int (1 : Int32)), .val (.ref b353)] [(.ref b353)])) rfl (by rw [hml]; rfl) (Steps.refl _) (argsL := []) (rest := []) (lenOf pd_7 rfl) rfl (by show 2 * 0 + _ ≤ _; exact Nat.le_of_eq rfl) (hb hby at_138) (fun _ _ => ⟨rfl, e374, (by decide : 5 + 0 ≤ _), (by decide : 24 + 0 ≤ _)⟩)
  dsimp only [Pt.U, Pt.locs, Pt.cells, Pt.slots] at X375 l375 y375 z375 st375 hQ375
  subst l375 y375 z375
  obtain ⟨hv375, N375q, e375⟩ := hQ375
  have N375 := Fr.app N374 N375q
  subst hv375
  have pre376 : ∀ t_, Steps p.tables e below (T375.setTop (mkF m 155 #[.val (.int k0), .val (.int k1), .val (.int k2), .val (.int (own_max (1 : Int32) (k0 &&& (2147483647 : Int32)))), .val (.int (own_max (1 : Int32) (k1 &&& (2147483647 : Int32)))), .val (.int (own_max (1 : Int32) (k2 &&& (2147483647 : Int32)))), .val (.ref b353), .val (.ref b353), .val (.int (1 : Int32)), .val (.ref b353)] [(.int (1 : Int32))])) t_ → Steps p.tables e below (s₁.setTop (entryFrame m #[(.int k0), (.int k1), (.int k2)] maxLocals)) t_ := fun t_ k_ => pre0 t_ (by
    show Steps p.tables e below (s₁.setTop (mkF m 0 #[.val (.int k0), .val (.int k1), .val (.int k2), .unset, .unset, .unset, .unset, .unset, .unset, .unset] [])) _
    refine XS.iconst X0.here hx rfl (hb hby at_0) ?_
    show Steps p.tables e below (s₁.setTop (mkF m 1 #[.val (.int k0), .val (.int k1), .val (.int k2), .unset, .unset, .unset, .unset, .unset, .unset, .unset] [(.int (1 : Int32))])) _
    refine XS.iloadN X0.here hx rfl (hb hby at_1) rfl ?_
    show Steps p.tables e below (s₁.setTop (mkF m 2 #[.val (.int k0), .val (.int k1), .val (.int k2), .unset, .unset, .unset, .unset, .unset, .unset, .unset] [(.int k0), (.int (1 : Int32))])) _
    refine X0.ldcInt hx hown (mvT hZ (hw _ (List.mem_of_getElem? (i := 0) rfl))) (g := (mkF m 2 #[.val (.int k0), .val (.int k1), .val (.int k2), .unset, .unset, .unset, .unset, .unset, .unset, .unset] [(.int k0), (.int (1 : Int32))])) rfl (hb hby at_2) _ ?_
    show Steps p.tables e below (s₁.setTop (mkF m 4 #[.val (.int k0), .val (.int k1), .val (.int k2), .unset, .unset, .unset, .unset, .unset, .unset, .unset] [(.int (2147483647 : Int32)), (.int k0), (.int (1 : Int32))])) _
    refine XS.iand X0.here hx rfl (hb hby at_4) rfl ?_
    show Steps p.tables e below (s₁.setTop (mkF m 5 #[.val (.int k0), .val (.int k1), .val (.int k2), .unset, .unset, .unset, .unset, .unset, .unset, .unset] [(.int (k0 &&& (2147483647 : Int32))), (.int (1 : Int32))])) _
    refine st350 _ ?_
    show Steps p.tables e below (T350.setTop (mkF m 8 #[.val (.int k0), .val (.int k1), .val (.int k2), .unset, .unset, .unset, .unset, .unset, .unset, .unset] [(.int (own_max (1 : Int32) (k0 &&& (2147483647 : Int32))))])) _
    refine XS.istoreN X350.here hx rfl (hb hby at_8) rfl (l' := #[.val (.int k0), .val (.int k1), .val (.int k2), .val (.int (own_max (1 : Int32) (k0 &&& (2147483647 : Int32)))), .unset, .unset, .unset, .unset, .unset, .unset]) rfl ?_
    show Steps p.tables e below (T350.setTop (mkF m 9 #[.val (.int k0), .val (.int k1), .val (.int k2), .val (.int (own_max (1 : Int32) (k0 &&& (2147483647 : Int32)))), .unset, .unset, .unset, .unset, .unset, .unset] [])) _
    refine XS.iconst X350.here hx rfl (hb hby at_9) ?_
    show Steps p.tables e below (T350.setTop (mkF m 10 #[.val (.int k0), .val (.int k1), .val (.int k2), .val (.int (own_max (1 : Int32) (k0 &&& (2147483647 : Int32)))), .unset, .unset, .unset, .unset, .unset, .unset] [(.int (1 : Int32))])) _
    refine XS.iloadN X350.here hx rfl (hb hby at_10) rfl ?_
    show Steps p.tables e below (T350.setTop (mkF m 11 #[.val (.int k0), .val (.int k1), .val (.int k2), .val (.int (own_max (1 : Int32) (k0 &&& (2147483647 : Int32)))), .unset, .unset, .unset, .unset, .unset, .unset] [(.int k1), (.int (1 : Int32))])) _
    refine X350.ldcInt hx hown (mvT hZ (hw _ (List.mem_of_getElem? (i := 0) rfl))) (g := (mkF m 11 #[.val (.int k0), .val (.int k1), .val (.int k2), .val (.int (own_max (1 : Int32) (k0 &&& (2147483647 : Int32)))), .unset, .unset, .unset, .unset, .unset, .unset] [(.int k1), (.int (1 : Int32))])) rfl (hb hby at_11) _ ?_
    show Steps p.tables e below (T350.setTop (mkF m 13 #[.val (.int k0), .val (.int k1), .val (.int k2), .val (.int (own_max (1 : Int32) (k0 &&& (2147483647 : Int32)))), .unset, .unset, .unset, .unset, .unset, .unset] [(.int (2147483647 : Int32)), (.int k1), (.int (1 : Int32))])) _
    refine XS.iand X350.here hx rfl (hb hby at_13) rfl ?_
    show Steps p.tables e below (T350.setTop (mkF m 14 #[.val (.int k0), .val (.int k1), .val (.int k2), .val (.int (own_max (1 : Int32) (k0 &&& (2147483647 : Int32)))), .unset, .unset, .unset, .unset, .unset, .unset] [(.int (k1 &&& (2147483647 : Int32))), (.int (1 : Int32))])) _
    refine st351 _ ?_
    show Steps p.tables e below (T351.setTop (mkF m 17 #[.val (.int k0), .val (.int k1), .val (.int k2), .val (.int (own_max (1 : Int32) (k0 &&& (2147483647 : Int32)))), .unset, .unset, .unset, .unset, .unset, .unset] [(.int (own_max (1 : Int32) (k1 &&& (2147483647 : Int32))))])) _
    refine XS.istore X351.here hx rfl (hb hby at_17) rfl (l' := #[.val (.int k0), .val (.int k1), .val (.int k2), .val (.int (own_max (1 : Int32) (k0 &&& (2147483647 : Int32)))), .val (.int (own_max (1 : Int32) (k1 &&& (2147483647 : Int32)))), .unset, .unset, .unset, .unset, .unset]) rfl ?_
    show Steps p.tables e below (T351.setTop (mkF m 19 #[.val (.int k0), .val (.int k1), .val (.int k2), .val (.int (own_max (1 : Int32) (k0 &&& (2147483647 : Int32)))), .val (.int (own_max (1 : Int32) (k1 &&& (2147483647 : Int32)))), .unset, .unset, .unset, .unset, .unset] [])) _
    refine XS.iconst X351.here hx rfl (hb hby at_19) ?_
    show Steps p.tables e below (T351.setTop (mkF m 20 #[.val (.int k0), .val (.int k1), .val (.int k2), .val (.int (own_max (1 : Int32) (k0 &&& (2147483647 : Int32)))), .val (.int (own_max (1 : Int32) (k1 &&& (2147483647 : Int32)))), .unset, .unset, .unset, .unset, .unset] [(.int (1 : Int32))])) _
    refine XS.iloadN X351.here hx rfl (hb hby at_20) rfl ?_
    show Steps p.tables e below (T351.setTop (mkF m 21 #[.val (.int k0), .val (.int k1), .val (.int k2), .val (.int (own_max (1 : Int32) (k0 &&& (2147483647 : Int32)))), .val (.int (own_max (1 : Int32) (k1 &&& (2147483647 : Int32)))), .unset, .unset, .unset, .unset, .unset] [(.int k2), (.int (1 : Int32))])) _
    refine X351.ldcInt hx hown (mvT hZ (hw _ (List.mem_of_getElem? (i := 0) rfl))) (g := (mkF m 21 #[.val (.int k0), .val (.int k1), .val (.int k2), .val (.int (own_max (1 : Int32) (k0 &&& (2147483647 : Int32)))), .val (.int (own_max (1 : Int32) (k1 &&& (2147483647 : Int32)))), .unset, .unset, .unset, .unset, .unset] [(.int k2), (.int (1 : Int32))])) rfl (hb hby at_21) _ ?_
    show Steps p.tables e below (T351.setTop (mkF m 23 #[.val (.int k0), .val (.int k1), .val (.int k2), .val (.int (own_max (1 : Int32) (k0 &&& (2147483647 : Int32)))), .val (.int (own_max (1 : Int32) (k1 &&& (2147483647 : Int32)))), .unset, .unset, .unset, .unset, .unset] [(.int (2147483647 : Int32)), (.int k2), (.int (1 : Int32))])) _
    refine XS.iand X351.here hx rfl (hb hby at_23) rfl ?_
    show Steps p.tables e below (T351.setTop (mkF m 24 #[.val (.int k0), .val (.int k1), .val (.int k2), .val (.int (own_max (1 : Int32) (k0 &&& (2147483647 : Int32)))), .val (.int (own_max (1 : Int32) (k1 &&& (2147483647 : Int32)))), .unset, .unset, .unset, .unset, .unset] [(.int (k2 &&& (2147483647 : Int32))), (.int (1 : Int32))])) _
    refine st352 _ ?_
    show Steps p.tables e below (T352.setTop (mkF m 27 #[.val (.int k0), .val (.int k1), .val (.int k2), .val (.int (own_max (1 : Int32) (k0 &&& (2147483647 : Int32)))), .val (.int (own_max (1 : Int32) (k1 &&& (2147483647 : Int32)))), .unset, .unset, .unset, .unset, .unset] [(.int (own_max (1 : Int32) (k2 &&& (2147483647 : Int32))))])) _
    refine XS.istore X352.here hx rfl (hb hby at_27) rfl (l' := #[.val (.int k0), .val (.int k1), .val (.int k2), .val (.int (own_max (1 : Int32) (k0 &&& (2147483647 : Int32)))), .val (.int (own_max (1 : Int32) (k1 &&& (2147483647 : Int32)))), .val (.int (own_max (1 : Int32) (k2 &&& (2147483647 : Int32)))), .unset, .unset, .unset, .unset]) rfl ?_
    show Steps p.tables e below (T352.setTop (mkF m 29 #[.val (.int k0), .val (.int k1), .val (.int k2), .val (.int (own_max (1 : Int32) (k0 &&& (2147483647 : Int32)))), .val (.int (own_max (1 : Int32) (k1 &&& (2147483647 : Int32)))), .val (.int (own_max (1 : Int32) (k2 &&& (2147483647 : Int32)))), .unset, .unset, .unset, .unset] [])) _
    refine st353 _ ?_
    show Steps p.tables e below (T353.setTop (mkF m 32 #[.val (.int k0), .val (.int k1), .val (.int k2), .val (.int (own_max (1 : Int32) (k0 &&& (2147483647 : Int32)))), .val (.int (own_max (1 : Int32) (k1 &&& (2147483647 : Int32)))), .val (.int (own_max (1 : Int32) (k2 &&& (2147483647 : Int32)))), .unset, .unset, .unset, .unset] [(.ref b353)])) _
    refine XS.dup X353.here hx rfl (hb hby at_32) rfl rfl ?_
    show Steps p.tables e below (T353.setTop (mkF m 33 #[.val (.int k0), .val (.int k1), .val (.int k2), .val (.int (own_max (1 : Int32) (k0 &&& (2147483647 : Int32)))), .val (.int (own_max (1 : Int32) (k1 &&& (2147483647 : Int32)))), .val (.int (own_max (1 : Int32) (k2 &&& (2147483647 : Int32)))), .unset, .unset, .unset, .unset] [(.ref b353), (.ref b353)])) _
    refine st358.trans ?_
    show Steps p.tables e below (T358.setTop (mkF m 36 #[.val (.int k0), .val (.int k1), .val (.int k2), .val (.int (own_max (1 : Int32) (k0 &&& (2147483647 : Int32)))), .val (.int (own_max (1 : Int32) (k1 &&& (2147483647 : Int32)))), .val (.int (own_max (1 : Int32) (k2 &&& (2147483647 : Int32)))), .unset, .unset, .unset, .unset] [(.ref b353)])) _
    refine XS.astore X358.here hx rfl (hb hby at_36) rfl rfl (l' := #[.val (.int k0), .val (.int k1), .val (.int k2), .val (.int (own_max (1 : Int32) (k0 &&& (2147483647 : Int32)))), .val (.int (own_max (1 : Int32) (k1 &&& (2147483647 : Int32)))), .val (.int (own_max (1 : Int32) (k2 &&& (2147483647 : Int32)))), .val (.ref b353), .unset, .unset, .unset]) rfl ?_
    show Steps p.tables e below (T358.setTop (mkF m 38 #[.val (.int k0), .val (.int k1), .val (.int k2), .val (.int (own_max (1 : Int32) (k0 &&& (2147483647 : Int32)))), .val (.int (own_max (1 : Int32) (k1 &&& (2147483647 : Int32)))), .val (.int (own_max (1 : Int32) (k2 &&& (2147483647 : Int32)))), .val (.ref b353), .unset, .unset, .unset] [])) _
    refine XS.aload X358.here hx rfl (hb hby at_38) rfl rfl ?_
    show Steps p.tables e below (T358.setTop (mkF m 40 #[.val (.int k0), .val (.int k1), .val (.int k2), .val (.int (own_max (1 : Int32) (k0 &&& (2147483647 : Int32)))), .val (.int (own_max (1 : Int32) (k1 &&& (2147483647 : Int32)))), .val (.int (own_max (1 : Int32) (k2 &&& (2147483647 : Int32)))), .val (.ref b353), .unset, .unset, .unset] [(.ref b353)])) _
    refine XS.iload X358.here hx rfl (hb hby at_40) rfl ?_
    show Steps p.tables e below (T358.setTop (mkF m 42 #[.val (.int k0), .val (.int k1), .val (.int k2), .val (.int (own_max (1 : Int32) (k0 &&& (2147483647 : Int32)))), .val (.int (own_max (1 : Int32) (k1 &&& (2147483647 : Int32)))), .val (.int (own_max (1 : Int32) (k2 &&& (2147483647 : Int32)))), .val (.ref b353), .unset, .unset, .unset] [(.int (own_max (1 : Int32) (k2 &&& (2147483647 : Int32)))), (.ref b353)])) _
    refine st361.trans ?_
    show Steps p.tables e below (T361.setTop (mkF m 45 #[.val (.int k0), .val (.int k1), .val (.int k2), .val (.int (own_max (1 : Int32) (k0 &&& (2147483647 : Int32)))), .val (.int (own_max (1 : Int32) (k1 &&& (2147483647 : Int32)))), .val (.int (own_max (1 : Int32) (k2 &&& (2147483647 : Int32)))), .val (.ref b353), .unset, .unset, .unset] [(.ref b353)])) _
    refine XS.pop X361.here hx rfl (hb hby at_45) rfl rfl ?_
    show Steps p.tables e below (T361.setTop (mkF m 46 #[.val (.int k0), .val (.int k1), .val (.int k2), .val (.int (own_max (1 : Int32) (k0 &&& (2147483647 : Int32)))), .val (.int (own_max (1 : Int32) (k1 &&& (2147483647 : Int32)))), .val (.int (own_max (1 : Int32) (k2 &&& (2147483647 : Int32)))), .val (.ref b353), .unset, .unset, .unset] [])) _
    refine XS.aload X361.here hx rfl (hb hby at_46) rfl rfl ?_
    show Steps p.tables e below (T361.setTop (mkF m 48 #[.val (.int k0), .val (.int k1), .val (.int k2), .val (.int (own_max (1 : Int32) (k0 &&& (2147483647 : Int32)))), .val (.int (own_max (1 : Int32) (k1 &&& (2147483647 : Int32)))), .val (.int (own_max (1 : Int32) (k2 &&& (2147483647 : Int32)))), .val (.ref b353), .unset, .unset, .unset] [(.ref b353)])) _
    refine XS.iloadN X361.here hx rfl (hb hby at_48) rfl ?_
    show Steps p.tables e below (T361.setTop (mkF m 49 #[.val (.int k0), .val (.int k1), .val (.int k2), .val (.int (own_max (1 : Int32) (k0 &&& (2147483647 : Int32)))), .val (.int (own_max (1 : Int32) (k1 &&& (2147483647 : Int32)))), .val (.int (own_max (1 : Int32) (k2 &&& (2147483647 : Int32)))), .val (.ref b353), .unset, .unset, .unset] [(.int (own_max (1 : Int32) (k0 &&& (2147483647 : Int32)))), (.ref b353)])) _
    refine st364.trans ?_
    show Steps p.tables e below (T364.setTop (mkF m 52 #[.val (.int k0), .val (.int k1), .val (.int k2), .val (.int (own_max (1 : Int32) (k0 &&& (2147483647 : Int32)))), .val (.int (own_max (1 : Int32) (k1 &&& (2147483647 : Int32)))), .val (.int (own_max (1 : Int32) (k2 &&& (2147483647 : Int32)))), .val (.ref b353), .unset, .unset, .unset] [(.ref b353)])) _
    refine XS.astore X364.here hx rfl (hb hby at_52) rfl rfl (l' := #[.val (.int k0), .val (.int k1), .val (.int k2), .val (.int (own_max (1 : Int32) (k0 &&& (2147483647 : Int32)))), .val (.int (own_max (1 : Int32) (k1 &&& (2147483647 : Int32)))), .val (.int (own_max (1 : Int32) (k2 &&& (2147483647 : Int32)))), .val (.ref b353), .val (.ref b353), .unset, .unset]) rfl ?_
    show Steps p.tables e below (T364.setTop (mkF m 54 #[.val (.int k0), .val (.int k1), .val (.int k2), .val (.int (own_max (1 : Int32) (k0 &&& (2147483647 : Int32)))), .val (.int (own_max (1 : Int32) (k1 &&& (2147483647 : Int32)))), .val (.int (own_max (1 : Int32) (k2 &&& (2147483647 : Int32)))), .val (.ref b353), .val (.ref b353), .unset, .unset] [])) _
    refine XS.aload X364.here hx rfl (hb hby at_54) rfl rfl ?_
    show Steps p.tables e below (T364.setTop (mkF m 56 #[.val (.int k0), .val (.int k1), .val (.int k2), .val (.int (own_max (1 : Int32) (k0 &&& (2147483647 : Int32)))), .val (.int (own_max (1 : Int32) (k1 &&& (2147483647 : Int32)))), .val (.int (own_max (1 : Int32) (k2 &&& (2147483647 : Int32)))), .val (.ref b353), .val (.ref b353), .unset, .unset] [(.ref b353)])) _
    refine XS.aload X364.here hx rfl (hb hby at_56) rfl rfl ?_
    show Steps p.tables e below (T364.setTop (mkF m 58 #[.val (.int k0), .val (.int k1), .val (.int k2), .val (.int (own_max (1 : Int32) (k0 &&& (2147483647 : Int32)))), .val (.int (own_max (1 : Int32) (k1 &&& (2147483647 : Int32)))), .val (.int (own_max (1 : Int32) (k2 &&& (2147483647 : Int32)))), .val (.ref b353), .val (.ref b353), .unset, .unset] [(.ref b353), (.ref b353)])) _
    refine Jvm.RoadKit.acmp (g := (mkF m 58 #[.val (.int k0), .val (.int k1), .val (.int k2), .val (.int (own_max (1 : Int32) (k0 &&& (2147483647 : Int32)))), .val (.int (own_max (1 : Int32) (k1 &&& (2147483647 : Int32)))), .val (.int (own_max (1 : Int32) (k2 &&& (2147483647 : Int32)))), .val (.ref b353), .val (.ref b353), .unset, .unset] [(.ref b353), (.ref b353)])) X364 hx rfl rfl rfl (pc0 := 58) (pc' := 61) (same := true) rfl (hb hby at_58) rfl (decide_eq_true rfl) (by decide) (by decide) ?_
    show Steps p.tables e below (T364.setTop (mkF m 61 #[.val (.int k0), .val (.int k1), .val (.int k2), .val (.int (own_max (1 : Int32) (k0 &&& (2147483647 : Int32)))), .val (.int (own_max (1 : Int32) (k1 &&& (2147483647 : Int32)))), .val (.int (own_max (1 : Int32) (k2 &&& (2147483647 : Int32)))), .val (.ref b353), .val (.ref b353), .unset, .unset] [])) _
    refine XS.aload X364.here hx rfl (hb hby at_61) rfl rfl ?_
    show Steps p.tables e below (T364.setTop (mkF m 63 #[.val (.int k0), .val (.int k1), .val (.int k2), .val (.int (own_max (1 : Int32) (k0 &&& (2147483647 : Int32)))), .val (.int (own_max (1 : Int32) (k1 &&& (2147483647 : Int32)))), .val (.int (own_max (1 : Int32) (k2 &&& (2147483647 : Int32)))), .val (.ref b353), .val (.ref b353), .unset, .unset] [(.ref b353)])) _
    refine st367.trans ?_
    show Steps p.tables e below (T367.setTop (mkF m 66 #[.val (.int k0), .val (.int k1), .val (.int k2), .val (.int (own_max (1 : Int32) (k0 &&& (2147483647 : Int32)))), .val (.int (own_max (1 : Int32) (k1 &&& (2147483647 : Int32)))), .val (.int (own_max (1 : Int32) (k2 &&& (2147483647 : Int32)))), .val (.ref b353), .val (.ref b353), .unset, .unset] [(.int (own_max (1 : Int32) (k0 &&& (2147483647 : Int32))))])) _
    refine XS.iloadN X367.here hx rfl (hb hby at_66) rfl ?_
    show Steps p.tables e below (T367.setTop (mkF m 67 #[.val (.int k0), .val (.int k1), .val (.int k2), .val (.int (own_max (1 : Int32) (k0 &&& (2147483647 : Int32)))), .val (.int (own_max (1 : Int32) (k1 &&& (2147483647 : Int32)))), .val (.int (own_max (1 : Int32) (k2 &&& (2147483647 : Int32)))), .val (.ref b353), .val (.ref b353), .unset, .unset] [(.int (own_max (1 : Int32) (k0 &&& (2147483647 : Int32)))), (.int (own_max (1 : Int32) (k0 &&& (2147483647 : Int32))))])) _
    refine XS.icmpNo X367.here hx rfl (hb hby at_67) rfl (teq (rfl : (own_max (1 : Int32) (k0 &&& (2147483647 : Int32))) = (own_max (1 : Int32) (k0 &&& (2147483647 : Int32))))).2 ?_
    show Steps p.tables e below (T367.setTop (mkF m 70 #[.val (.int k0), .val (.int k1), .val (.int k2), .val (.int (own_max (1 : Int32) (k0 &&& (2147483647 : Int32)))), .val (.int (own_max (1 : Int32) (k1 &&& (2147483647 : Int32)))), .val (.int (own_max (1 : Int32) (k2 &&& (2147483647 : Int32)))), .val (.ref b353), .val (.ref b353), .unset, .unset] [])) _
    refine XS.aload X367.here hx rfl (hb hby at_70) rfl rfl ?_
    show Steps p.tables e below (T367.setTop (mkF m 72 #[.val (.int k0), .val (.int k1), .val (.int k2), .val (.int (own_max (1 : Int32) (k0 &&& (2147483647 : Int32)))), .val (.int (own_max (1 : Int32) (k1 &&& (2147483647 : Int32)))), .val (.int (own_max (1 : Int32) (k2 &&& (2147483647 : Int32)))), .val (.ref b353), .val (.ref b353), .unset, .unset] [(.ref b353)])) _
    refine st368.trans ?_
    show Steps p.tables e below (T368.setTop (mkF m 75 #[.val (.int k0), .val (.int k1), .val (.int k2), .val (.int (own_max (1 : Int32) (k0 &&& (2147483647 : Int32)))), .val (.int (own_max (1 : Int32) (k1 &&& (2147483647 : Int32)))), .val (.int (own_max (1 : Int32) (k2 &&& (2147483647 : Int32)))), .val (.ref b353), .val (.ref b353), .unset, .unset] [(.int (own_max (1 : Int32) (k2 &&& (2147483647 : Int32))))])) _
    refine XS.iload X368.here hx rfl (hb hby at_75) rfl ?_
    show Steps p.tables e below (T368.setTop (mkF m 77 #[.val (.int k0), .val (.int k1), .val (.int k2), .val (.int (own_max (1 : Int32) (k0 &&& (2147483647 : Int32)))), .val (.int (own_max (1 : Int32) (k1 &&& (2147483647 : Int32)))), .val (.int (own_max (1 : Int32) (k2 &&& (2147483647 : Int32)))), .val (.ref b353), .val (.ref b353), .unset, .unset] [(.int (own_max (1 : Int32) (k2 &&& (2147483647 : Int32)))), (.int (own_max (1 : Int32) (k2 &&& (2147483647 : Int32))))])) _
    refine XS.icmpNo X368.here hx rfl (hb hby at_77) rfl (teq (rfl : (own_max (1 : Int32) (k2 &&& (2147483647 : Int32))) = (own_max (1 : Int32) (k2 &&& (2147483647 : Int32))))).2 ?_
    show Steps p.tables e below (T368.setTop (mkF m 80 #[.val (.int k0), .val (.int k1), .val (.int k2), .val (.int (own_max (1 : Int32) (k0 &&& (2147483647 : Int32)))), .val (.int (own_max (1 : Int32) (k1 &&& (2147483647 : Int32)))), .val (.int (own_max (1 : Int32) (k2 &&& (2147483647 : Int32)))), .val (.ref b353), .val (.ref b353), .unset, .unset] [])) _
    refine XS.aload X368.here hx rfl (hb hby at_80) rfl rfl ?_
    show Steps p.tables e below (T368.setTop (mkF m 82 #[.val (.int k0), .val (.int k1), .val (.int k2), .val (.int (own_max (1 : Int32) (k0 &&& (2147483647 : Int32)))), .val (.int (own_max (1 : Int32) (k1 &&& (2147483647 : Int32)))), .val (.int (own_max (1 : Int32) (k2 &&& (2147483647 : Int32)))), .val (.ref b353), .val (.ref b353), .unset, .unset] [(.ref b353)])) _
    refine st369.trans ?_
    show Steps p.tables e below (T369.setTop (mkF m 85 #[.val (.int k0), .val (.int k1), .val (.int k2), .val (.int (own_max (1 : Int32) (k0 &&& (2147483647 : Int32)))), .val (.int (own_max (1 : Int32) (k1 &&& (2147483647 : Int32)))), .val (.int (own_max (1 : Int32) (k2 &&& (2147483647 : Int32)))), .val (.ref b353), .val (.ref b353), .unset, .unset] [(.int (6 : Int32))])) _
    refine XS.bipush X369.here hx rfl (hb hby at_85) ?_
    show Steps p.tables e below (T369.setTop (mkF m 87 #[.val (.int k0), .val (.int k1), .val (.int k2), .val (.int (own_max (1 : Int32) (k0 &&& (2147483647 : Int32)))), .val (.int (own_max (1 : Int32) (k1 &&& (2147483647 : Int32)))), .val (.int (own_max (1 : Int32) (k2 &&& (2147483647 : Int32)))), .val (.ref b353), .val (.ref b353), .unset, .unset] [(.int (6 : Int32)), (.int (6 : Int32))])) _
    refine XS.icmpNo X369.here hx rfl (hb hby at_87) rfl (teq (rfl : (6 : Int32) = (6 : Int32))).2 ?_
    show Steps p.tables e below (T369.setTop (mkF m 90 #[.val (.int k0), .val (.int k1), .val (.int k2), .val (.int (own_max (1 : Int32) (k0 &&& (2147483647 : Int32)))), .val (.int (own_max (1 : Int32) (k1 &&& (2147483647 : Int32)))), .val (.int (own_max (1 : Int32) (k2 &&& (2147483647 : Int32)))), .val (.ref b353), .val (.ref b353), .unset, .unset] [])) _
    refine XS.aload X369.here hx rfl (hb hby at_90) rfl rfl ?_
    show Steps p.tables e below (T369.setTop (mkF m 92 #[.val (.int k0), .val (.int k1), .val (.int k2), .val (.int (own_max (1 : Int32) (k0 &&& (2147483647 : Int32)))), .val (.int (own_max (1 : Int32) (k1 &&& (2147483647 : Int32)))), .val (.int (own_max (1 : Int32) (k2 &&& (2147483647 : Int32)))), .val (.ref b353), .val (.ref b353), .unset, .unset] [(.ref b353)])) _
    refine st370.trans ?_
    show Steps p.tables e below (T370.setTop (mkF m 95 #[.val (.int k0), .val (.int k1), .val (.int k2), .val (.int (own_max (1 : Int32) (k0 &&& (2147483647 : Int32)))), .val (.int (own_max (1 : Int32) (k1 &&& (2147483647 : Int32)))), .val (.int (own_max (1 : Int32) (k2 &&& (2147483647 : Int32)))), .val (.ref b353), .val (.ref b353), .unset, .unset] [(.int (0 : Int32))])) _
    refine XS.ifNo X370.here hx rfl (hb hby at_95) rfl ((if0 _ _).trans (teq (rfl : (0 : Int32) = (0 : Int32))).2) ?_
    show Steps p.tables e below (T370.setTop (mkF m 98 #[.val (.int k0), .val (.int k1), .val (.int k2), .val (.int (own_max (1 : Int32) (k0 &&& (2147483647 : Int32)))), .val (.int (own_max (1 : Int32) (k1 &&& (2147483647 : Int32)))), .val (.int (own_max (1 : Int32) (k2 &&& (2147483647 : Int32)))), .val (.ref b353), .val (.ref b353), .unset, .unset] [])) _
    refine XS.iconst X370.here hx rfl (hb hby at_98) ?_
    show Steps p.tables e below (T370.setTop (mkF m 99 #[.val (.int k0), .val (.int k1), .val (.int k2), .val (.int (own_max (1 : Int32) (k0 &&& (2147483647 : Int32)))), .val (.int (own_max (1 : Int32) (k1 &&& (2147483647 : Int32)))), .val (.int (own_max (1 : Int32) (k2 &&& (2147483647 : Int32)))), .val (.ref b353), .val (.ref b353), .unset, .unset] [(.int (1 : Int32))])) _
    refine XS.goto X370.here hx rfl (pc0 := 99) (pc' := 103) rfl (hb hby at_99) (by decide) (by decide) ?_
    show Steps p.tables e below (T370.setTop (mkF m 103 #[.val (.int k0), .val (.int k1), .val (.int k2), .val (.int (own_max (1 : Int32) (k0 &&& (2147483647 : Int32)))), .val (.int (own_max (1 : Int32) (k1 &&& (2147483647 : Int32)))), .val (.int (own_max (1 : Int32) (k2 &&& (2147483647 : Int32)))), .val (.ref b353), .val (.ref b353), .unset, .unset] [(.int (1 : Int32))])) _
    refine XS.istore X370.here hx rfl (hb hby at_103) rfl (l' := #[.val (.int k0), .val (.int k1), .val (.int k2), .val (.int (own_max (1 : Int32) (k0 &&& (2147483647 : Int32)))), .val (.int (own_max (1 : Int32) (k1 &&& (2147483647 : Int32)))), .val (.int (own_max (1 : Int32) (k2 &&& (2147483647 : Int32)))), .val (.ref b353), .val (.ref b353), .val (.int (1 : Int32)), .unset]) rfl ?_
    show Steps p.tables e below (T370.setTop (mkF m 105 #[.val (.int k0), .val (.int k1), .val (.int k2), .val (.int (own_max (1 : Int32) (k0 &&& (2147483647 : Int32)))), .val (.int (own_max (1 : Int32) (k1 &&& (2147483647 : Int32)))), .val (.int (own_max (1 : Int32) (k2 &&& (2147483647 : Int32)))), .val (.ref b353), .val (.ref b353), .val (.int (1 : Int32)), .unset] [])) _
    refine XS.aload X370.here hx rfl (hb hby at_105) rfl rfl ?_
    show Steps p.tables e below (T370.setTop (mkF m 107 #[.val (.int k0), .val (.int k1), .val (.int k2), .val (.int (own_max (1 : Int32) (k0 &&& (2147483647 : Int32)))), .val (.int (own_max (1 : Int32) (k1 &&& (2147483647 : Int32)))), .val (.int (own_max (1 : Int32) (k2 &&& (2147483647 : Int32)))), .val (.ref b353), .val (.ref b353), .val (.int (1 : Int32)), .unset] [(.ref b353)])) _
    refine XS.iload X370.here hx rfl (hb hby at_107) rfl ?_
    show Steps p.tables e below (T370.setTop (mkF m 109 #[.val (.int k0), .val (.int k1), .val (.int k2), .val (.int (own_max (1 : Int32) (k0 &&& (2147483647 : Int32)))), .val (.int (own_max (1 : Int32) (k1 &&& (2147483647 : Int32)))), .val (.int (own_max (1 : Int32) (k2 &&& (2147483647 : Int32)))), .val (.ref b353), .val (.ref b353), .val (.int (1 : Int32)), .unset] [(.int (own_max (1 : Int32) (k1 &&& (2147483647 : Int32)))), (.ref b353)])) _
    refine st371.trans ?_
    show Steps p.tables e below (T371.setTop (mkF m 112 #[.val (.int k0), .val (.int k1), .val (.int k2), .val (.int (own_max (1 : Int32) (k0 &&& (2147483647 : Int32)))), .val (.int (own_max (1 : Int32) (k1 &&& (2147483647 : Int32)))), .val (.int (own_max (1 : Int32) (k2 &&& (2147483647 : Int32)))), .val (.ref b353), .val (.ref b353), .val (.int (1 : Int32)), .unset] [(.ref b353)])) _
    refine XS.astore X371.here hx rfl (hb hby at_112) rfl rfl (l' := #[.val (.int k0), .val (.int k1), .val (.int k2), .val (.int (own_max (1 : Int32) (k0 &&& (2147483647 : Int32)))), .val (.int (own_max (1 : Int32) (k1 &&& (2147483647 : Int32)))), .val (.int (own_max (1 : Int32) (k2 &&& (2147483647 : Int32)))), .val (.ref b353), .val (.ref b353), .val (.int (1 : Int32)), .val (.ref b353)]) rfl ?_
    show Steps p.tables e below (T371.setTop (mkF m 114 #[.val (.int k0), .val (.int k1), .val (.int k2), .val (.int (own_max (1 : Int32) (k0 &&& (2147483647 : Int32)))), .val (.int (own_max (1 : Int32) (k1 &&& (2147483647 : Int32)))), .val (.int (own_max (1 : Int32) (k2 &&& (2147483647 : Int32)))), .val (.ref b353), .val (.ref b353), .val (.int (1 : Int32)), .val (.ref b353)] [])) _
    refine XS.iload X371.here hx rfl (hb hby at_114) rfl ?_
    show Steps p.tables e below (T371.setTop (mkF m 116 #[.val (.int k0), .val (.int k1), .val (.int k2), .val (.int (own_max (1 : Int32) (k0 &&& (2147483647 : Int32)))), .val (.int (own_max (1 : Int32) (k1 &&& (2147483647 : Int32)))), .val (.int (own_max (1 : Int32) (k2 &&& (2147483647 : Int32)))), .val (.ref b353), .val (.ref b353), .val (.int (1 : Int32)), .val (.ref b353)] [(.int (1 : Int32))])) _
    refine XS.ifNo X371.here hx rfl (hb hby at_116) rfl ((if0 _ _).trans (feq (by decide : ¬ ((1 : Int32) = (0 : Int32)))).1) ?_
    show Steps p.tables e below (T371.setTop (mkF m 119 #[.val (.int k0), .val (.int k1), .val (.int k2), .val (.int (own_max (1 : Int32) (k0 &&& (2147483647 : Int32)))), .val (.int (own_max (1 : Int32) (k1 &&& (2147483647 : Int32)))), .val (.int (own_max (1 : Int32) (k2 &&& (2147483647 : Int32)))), .val (.ref b353), .val (.ref b353), .val (.int (1 : Int32)), .val (.ref b353)] [])) _
    refine XS.aload X371.here hx rfl (hb hby at_119) rfl rfl ?_
    show Steps p.tables e below (T371.setTop (mkF m 121 #[.val (.int k0), .val (.int k1), .val (.int k2), .val (.int (own_max (1 : Int32) (k0 &&& (2147483647 : Int32)))), .val (.int (own_max (1 : Int32) (k1 &&& (2147483647 : Int32)))), .val (.int (own_max (1 : Int32) (k2 &&& (2147483647 : Int32)))), .val (.ref b353), .val (.ref b353), .val (.int (1 : Int32)), .val (.ref b353)] [(.ref b353)])) _
    refine XS.aload X371.here hx rfl (hb hby at_121) rfl rfl ?_
    show Steps p.tables e below (T371.setTop (mkF m 123 #[.val (.int k0), .val (.int k1), .val (.int k2), .val (.int (own_max (1 : Int32) (k0 &&& (2147483647 : Int32)))), .val (.int (own_max (1 : Int32) (k1 &&& (2147483647 : Int32)))), .val (.int (own_max (1 : Int32) (k2 &&& (2147483647 : Int32)))), .val (.ref b353), .val (.ref b353), .val (.int (1 : Int32)), .val (.ref b353)] [(.ref b353), (.ref b353)])) _
    refine Jvm.RoadKit.acmp (g := (mkF m 123 #[.val (.int k0), .val (.int k1), .val (.int k2), .val (.int (own_max (1 : Int32) (k0 &&& (2147483647 : Int32)))), .val (.int (own_max (1 : Int32) (k1 &&& (2147483647 : Int32)))), .val (.int (own_max (1 : Int32) (k2 &&& (2147483647 : Int32)))), .val (.ref b353), .val (.ref b353), .val (.int (1 : Int32)), .val (.ref b353)] [(.ref b353), (.ref b353)])) X371 hx rfl rfl rfl (pc0 := 123) (pc' := 126) (same := true) rfl (hb hby at_123) rfl (decide_eq_true rfl) (by decide) (by decide) ?_
    show Steps p.tables e below (T371.setTop (mkF m 126 #[.val (.int k0), .val (.int k1), .val (.int k2), .val (.int (own_max (1 : Int32) (k0 &&& (2147483647 : Int32)))), .val (.int (own_max (1 : Int32) (k1 &&& (2147483647 : Int32)))), .val (.int (own_max (1 : Int32) (k2 &&& (2147483647 : Int32)))), .val (.ref b353), .val (.ref b353), .val (.int (1 : Int32)), .val (.ref b353)] [])) _
    refine XS.aload X371.here hx rfl (hb hby at_126) rfl rfl ?_
    show Steps p.tables e below (T371.setTop (mkF m 128 #[.val (.int k0), .val (.int k1), .val (.int k2), .val (.int (own_max (1 : Int32) (k0 &&& (2147483647 : Int32)))), .val (.int (own_max (1 : Int32) (k1 &&& (2147483647 : Int32)))), .val (.int (own_max (1 : Int32) (k2 &&& (2147483647 : Int32)))), .val (.ref b353), .val (.ref b353), .val (.int (1 : Int32)), .val (.ref b353)] [(.ref b353)])) _
    refine st374.trans ?_
    show Steps p.tables e below (T374.setTop (mkF m 131 #[.val (.int k0), .val (.int k1), .val (.int k2), .val (.int (own_max (1 : Int32) (k0 &&& (2147483647 : Int32)))), .val (.int (own_max (1 : Int32) (k1 &&& (2147483647 : Int32)))), .val (.int (own_max (1 : Int32) (k2 &&& (2147483647 : Int32)))), .val (.ref b353), .val (.ref b353), .val (.int (1 : Int32)), .val (.ref b353)] [(.int (own_max (1 : Int32) (k1 &&& (2147483647 : Int32))))])) _
    refine XS.iload X374.here hx rfl (hb hby at_131) rfl ?_
    show Steps p.tables e below (T374.setTop (mkF m 133 #[.val (.int k0), .val (.int k1), .val (.int k2), .val (.int (own_max (1 : Int32) (k0 &&& (2147483647 : Int32)))), .val (.int (own_max (1 : Int32) (k1 &&& (2147483647 : Int32)))), .val (.int (own_max (1 : Int32) (k2 &&& (2147483647 : Int32)))), .val (.ref b353), .val (.ref b353), .val (.int (1 : Int32)), .val (.ref b353)] [(.int (own_max (1 : Int32) (k1 &&& (2147483647 : Int32)))), (.int (own_max (1 : Int32) (k1 &&& (2147483647 : Int32))))])) _
    refine XS.icmpNo X374.here hx rfl (hb hby at_133) rfl (teq (rfl : (own_max (1 : Int32) (k1 &&& (2147483647 : Int32))) = (own_max (1 : Int32) (k1 &&& (2147483647 : Int32))))).2 ?_
    show Steps p.tables e below (T374.setTop (mkF m 136 #[.val (.int k0), .val (.int k1), .val (.int k2), .val (.int (own_max (1 : Int32) (k0 &&& (2147483647 : Int32)))), .val (.int (own_max (1 : Int32) (k1 &&& (2147483647 : Int32)))), .val (.int (own_max (1 : Int32) (k2 &&& (2147483647 : Int32)))), .val (.ref b353), .val (.ref b353), .val (.int (1 : Int32)), .val (.ref b353)] [])) _
    refine XS.aload X374.here hx rfl (hb hby at_136) rfl rfl ?_
    show Steps p.tables e below (T374.setTop (mkF m 138 #[.val (.int k0), .val (.int k1), .val (.int k2), .val (.int (own_max (1 : Int32) (k0 &&& (2147483647 : Int32)))), .val (.int (own_max (1 : Int32) (k1 &&& (2147483647 : Int32)))), .val (.int (own_max (1 : Int32) (k2 &&& (2147483647 : Int32)))), .val (.ref b353), .val (.ref b353), .val (.int (1 : Int32)), .val (.ref b353)] [(.ref b353)])) _
    refine st375.trans ?_
    show Steps p.tables e below (T375.setTop (mkF m 141 #[.val (.int k0), .val (.int k1), .val (.int k2), .val (.int (own_max (1 : Int32) (k0 &&& (2147483647 : Int32)))), .val (.int (own_max (1 : Int32) (k1 &&& (2147483647 : Int32)))), .val (.int (own_max (1 : Int32) (k2 &&& (2147483647 : Int32)))), .val (.ref b353), .val (.ref b353), .val (.int (1 : Int32)), .val (.ref b353)] [(.int (own_max (1 : Int32) (k2 &&& (2147483647 : Int32))))])) _
    refine XS.iload X375.here hx rfl (hb hby at_141) rfl ?_
    show Steps p.tables e below (T375.setTop (mkF m 143 #[.val (.int k0), .val (.int k1), .val (.int k2), .val (.int (own_max (1 : Int32) (k0 &&& (2147483647 : Int32)))), .val (.int (own_max (1 : Int32) (k1 &&& (2147483647 : Int32)))), .val (.int (own_max (1 : Int32) (k2 &&& (2147483647 : Int32)))), .val (.ref b353), .val (.ref b353), .val (.int (1 : Int32)), .val (.ref b353)] [(.int (own_max (1 : Int32) (k2 &&& (2147483647 : Int32)))), (.int (own_max (1 : Int32) (k2 &&& (2147483647 : Int32))))])) _
    refine XS.icmpNo X375.here hx rfl (hb hby at_143) rfl (teq (rfl : (own_max (1 : Int32) (k2 &&& (2147483647 : Int32))) = (own_max (1 : Int32) (k2 &&& (2147483647 : Int32))))).2 ?_
    show Steps p.tables e below (T375.setTop (mkF m 146 #[.val (.int k0), .val (.int k1), .val (.int k2), .val (.int (own_max (1 : Int32) (k0 &&& (2147483647 : Int32)))), .val (.int (own_max (1 : Int32) (k1 &&& (2147483647 : Int32)))), .val (.int (own_max (1 : Int32) (k2 &&& (2147483647 : Int32)))), .val (.ref b353), .val (.ref b353), .val (.int (1 : Int32)), .val (.ref b353)] [])) _
    refine XS.iconst X375.here hx rfl (hb hby at_146) ?_
    show Steps p.tables e below (T375.setTop (mkF m 147 #[.val (.int k0), .val (.int k1), .val (.int k2), .val (.int (own_max (1 : Int32) (k0 &&& (2147483647 : Int32)))), .val (.int (own_max (1 : Int32) (k1 &&& (2147483647 : Int32)))), .val (.int (own_max (1 : Int32) (k2 &&& (2147483647 : Int32)))), .val (.ref b353), .val (.ref b353), .val (.int (1 : Int32)), .val (.ref b353)] [(.int (1 : Int32))])) _
    refine XS.goto X375.here hx rfl (pc0 := 147) (pc' := 151) rfl (hb hby at_147) (by decide) (by decide) ?_
    show Steps p.tables e below (T375.setTop (mkF m 151 #[.val (.int k0), .val (.int k1), .val (.int k2), .val (.int (own_max (1 : Int32) (k0 &&& (2147483647 : Int32)))), .val (.int (own_max (1 : Int32) (k1 &&& (2147483647 : Int32)))), .val (.int (own_max (1 : Int32) (k2 &&& (2147483647 : Int32)))), .val (.ref b353), .val (.ref b353), .val (.int (1 : Int32)), .val (.ref b353)] [(.int (1 : Int32))])) _
    refine XS.istore X375.here hx rfl (hb hby at_151) rfl (l' := #[.val (.int k0), .val (.int k1), .val (.int k2), .val (.int (own_max (1 : Int32) (k0 &&& (2147483647 : Int32)))), .val (.int (own_max (1 : Int32) (k1 &&& (2147483647 : Int32)))), .val (.int (own_max (1 : Int32) (k2 &&& (2147483647 : Int32)))), .val (.ref b353), .val (.ref b353), .val (.int (1 : Int32)), .val (.ref b353)]) rfl ?_
    show Steps p.tables e below (T375.setTop (mkF m 153 #[.val (.int k0), .val (.int k1), .val (.int k2), .val (.int (own_max (1 : Int32) (k0 &&& (2147483647 : Int32)))), .val (.int (own_max (1 : Int32) (k1 &&& (2147483647 : Int32)))), .val (.int (own_max (1 : Int32) (k2 &&& (2147483647 : Int32)))), .val (.ref b353), .val (.ref b353), .val (.int (1 : Int32)), .val (.ref b353)] [])) _
    refine XS.iload X375.here hx rfl (hb hby at_153) rfl ?_
    show Steps p.tables e below (T375.setTop (mkF m 155 #[.val (.int k0), .val (.int k1), .val (.int k2), .val (.int (own_max (1 : Int32) (k0 &&& (2147483647 : Int32)))), .val (.int (own_max (1 : Int32) (k1 &&& (2147483647 : Int32)))), .val (.int (own_max (1 : Int32) (k2 &&& (2147483647 : Int32)))), .val (.ref b353), .val (.ref b353), .val (.int (1 : Int32)), .val (.ref b353)] [(.int (1 : Int32))])) _
    exact k_)
  obtain ⟨fs, hr, hrun, hended, hW, hsame⟩ := X375.leave (v := some (.int (1 : Int32))) (fun h => by rw [Bd.returns] at h; cases h)
  refine ⟨_, _, pre376 _ ?_, hrun, hended, _, _, rfl, ?_, ⟨_, rfl⟩, hW, hsame.mono (by decide) (by decide)⟩
  · show Steps p.tables e below (T375.setTop (mkF m 155 #[.val (.int k0), .val (.int k1), .val (.int k2), .val (.int (own_max (1 : Int32) (k0 &&& (2147483647 : Int32)))), .val (.int (own_max (1 : Int32) (k1 &&& (2147483647 : Int32)))), .val (.int (own_max (1 : Int32) (k2 &&& (2147483647 : Int32)))), .val (.ref b353), .val (.ref b353), .val (.int (1 : Int32)), .val (.ref b353)] [(.int (1 : Int32))])) _
    exact retN X375 hx (t := .boolean) Bd.returns (by simp) (hb hby at_155) hr
  · show Q_0 Z k0 k1 k2 w_RESP3 w_ZERO w_EL h0 n0 _ T375.heap _
    rw [e375]
    exact ⟨rfl, N375⟩
set_option maxRecDepth 65536 in
set_option maxHeartbeats 40000000 in
theorem comes_1 {Post : Tables → Env → Array Value → State → Outcome → State → Prop} (hpost : ∀ tb e args s v u, (limb_1_1.after args s (.returned v) u = true ∧ limb_1_2.after args s (.returned v) u = true ∧ True) → FrameEnd s (.returned v) u (Jvm.fieldLocs frame_1_writes args s ++ Jvm.arrayLocs frame_1_arrays args s ++ Jvm.staticLocs frame_1_statics s) 24 128 → Post tb e args s (.returned v) u) :
    ArmFor flags0 classFile x code maxLocals ret World_1 tables_1 room_1 Calls_1 rest_1 Pre_1 Post := by
  intro l hfl _ _ p e ha hc hk s m args below hf hA hF happ hP
  obtain ⟨hcalls, hrest, hpre⟩ := hP
  obtain ⟨-, -, -, hnamed, -, -, -, hat⟩ := (Spec.applies_iff hf).mp happ
  obtain ⟨hg, hn⟩ := and_e (Cond.before_iff.mp (show (Jvm.Cond.and given_1 narrow_1).before args s = true from hpre))
  obtain ⟨hcount, hg0⟩ := and_e hg
  obtain ⟨hi0, hg1⟩ := and_e hg0
  obtain ⟨hi1, hg2⟩ := and_e hg1
  obtain ⟨w0, w1, w2, rfl⟩ : ∃ w0 w1 w2 : Value, args = #[w0, w1, w2] := by
    have hs : args.size = 3 := by simpa [Cond.value, given_1] using hcount
    obtain ⟨L⟩ := args
    match L, hs with
    | [w0, w1, w2], _ => exact ⟨w0, w1, w2, rfl⟩
  have hw := fun d (hd : d ∈ tables_1) => atoms_spec (ws := Jvm.Cond.code x code maxLocals ret :: tables_1) hat d (List.mem_cons_of_mem _ hd)
  have hfit : Fit s := fun {y c} hc i hi => by
    obtain ⟨ha, rfl⟩ := Array.getElem?_eq_some_iff.mp hc
    have q := List.all_eq_true.mp ((Array.all_eq_true_iff_forall_mem.mp hF) _ (Array.getElem_mem ha)) i (List.mem_range.mpr hi)
    simpa [Array.getElem?_eq_getElem hi] using q
  obtain ⟨i0, ei0⟩ := is_v hi0
  obtain rfl : w0 = (.int i0) := Option.some.inj ei0
  obtain ⟨i1, ei1⟩ := is_v hi1
  obtain rfl : w1 = (.int i1) := Option.some.inj ei1
  obtain ⟨i2, ei2⟩ := is_v hg2
  obtain rfl : w2 = (.int i2) := Option.some.inj ei2
  have g0 := hn
  obtain ⟨w_RESP3, ev_RESP3, S_RESP3, E_RESP3⟩ := own_sta (hw _ (List.mem_of_getElem? (i := 15) rfl)) (hw _ (List.mem_of_getElem? (i := 16) rfl)) g0
  obtain ⟨hsets, hown0⟩ := atoms_of _ (rest_1_c_eq ▸ (show rest_1_c.before _ s = true from hrest))
  have hsv := fun d (hd : d ∈ jdkStatics_1) => Cond.before_iff.mp (hsets d hd)
  obtain ⟨w_ZERO, ev_ZERO⟩ := exa_v (hsv _ (List.mem_of_getElem? (i := 2) rfl))
  have S_ZERO : Sta s s.heap "java/time/Duration" "ZERO" "Ljava/time/Duration;" (.ref w_ZERO) := Sta.start ev_ZERO (Or.inl (hsets _ (List.mem_of_getElem? (i := 1) rfl)))
  obtain ⟨w_EL, ev_EL⟩ := exa_v (hsv _ (List.mem_of_getElem? (i := 7) rfl))
  have S_EL : Sta s s.heap "java/util/ImmutableCollections" "EMPTY_LIST" "Ljava/util/ImmutableCollections$ListN;" (.ref w_EL) := Sta.start ev_EL (Or.inl (hsets _ (List.mem_of_getElem? (i := 6) rfl)))
  obtain ⟨n, o, h1, h2, h3, _, L, rfl, ⟨rfl, N⟩, hq⟩ := rm_0 l s _ hw tables_1 i0 i1 i2 w_RESP3 w_ZERO w_EL s.heap s.heap.size (Nat.le_refl _) S_RESP3 S_ZERO S_EL p e ha hc hk s m _ below hf ((Spec.applies_iff_loose hf).mp happ).1 ⟨rfl, State.Warmed39.refl s, rfl⟩ trivial
  refine ⟨n, _, h1, h2, h3, hpost _ _ _ _ _ _ ⟨Cond.after_iff.mpr rfl, Cond.after_iff.mpr (eq_i res_at (Term.int_eval (1)) rfl), trivial⟩ ⟨hq.1, hq.2.1, (hq.2.2.sift fun y hy => Or.inr (N y hy)).mono (by decide) (by decide)⟩⟩
theorem main_1_1 : Claimed_1_1 := comes_1 fun _ _ _ _ _ _ h hF => ⟨h.1, hF⟩
theorem main_1_2 : Claimed_1_2 := comes_1 fun _ _ _ _ _ _ h hF => ⟨h.2.1, hF⟩
end Jvm.Pilot.@@N@@
namespace Jvm.Pilot.@@N@@
open Jvm Jvm.ClassFile Sem Op Lib Jvm.Free Jvm.Stand Jvm.Pilot.@@N@@.Jvm.D
/-! MADE BY PROGRAM (witnessworld.py) out of the Statement's table words and the real class files: 27 classes; the members and pool entries that the words name. The judged class is class 1, her method 1. -/
namespace start1
open Jvm.ClassFile
def u (s : String) : CpInfo := .utf8 (stringToUtf16 s)
/-- a pool by its gaps: so many unusable entries, then the entry; so many at the end -/
def gap : Nat → List CpInfo → List CpInfo
  | 0, r => r
  | n + 1, r => .unusable :: gap n r
def poolList (es : List (Nat × CpInfo)) (last : Nat) : List CpInfo := es.foldr (fun e r => gap e.1 (e.2 :: r)) (gap last [])
def pool (es : List (Nat × CpInfo)) (last : Nat) : Array CpInfo := ⟨poolList es last⟩
def fileOf (pool : Array CpInfo) (this : Nat) (attrs : Array Attribute := #[]) (ms : Array MethodInfo := #[]) (fl : Nat := 33) (sup : Nat := 0) (ifs : Array Nat := #[]) (fds : Array FieldInfo := #[]) : ClassFile where
  minorVersion := 0
  majorVersion := 65
  constantPool := pool
  accessFlags := fl
  thisClass := this
  superClass := sup
  interfaces := ifs
  fields := fds
  methods := ms
  attributes := attrs
def plain (name : String) (sup : Option ClassId) : Class where
  name := name
  kind := .ordinary
  loader := none
  accessFlags := 33
  super := sup
  interfaces := #[]
  cf := none
  fields := #[]
  methods := #[]
  instanceTypes := #[]
  staticTypes := #[]
  resolved := #[]
  callSites := []
  init := .initialized
  statics := none
  mirror := none

def pool0 : Array CpInfo := pool [(5, u "<init>"), (0, u "()V"), (1, .class_ 10), (1, u "java/lang/Object")] 113

def k0c0 : Code := { maxStack := 0, maxLocals := 1, code := object_method_1_code, exceptionTable := #[], attributes := #[] }
def k0m0 : Method := { name := "<init>", desc := "()V", sig := { parameters := [], returnType := none }, accessFlags := 1, code := some k0c0 }
/-- java/lang/Object -/
def k0 : Class := { plain "java/lang/Object" none with
  accessFlags := 33
  interfaces := #[]
  cf := some (fileOf pool0 8 #[] #[{ accessFlags := 1, nameIndex := 5, descriptorIndex := 6, attributes := #[] }] 33 0 #[] #[])
  fields := #[]
  methods := #[k0m0]
  instanceTypes := #[]
  staticTypes := #[]
  resolved := Array.replicate 124 none
  statics := none }

def pool1 : Array CpInfo := pool [(2, .class_ 4), (0, .nameAndType 5 6), (0, u "java/lang/Object"), (0, u "<init>"), (0, u "()V"), (0, .integer 2147483647), (0, .methodref 9 10), (0, .class_ 11), (0, .nameAndType 12 13), (0, u "java/lang/Math"), (0, u "max"), (0, u "(II)I"), (0, .class_ 15), (0, u "com/example/keelreach/keelreach/RedisOptions"), (0, .methodref 14 3), (0, .methodref 14 18), (0, .nameAndType 19 20), (0, u "setMaxCommandsInFlight"), (0, u "(I)Lcom/example/keelreach/keelreach/RedisOptions;"), (0, .methodref 14 22), (0, .nameAndType 23 20), (0, u "setAutoPipeliningThreshold"), (0, .methodref 14 25), (0, .nameAndType 26 27), (0, u "getAutoPipeliningThreshold"), (0, u "()I"), (0, .methodref 14 29), (0, .nameAndType 30 27), (0, u "getMaxCommandsInFlight"), (0, .methodref 14 32), (0, .nameAndType 33 27), (0, u "getMaxPoolSize"), (0, .methodref 14 35), (0, .nameAndType 36 37), (0, u "isAutoPipelining"), (0, u "()Z"), (0, .class_ 39), (0, u "com/example/keelreach/keelreach/RedisOptionsSetAutoPipeliningThresholdPinLaw"), (2, u "law"), (0, u "(III)Z")] 3

def k1m0 : Method := { name := "<init>", desc := "()V", sig := { parameters := [], returnType := none }, accessFlags := 2, code := none }
def k1c1 : Code := { maxStack := 3, maxLocals := 10, code := code, exceptionTable := #[], attributes := #[] }
def k1m1 : Method := { name := "law", desc := "(III)Z", sig := { parameters := [.int, .int, .int], returnType := some .boolean }, accessFlags := 9, code := some k1c1 }
/-- com/example/keelreach/keelreach/RedisOptionsSetAutoPipeliningThresholdPinLaw -/
def k1 : Class := { plain "com/example/keelreach/keelreach/RedisOptionsSetAutoPipeliningThresholdPinLaw" (some 0) with
  accessFlags := 49
  interfaces := #[]
  cf := some (fileOf pool1 38 #[] #[{ accessFlags := 2, nameIndex := 5, descriptorIndex := 6, attributes := #[] }, { accessFlags := 9, nameIndex := 42, descriptorIndex := 43, attributes := #[] }] 49 2 #[] #[])
  fields := #[]
  methods := #[k1m0, k1m1]
  instanceTypes := #[]
  staticTypes := #[]
  resolved := Array.replicate 47 none
  statics := none }

def pool2 : Array CpInfo := pool [(1, .class_ 2), (0, u "java/lang/Math"), (1, .class_ 6), (1, u "java/lang/Object"), (0, u "<init>"), (0, u "()V"), (89, .class_ 100), (1, u "java/lang/Math$RandomNumberGeneratorHolder"), (71, u "negativeZeroFloatBits"), (0, u "J"), (2, u "negativeZeroDoubleBits"), (21, u "max"), (46, u "$assertionsDisabled"), (0, u "Z"), (88, u "(II)I"), (2, u "twoToTheDoubleScaleDown"), (0, u "D"), (4, u "twoToTheDoubleScaleUp"), (9, u "E"), (3, u "PI"), (2, u "TAU"), (2, u "DEGREES_TO_RADIANS"), (0, u "RADIANS_TO_DEGREES")] 94

def k2m0 : Method := { name := "<init>", desc := "()V", sig := { parameters := [], returnType := none }, accessFlags := 2, code := none }
def k2c1 : Code := { maxStack := 2, maxLocals := 2, code := jdk_29_method_65_code, exceptionTable := #[], attributes := #[] }
def k2m1 : Method := { name := "max", desc := "(II)I", sig := { parameters := [.int, .int], returnType := some .int }, accessFlags := 9, code := some k2c1 }
/-- java/lang/Math -/
def k2 : Class := { plain "java/lang/Math" (some 0) with
  accessFlags := 49
  interfaces := #[]
  cf := some (fileOf pool2 1 #[.nestMembers #[98]] #[{ accessFlags := 2, nameIndex := 7, descriptorIndex := 8, attributes := #[] }, { accessFlags := 9, nameIndex := 198, descriptorIndex := 335, attributes := #[] }] 49 4 #[] #[{ accessFlags := 25, nameIndex := 354, descriptorIndex := 339, attributes := #[] }, { accessFlags := 25, nameIndex := 358, descriptorIndex := 339, attributes := #[] }, { accessFlags := 25, nameIndex := 361, descriptorIndex := 339, attributes := #[] }, { accessFlags := 26, nameIndex := 364, descriptorIndex := 339, attributes := #[] }, { accessFlags := 26, nameIndex := 365, descriptorIndex := 339, attributes := #[] }, { accessFlags := 26, nameIndex := 172, descriptorIndex := 173, attributes := #[] }, { accessFlags := 26, nameIndex := 176, descriptorIndex := 173, attributes := #[] }, { accessFlags := 8, nameIndex := 344, descriptorIndex := 339, attributes := #[] }, { accessFlags := 8, nameIndex := 338, descriptorIndex := 339, attributes := #[] }, { accessFlags := 4120, nameIndex := 245, descriptorIndex := 246, attributes := #[] }])
  fields := #[{ name := "E", type := .double, accessFlags := 25, slot := 0, constantValue := 0 }, { name := "PI", type := .double, accessFlags := 25, slot := 1, constantValue := 0 }, { name := "TAU", type := .double, accessFlags := 25, slot := 2, constantValue := 0 }, { name := "DEGREES_TO_RADIANS", type := .double, accessFlags := 26, slot := 3, constantValue := 0 }, { name := "RADIANS_TO_DEGREES", type := .double, accessFlags := 26, slot := 4, constantValue := 0 }, { name := "negativeZeroFloatBits", type := .long, accessFlags := 26, slot := 5, constantValue := 0 }, { name := "negativeZeroDoubleBits", type := .long, accessFlags := 26, slot := 6, constantValue := 0 }, { name := "twoToTheDoubleScaleUp", type := .double, accessFlags := 8, slot := 7, constantValue := 0 }, { name := "twoToTheDoubleScaleDown", type := .double, accessFlags := 8, slot := 8, constantValue := 0 }, { name := "$assertionsDisabled", type := .boolean, accessFlags := 4120, slot := 9, constantValue := 0 }]
  methods := #[k2m0, k2m1]
  instanceTypes := #[]
  staticTypes := #[.double, .double, .double, .double, .double, .long, .long, .double, .double, .boolean]
  resolved := Array.replicate 460 none
  statics := none }

def pool3 : Array CpInfo := pool [(1, .methodref 2 3), (0, .class_ 4), (0, .nameAndType 5 6), (0, u "java/lang/Object"), (0, u "<init>"), (0, u "()V"), (0, .fieldref 8 9), (0, .class_ 10), (0, .nameAndType 11 12), (0, u "com/example/keelreach/keelreach/ProtocolVersion"), (0, u "RESP3"), (0, u "Lcom/example/keelreach/keelreach/ProtocolVersion;"), (0, .fieldref 14 15), (0, .class_ 16), (0, .nameAndType 17 12), (0, u "com/example/keelreach/keelreach/RedisOptions"), (0, u "preferredProtocolVersion"), (0, .fieldref 14 19), (0, .nameAndType 20 21), (0, u "maxPoolSize"), (0, u "I"), (0, .fieldref 14 23), (0, .nameAndType 24 21), (0, u "maxPoolWaiting"), (0, .long 30), (1, .methodref 28 29), (0, .class_ 30), (0, .nameAndType 31 32), (0, u "java/time/Duration"), (0, u "ofSeconds"), (0, u "(J)Ljava/time/Duration;"), (0, .fieldref 14 34), (0, .nameAndType 35 36), (0, u "poolCleanerInterval"), (0, u "Ljava/time/Duration;"), (0, .long 180), (1, .fieldref 14 40), (0, .nameAndType 41 36), (0, u "poolRecycleTimeout"), (0, .long 10), (1, .fieldref 14 45), (0, .nameAndType 46 36), (0, u "connectTimeout"), (0, .fieldref 28 48), (0, .nameAndType 49 36), (0, u "ZERO"), (0, .fieldref 14 51), (0, .nameAndType 52 36), (0, u "commandTimeout"), (0, .fieldref 14 54), (0, .nameAndType 55 21), (0, u "maxCommandsInFlight"), (0, .methodref 28 57), (0, .nameAndType 58 32), (0, u "ofMillis"), (0, .fieldref 14 60), (0, .nameAndType 61 36), (0, u "autoPipeliningInterval"), (0, .fieldref 14 63), (0, .nameAndType 64 21), (0, u "autoPipeliningThreshold"), (0, .interfaceMethodref 66 67), (0, .class_ 68), (0, .nameAndType 69 70), (0, u "java/util/List"), (0, u "of"), (0, u "()Ljava/util/List;"), (0, .fieldref 14 72), (0, .nameAndType 73 74), (0, u "trustedCertificates"), (0, u "Ljava/util/List;"), (0, .fieldref 14 76), (0, .nameAndType 77 78), (0, u "verifyHostName"), (0, u "Z"), (2, u "connectionString"), (0, u "Ljava/lang/String;"), (38, u "()Z"), (7, .fieldref 14 130), (0, .nameAndType 131 78), (0, u "autoPipelining"), (3, u "()I"), (9, u "clientCertificate"), (0, u "Ljava/nio/file/Path;"), (2, u "clientKey"), (12, u "getMaxPoolSize"), (1, u "(I)Lcom/example/keelreach/keelreach/RedisOptions;"), (13, u "getMaxCommandsInFlight"), (0, u "setMaxCommandsInFlight"), (0, u "isAutoPipelining"), (4, u "getAutoPipeliningThreshold"), (0, u "setAutoPipeliningThreshold")] 46

def k3c0 : Code := { maxStack := 3, maxLocals := 1, code := prog_6_method_1_code, exceptionTable := #[], attributes := #[] }
def k3m0 : Method := { name := "<init>", desc := "()V", sig := { parameters := [], returnType := none }, accessFlags := 1, code := some k3c0 }
def k3c1 : Code := { maxStack := 1, maxLocals := 1, code := prog_6_method_6_code, exceptionTable := #[], attributes := #[] }
def k3m1 : Method := { name := "getMaxPoolSize", desc := "()I", sig := { parameters := [], returnType := some .int }, accessFlags := 1, code := some k3c1 }
def k3c2 : Code := { maxStack := 1, maxLocals := 1, code := prog_6_method_18_code, exceptionTable := #[], attributes := #[] }
def k3m2 : Method := { name := "getMaxCommandsInFlight", desc := "()I", sig := { parameters := [], returnType := some .int }, accessFlags := 1, code := some k3c2 }
def k3c3 : Code := { maxStack := 3, maxLocals := 2, code := prog_6_method_19_code, exceptionTable := #[], attributes := #[] }
def k3m3 : Method := { name := "setMaxCommandsInFlight", desc := "(I)Lcom/example/keelreach/keelreach/RedisOptions;", sig := { parameters := [.int], returnType := some (.object "com/example/keelreach/keelreach/RedisOptions") }, accessFlags := 1, code := some k3c3 }
def k3c4 : Code := { maxStack := 1, maxLocals := 1, code := prog_6_method_20_code, exceptionTable := #[], attributes := #[] }
def k3m4 : Method := { name := "isAutoPipelining", desc := "()Z", sig := { parameters := [], returnType := some .boolean }, accessFlags := 1, code := some k3c4 }
def k3c5 : Code := { maxStack := 1, maxLocals := 1, code := prog_6_method_24_code, exceptionTable := #[], attributes := #[] }
def k3m5 : Method := { name := "getAutoPipeliningThreshold", desc := "()I", sig := { parameters := [], returnType := some .int }, accessFlags := 1, code := some k3c5 }
def k3c6 : Code := { maxStack := 3, maxLocals := 2, code := prog_6_method_25_code, exceptionTable := #[], attributes := #[] }
def k3m6 : Method := { name := "setAutoPipeliningThreshold", desc := "(I)Lcom/example/keelreach/keelreach/RedisOptions;", sig := { parameters := [.int], returnType := some (.object "com/example/keelreach/keelreach/RedisOptions") }, accessFlags := 1, code := some k3c6 }
/-- com/example/keelreach/keelreach/RedisOptions -/
def k3 : Class := { plain "com/example/keelreach/keelreach/RedisOptions" (some 0) with
  accessFlags := 49
  interfaces := #[]
  cf := some (fileOf pool3 14 #[] #[{ accessFlags := 1, nameIndex := 5, descriptorIndex := 6, attributes := #[] }, { accessFlags := 1, nameIndex := 162, descriptorIndex := 135, attributes := #[] }, { accessFlags := 1, nameIndex := 178, descriptorIndex := 135, attributes := #[] }, { accessFlags := 1, nameIndex := 179, descriptorIndex := 164, attributes := #[] }, { accessFlags := 1, nameIndex := 180, descriptorIndex := 121, attributes := #[] }, { accessFlags := 1, nameIndex := 185, descriptorIndex := 135, attributes := #[] }, { accessFlags := 1, nameIndex := 186, descriptorIndex := 164, attributes := #[] }] 49 2 #[] #[{ accessFlags := 2, nameIndex := 81, descriptorIndex := 82, attributes := #[] }, { accessFlags := 2, nameIndex := 17, descriptorIndex := 12, attributes := #[] }, { accessFlags := 2, nameIndex := 20, descriptorIndex := 21, attributes := #[] }, { accessFlags := 2, nameIndex := 24, descriptorIndex := 21, attributes := #[] }, { accessFlags := 2, nameIndex := 35, descriptorIndex := 36, attributes := #[] }, { accessFlags := 2, nameIndex := 41, descriptorIndex := 36, attributes := #[] }, { accessFlags := 2, nameIndex := 46, descriptorIndex := 36, attributes := #[] }, { accessFlags := 2, nameIndex := 52, descriptorIndex := 36, attributes := #[] }, { accessFlags := 2, nameIndex := 55, descriptorIndex := 21, attributes := #[] }, { accessFlags := 2, nameIndex := 131, descriptorIndex := 78, attributes := #[] }, { accessFlags := 2, nameIndex := 61, descriptorIndex := 36, attributes := #[] }, { accessFlags := 2, nameIndex := 64, descriptorIndex := 21, attributes := #[] }, { accessFlags := 2, nameIndex := 73, descriptorIndex := 74, attributes := #[] }, { accessFlags := 2, nameIndex := 145, descriptorIndex := 146, attributes := #[] }, { accessFlags := 2, nameIndex := 149, descriptorIndex := 146, attributes := #[] }, { accessFlags := 2, nameIndex := 77, descriptorIndex := 78, attributes := #[] }])
  fields := #[{ name := "connectionString", type := (.object "java/lang/String"), accessFlags := 2, slot := 0, constantValue := 0 }, { name := "preferredProtocolVersion", type := (.object "com/example/keelreach/keelreach/ProtocolVersion"), accessFlags := 2, slot := 1, constantValue := 0 }, { name := "maxPoolSize", type := .int, accessFlags := 2, slot := 2, constantValue := 0 }, { name := "maxPoolWaiting", type := .int, accessFlags := 2, slot := 3, constantValue := 0 }, { name := "poolCleanerInterval", type := (.object "java/time/Duration"), accessFlags := 2, slot := 4, constantValue := 0 }, { name := "poolRecycleTimeout", type := (.object "java/time/Duration"), accessFlags := 2, slot := 5, constantValue := 0 }, { name := "connectTimeout", type := (.object "java/time/Duration"), accessFlags := 2, slot := 6, constantValue := 0 }, { name := "commandTimeout", type := (.object "java/time/Duration"), accessFlags := 2, slot := 7, constantValue := 0 }, { name := "maxCommandsInFlight", type := .int, accessFlags := 2, slot := 8, constantValue := 0 }, { name := "autoPipelining", type := .boolean, accessFlags := 2, slot := 9, constantValue := 0 }, { name := "autoPipeliningInterval", type := (.object "java/time/Duration"), accessFlags := 2, slot := 10, constantValue := 0 }, { name := "autoPipeliningThreshold", type := .int, accessFlags := 2, slot := 11, constantValue := 0 }, { name := "trustedCertificates", type := (.object "java/util/List"), accessFlags := 2, slot := 12, constantValue := 0 }, { name := "clientCertificate", type := (.object "java/nio/file/Path"), accessFlags := 2, slot := 13, constantValue := 0 }, { name := "clientKey", type := (.object "java/nio/file/Path"), accessFlags := 2, slot := 14, constantValue := 0 }, { name := "verifyHostName", type := .boolean, accessFlags := 2, slot := 15, constantValue := 0 }]
  methods := #[k3m0, k3m1, k3m2, k3m3, k3m4, k3m5, k3m6]
  instanceTypes := #[(.object "java/lang/String"), (.object "com/example/keelreach/keelreach/ProtocolVersion"), .int, .int, (.object "java/time/Duration"), (.object "java/time/Duration"), (.object "java/time/Duration"), (.object "java/time/Duration"), .int, .boolean, (.object "java/time/Duration"), .int, (.object "java/util/List"), (.object "java/nio/file/Path"), (.object "java/nio/file/Path"), .boolean]
  staticTypes := #[]
  resolved := Array.replicate 233 none
  statics := none }

def pool4 : Array CpInfo := pool [(1, .class_ 2), (0, u "java/lang/constant/Constable"), (0, .class_ 4), (0, u "java/lang/Object")] 6

/-- java/lang/constant/Constable -/
def k4 : Class := { plain "java/lang/constant/Constable" (some 0) with
  accessFlags := 1537
  interfaces := #[]
  cf := some (fileOf pool4 1 #[] #[] 1537 3 #[] #[])
  fields := #[]
  methods := #[]
  instanceTypes := #[]
  staticTypes := #[]
  resolved := Array.replicate 11 none
  statics := none }

def pool5 : Array CpInfo := pool [(1, .class_ 2), (0, u "java/lang/Comparable"), (0, .class_ 4), (0, u "java/lang/Object")] 7

/-- java/lang/Comparable -/
def k5 : Class := { plain "java/lang/Comparable" (some 0) with
  accessFlags := 1537
  interfaces := #[]
  cf := some (fileOf pool5 1 #[] #[] 1537 3 #[] #[])
  fields := #[]
  methods := #[]
  instanceTypes := #[]
  staticTypes := #[]
  resolved := Array.replicate 12 none
  statics := none }

def pool6 : Array CpInfo := pool [(1, .class_ 2), (0, u "java/io/Serializable"), (0, .class_ 4), (0, u "java/lang/Object")] 2

/-- java/io/Serializable -/
def k6 : Class := { plain "java/io/Serializable" (some 0) with
  accessFlags := 1537
  interfaces := #[]
  cf := some (fileOf pool6 1 #[] #[] 1537 3 #[] #[])
  fields := #[]
  methods := #[]
  instanceTypes := #[]
  staticTypes := #[]
  resolved := Array.replicate 7 none
  statics := none }

def pool7 : Array CpInfo := pool [(2, .class_ 4), (1, u "java/lang/Enum"), (0, u "name"), (0, u "Ljava/lang/String;"), (2, u "ordinal"), (0, u "I"), (1, .class_ 14), (1, u "java/lang/Object"), (4, u "hash"), (86, .class_ 108), (1, u "java/lang/Enum$EnumDesc"), (2, .class_ 112), (0, u "java/lang/constant/Constable"), (0, .class_ 114), (0, u "java/lang/Comparable"), (0, .class_ 116), (0, u "java/io/Serializable")] 87

/-- java/lang/Enum -/
def k7 : Class := { plain "java/lang/Enum" (some 0) with
  accessFlags := 1057
  interfaces := #[4, 5, 6]
  cf := some (fileOf pool7 2 #[.nestMembers #[106]] #[] 1057 12 #[111, 113, 115] #[{ accessFlags := 18, nameIndex := 5, descriptorIndex := 6, attributes := #[] }, { accessFlags := 18, nameIndex := 9, descriptorIndex := 10, attributes := #[] }, { accessFlags := 2, nameIndex := 19, descriptorIndex := 10, attributes := #[] }])
  fields := #[{ name := "name", type := (.object "java/lang/String"), accessFlags := 18, slot := 0, constantValue := 0 }, { name := "ordinal", type := .int, accessFlags := 18, slot := 1, constantValue := 0 }, { name := "hash", type := .int, accessFlags := 2, slot := 2, constantValue := 0 }]
  methods := #[]
  instanceTypes := #[(.object "java/lang/String"), .int, .int]
  staticTypes := #[]
  resolved := Array.replicate 204 none
  statics := none }

def pool8 : Array CpInfo := pool [(1, .class_ 2), (0, u "com/example/keelreach/keelreach/ProtocolVersion"), (2, u "RESP2"), (0, u "Lcom/example/keelreach/keelreach/ProtocolVersion;"), (2, u "RESP3"), (2, u "$VALUES"), (0, u "[Lcom/example/keelreach/keelreach/ProtocolVersion;"), (6, .class_ 22), (1, u "java/lang/Enum")] 24

/-- com/example/keelreach/keelreach/ProtocolVersion -/
def k8 : Class := { plain "com/example/keelreach/keelreach/ProtocolVersion" (some 7) with
  accessFlags := 16433
  interfaces := #[]
  cf := some (fileOf pool8 1 #[] #[] 16433 20 #[] #[{ accessFlags := 16409, nameIndex := 5, descriptorIndex := 6, attributes := #[] }, { accessFlags := 16409, nameIndex := 9, descriptorIndex := 6, attributes := #[] }, { accessFlags := 4122, nameIndex := 12, descriptorIndex := 13, attributes := #[] }])
  fields := #[{ name := "RESP2", type := (.object "com/example/keelreach/keelreach/ProtocolVersion"), accessFlags := 16409, slot := 0, constantValue := 0 }, { name := "RESP3", type := (.object "com/example/keelreach/keelreach/ProtocolVersion"), accessFlags := 16409, slot := 1, constantValue := 0 }, { name := "$VALUES", type := (.array (.object "com/example/keelreach/keelreach/ProtocolVersion")), accessFlags := 4122, slot := 2, constantValue := 0 }]
  methods := #[]
  instanceTypes := #[(.object "java/lang/String"), .int, .int]
  staticTypes := #[(.object "com/example/keelreach/keelreach/ProtocolVersion"), (.object "com/example/keelreach/keelreach/ProtocolVersion"), (.array (.object "com/example/keelreach/keelreach/ProtocolVersion"))]
  resolved := Array.replicate 47 none
  statics := some 0 }

def pool9 : Array CpInfo := pool [(1, .class_ 2), (0, u "java/time/temporal/TemporalAmount"), (0, .class_ 4), (0, u "java/lang/Object")] 11

/-- java/time/temporal/TemporalAmount -/
def k9 : Class := { plain "java/time/temporal/TemporalAmount" (some 0) with
  accessFlags := 1537
  interfaces := #[]
  cf := some (fileOf pool9 1 #[] #[] 1537 3 #[] #[])
  fields := #[]
  methods := #[]
  instanceTypes := #[]
  staticTypes := #[]
  resolved := Array.replicate 16 none
  statics := none }

def pool10 : Array CpInfo := pool [(10, .methodref 11 12), (0, .class_ 13), (0, .nameAndType 14 15), (0, u "java/time/Duration"), (0, u "create"), (0, u "(JI)Ljava/time/Duration;"), (12, .long 1000), (1, .integer 1000000), (3, u "ZERO"), (0, u "Ljava/time/Duration;"), (13, .class_ 51), (1, u "java/time/temporal/TemporalAmount"), (27, .class_ 81), (1, u "java/time/Duration$Lazy"), (35, u "seconds"), (21, u "<init>"), (17, .nameAndType 139 158), (0, u "()V"), (19, u "ofSeconds"), (20, u "(J)Ljava/time/Duration;"), (15, .methodref 11 216), (0, .nameAndType 139 217), (0, u "(JI)V"), (0, .methodref 219 157), (0, .class_ 220), (0, u "java/lang/Object"), (0, .fieldref 11 222), (0, .nameAndType 117 223), (0, u "J"), (0, .fieldref 11 225), (0, .nameAndType 226 227), (0, u "nanos"), (0, u "I"), (11, .class_ 241), (1, u "java/time/Duration$DurationUnits"), (27, .class_ 271), (1, u "java/time/Duration$1"), (91, u "BI_NANOS_PER_SECOND"), (0, u "Ljava/math/BigInteger;"), (120, .class_ 486), (0, u "java/lang/Comparable"), (0, .class_ 488), (0, u "java/io/Serializable"), (0, u "serialVersionUID"), (12, u "ofMillis")] 153

def k10c0 : Code := { maxStack := 3, maxLocals := 2, code := jdk_2316_method_4_code, exceptionTable := #[], attributes := #[] }
def k10m0 : Method := { name := "ofSeconds", desc := "(J)Ljava/time/Duration;", sig := { parameters := [.long], returnType := some (.object "java/time/Duration") }, accessFlags := 9, code := some k10c0 }
def k10c1 : Code := { maxStack := 4, maxLocals := 5, code := jdk_2316_method_6_code, exceptionTable := #[], attributes := #[] }
def k10m1 : Method := { name := "ofMillis", desc := "(J)Ljava/time/Duration;", sig := { parameters := [.long], returnType := some (.object "java/time/Duration") }, accessFlags := 9, code := some k10c1 }
def k10c2 : Code := { maxStack := 5, maxLocals := 3, code := jdk_2316_method_16_code, exceptionTable := #[], attributes := #[] }
def k10m2 : Method := { name := "create", desc := "(JI)Ljava/time/Duration;", sig := { parameters := [.long, .int], returnType := some (.object "java/time/Duration") }, accessFlags := 10, code := some k10c2 }
def k10c3 : Code := { maxStack := 3, maxLocals := 4, code := jdk_2316_method_17_code, exceptionTable := #[], attributes := #[] }
def k10m3 : Method := { name := "<init>", desc := "(JI)V", sig := { parameters := [.long, .int], returnType := none }, accessFlags := 2, code := some k10c3 }
/-- java/time/Duration -/
def k10 : Class := { plain "java/time/Duration" (some 0) with
  accessFlags := 49
  interfaces := #[9, 5, 6]
  cf := some (fileOf pool10 11 #[.nestMembers #[269, 239, 79]] #[{ accessFlags := 9, nameIndex := 178, descriptorIndex := 199, attributes := #[] }, { accessFlags := 9, nameIndex := 502, descriptorIndex := 199, attributes := #[] }, { accessFlags := 10, nameIndex := 14, descriptorIndex := 15, attributes := #[] }, { accessFlags := 2, nameIndex := 139, descriptorIndex := 217, attributes := #[] }] 49 219 #[49, 485, 487] #[{ accessFlags := 25, nameIndex := 34, descriptorIndex := 35, attributes := #[] }, { accessFlags := 26, nameIndex := 489, descriptorIndex := 223, attributes := #[] }, { accessFlags := 26, nameIndex := 363, descriptorIndex := 364, attributes := #[] }, { accessFlags := 18, nameIndex := 117, descriptorIndex := 223, attributes := #[] }, { accessFlags := 18, nameIndex := 226, descriptorIndex := 227, attributes := #[] }])
  fields := #[{ name := "ZERO", type := (.object "java/time/Duration"), accessFlags := 25, slot := 0, constantValue := 0 }, { name := "serialVersionUID", type := .long, accessFlags := 26, slot := 1, constantValue := 0 }, { name := "BI_NANOS_PER_SECOND", type := (.object "java/math/BigInteger"), accessFlags := 26, slot := 2, constantValue := 0 }, { name := "seconds", type := .long, accessFlags := 18, slot := 0, constantValue := 0 }, { name := "nanos", type := .int, accessFlags := 18, slot := 1, constantValue := 0 }]
  methods := #[k10m0, k10m1, k10m2, k10m3]
  instanceTypes := #[.long, .int]
  staticTypes := #[(.object "java/time/Duration"), .long, (.object "java/math/BigInteger")]
  resolved := Array.replicate 656 none
  statics := some 1 }

def pool11 : Array CpInfo := pool [(8, .class_ 10), (1, u "java/lang/Iterable"), (24, .class_ 36), (0, u "java/lang/Object")] 25

/-- java/lang/Iterable -/
def k11 : Class := { plain "java/lang/Iterable" (some 0) with
  accessFlags := 1537
  interfaces := #[]
  cf := some (fileOf pool11 8 #[] #[] 1537 35 #[] #[])
  fields := #[]
  methods := #[]
  instanceTypes := #[]
  staticTypes := #[]
  resolved := Array.replicate 62 none
  statics := none }

def pool12 : Array CpInfo := pool [(10, .class_ 12), (1, u "java/util/Collection"), (47, .class_ 61), (0, u "java/lang/Object"), (0, .class_ 63), (0, u "java/lang/Iterable")] 51

/-- java/util/Collection -/
def k12 : Class := { plain "java/util/Collection" (some 0) with
  accessFlags := 1537
  interfaces := #[11]
  cf := some (fileOf pool12 10 #[] #[] 1537 60 #[62] #[])
  fields := #[]
  methods := #[]
  instanceTypes := #[]
  staticTypes := #[]
  resolved := Array.replicate 115 none
  statics := none }

def pool13 : Array CpInfo := pool [(8, .class_ 10), (1, u "java/util/SequencedCollection"), (15, .class_ 27), (0, u "java/lang/Object"), (0, .class_ 29), (0, u "java/util/Collection")] 27

/-- java/util/SequencedCollection -/
def k13 : Class := { plain "java/util/SequencedCollection" (some 0) with
  accessFlags := 1537
  interfaces := #[12]
  cf := some (fileOf pool13 8 #[] #[] 1537 26 #[28] #[])
  fields := #[]
  methods := #[]
  instanceTypes := #[]
  staticTypes := #[]
  resolved := Array.replicate 57 none
  statics := none }

def pool14 : Array CpInfo := pool [(8, .class_ 10), (1, u "java/util/List"), (77, u "of"), (1, .fieldref 91 92), (0, .class_ 93), (0, .nameAndType 94 95), (0, u "java/util/ImmutableCollections"), (0, u "EMPTY_LIST"), (0, u "Ljava/util/ImmutableCollections$ListN;"), (7, .class_ 104), (0, u "java/lang/Object"), (14, u "()Ljava/util/List;"), (0, .class_ 121), (0, u "java/util/SequencedCollection")] 129

def k14c0 : Code := { maxStack := 1, maxLocals := 0, code := jdk_40_method_36_code, exceptionTable := #[], attributes := #[] }
def k14m0 : Method := { name := "of", desc := "()Ljava/util/List;", sig := { parameters := [], returnType := some (.object "java/util/List") }, accessFlags := 9, code := some k14c0 }
/-- java/util/List -/
def k14 : Class := { plain "java/util/List" (some 0) with
  accessFlags := 1537
  interfaces := #[13]
  cf := some (fileOf pool14 8 #[] #[{ accessFlags := 9, nameIndex := 88, descriptorIndex := 119, attributes := #[] }] 1537 103 #[120] #[])
  fields := #[]
  methods := #[k14m0]
  instanceTypes := #[]
  staticTypes := #[]
  resolved := Array.replicate 251 none
  statics := none }

def pool15 : Array CpInfo := pool [(2, .class_ 4), (1, u "java/lang/Object"), (0, u "<init>"), (0, u "()V"), (3, .class_ 11), (0, u "java/util/ImmutableCollections$List12"), (0, .class_ 13), (0, u "java/util/ImmutableCollections$ListN"), (3, u "Z"), (29, .class_ 49), (1, u "java/util/ImmutableCollections"), (0, u "$assertionsDisabled"), (5, u "[Ljava/lang/Object;"), (5, u "EMPTY_LIST"), (0, u "Ljava/util/ImmutableCollections$ListN;"), (8, u "EMPTY_LIST_NULLS"), (22, u "SALT32L"), (0, u "J"), (2, u "REVERSE"), (6, u "archivedObjects"), (2, u "EMPTY"), (0, u "Ljava/lang/Object;"), (0, .class_ 112), (0, u "java/util/ImmutableCollections$SetN"), (5, u "EMPTY_SET"), (0, u "Ljava/util/ImmutableCollections$SetN;"), (0, .class_ 121), (0, u "java/util/ImmutableCollections$MapN"), (3, u "EMPTY_MAP"), (0, u "Ljava/util/ImmutableCollections$MapN;"), (4, u "EXPAND_FACTOR"), (0, u "I"), (36, .class_ 170), (0, u "java/util/ImmutableCollections$MapN$MapNIterator"), (0, .class_ 172), (0, u "java/util/ImmutableCollections$MapN$1"), (0, .class_ 174), (0, u "java/util/ImmutableCollections$Map1"), (0, .class_ 176), (0, u "java/util/ImmutableCollections$AbstractImmutableMap"), (0, .class_ 178), (0, u "java/util/ImmutableCollections$SetN$SetNIterator"), (0, .class_ 180), (0, u "java/util/ImmutableCollections$Set12"), (0, .class_ 182), (0, u "java/util/ImmutableCollections$Set12$1"), (0, .class_ 184), (0, u "java/util/ImmutableCollections$AbstractImmutableSet"), (0, .class_ 186), (0, u "java/util/ImmutableCollections$SubList"), (0, .class_ 188), (0, u "java/util/ImmutableCollections$ListItr"), (0, .class_ 190), (0, u "java/util/ImmutableCollections$AbstractImmutableList"), (0, .class_ 192), (0, u "java/util/ImmutableCollections$AbstractImmutableCollection"), (0, .class_ 194), (0, u "java/util/ImmutableCollections$Access"), (0, .class_ 196), (0, u "java/util/ImmutableCollections$Access$1")] 16

def k15m0 : Method := { name := "<init>", desc := "()V", sig := { parameters := [], returnType := none }, accessFlags := 2, code := none }
/-- java/util/ImmutableCollections -/
def k15 : Class := { plain "java/util/ImmutableCollections" (some 0) with
  accessFlags := 32
  interfaces := #[]
  cf := some (fileOf pool15 47 #[.nestMembers #[120, 169, 171, 173, 175, 111, 177, 179, 181, 183, 12, 10, 185, 187, 189, 191, 193, 195]] #[{ accessFlags := 2, nameIndex := 5, descriptorIndex := 6, attributes := #[] }] 32 2 #[] #[{ accessFlags := 26, nameIndex := 95, descriptorIndex := 96, attributes := #[] }, { accessFlags := 26, nameIndex := 99, descriptorIndex := 17, attributes := #[] }, { accessFlags := 10, nameIndex := 106, descriptorIndex := 56, attributes := #[] }, { accessFlags := 26, nameIndex := 109, descriptorIndex := 110, attributes := #[] }, { accessFlags := 24, nameIndex := 62, descriptorIndex := 63, attributes := #[] }, { accessFlags := 24, nameIndex := 72, descriptorIndex := 63, attributes := #[] }, { accessFlags := 24, nameIndex := 118, descriptorIndex := 119, attributes := #[] }, { accessFlags := 24, nameIndex := 125, descriptorIndex := 126, attributes := #[] }, { accessFlags := 24, nameIndex := 131, descriptorIndex := 132, attributes := #[] }, { accessFlags := 4120, nameIndex := 50, descriptorIndex := 17, attributes := #[] }])
  fields := #[{ name := "SALT32L", type := .long, accessFlags := 26, slot := 0, constantValue := 0 }, { name := "REVERSE", type := .boolean, accessFlags := 26, slot := 1, constantValue := 0 }, { name := "archivedObjects", type := (.array (.object "java/lang/Object")), accessFlags := 10, slot := 2, constantValue := 0 }, { name := "EMPTY", type := (.object "java/lang/Object"), accessFlags := 26, slot := 3, constantValue := 0 }, { name := "EMPTY_LIST", type := (.object "java/util/ImmutableCollections$ListN"), accessFlags := 24, slot := 4, constantValue := 0 }, { name := "EMPTY_LIST_NULLS", type := (.object "java/util/ImmutableCollections$ListN"), accessFlags := 24, slot := 5, constantValue := 0 }, { name := "EMPTY_SET", type := (.object "java/util/ImmutableCollections$SetN"), accessFlags := 24, slot := 6, constantValue := 0 }, { name := "EMPTY_MAP", type := (.object "java/util/ImmutableCollections$MapN"), accessFlags := 24, slot := 7, constantValue := 0 }, { name := "EXPAND_FACTOR", type := .int, accessFlags := 24, slot := 8, constantValue := 0 }, { name := "$assertionsDisabled", type := .boolean, accessFlags := 4120, slot := 9, constantValue := 0 }]
  methods := #[k15m0]
  instanceTypes := #[]
  staticTypes := #[.long, .boolean, (.array (.object "java/lang/Object")), (.object "java/lang/Object"), (.object "java/util/ImmutableCollections$ListN"), (.object "java/util/ImmutableCollections$ListN"), (.object "java/util/ImmutableCollections$SetN"), (.object "java/util/ImmutableCollections$MapN"), .int, .boolean]
  resolved := Array.replicate 213 none
  statics := some 2 }

def pool16 : Array CpInfo := pool [(2, .class_ 4), (1, u "java/lang/Object"), (0, u "<init>"), (0, u "()V"), (1, .class_ 10), (1, u "java/util/AbstractCollection"), (66, .class_ 78), (0, u "java/util/Collection")] 81

def k16m0 : Method := { name := "<init>", desc := "()V", sig := { parameters := [], returnType := none }, accessFlags := 4, code := none }
/-- java/util/AbstractCollection -/
def k16 : Class := { plain "java/util/AbstractCollection" (some 0) with
  accessFlags := 1057
  interfaces := #[12]
  cf := some (fileOf pool16 8 #[] #[{ accessFlags := 4, nameIndex := 5, descriptorIndex := 6, attributes := #[] }] 1057 2 #[77] #[])
  fields := #[]
  methods := #[k16m0]
  instanceTypes := #[]
  staticTypes := #[]
  resolved := Array.replicate 160 none
  statics := none }

def pool17 : Array CpInfo := pool [(2, .class_ 4), (1, u "java/util/AbstractCollection"), (0, u "<init>"), (0, u "()V"), (1, .class_ 10), (1, u "java/util/ImmutableCollections"), (2, .class_ 14), (0, u "java/util/ImmutableCollections$AbstractImmutableCollection")] 41

def k17m0 : Method := { name := "<init>", desc := "()V", sig := { parameters := [], returnType := none }, accessFlags := 0, code := none }
/-- java/util/ImmutableCollections$AbstractImmutableCollection -/
def k17 : Class := { plain "java/util/ImmutableCollections$AbstractImmutableCollection" (some 16) with
  accessFlags := 1056
  interfaces := #[]
  cf := some (fileOf pool17 13 #[.nestHost 8] #[{ accessFlags := 0, nameIndex := 5, descriptorIndex := 6, attributes := #[] }] 1056 2 #[] #[])
  fields := #[]
  methods := #[k17m0]
  instanceTypes := #[]
  staticTypes := #[]
  resolved := Array.replicate 56 none
  statics := none }

def pool18 : Array CpInfo := pool [(1, .class_ 2), (0, u "java/util/RandomAccess"), (0, .class_ 4), (0, u "java/lang/Object")] 2

/-- java/util/RandomAccess -/
def k18 : Class := { plain "java/util/RandomAccess" (some 0) with
  accessFlags := 1537
  interfaces := #[]
  cf := some (fileOf pool18 1 #[] #[] 1537 3 #[] #[])
  fields := #[]
  methods := #[]
  instanceTypes := #[]
  staticTypes := #[]
  resolved := Array.replicate 7 none
  statics := none }

def pool19 : Array CpInfo := pool [(2, .class_ 4), (1, u "java/util/ImmutableCollections$AbstractImmutableCollection"), (0, u "<init>"), (0, u "()V"), (1, .class_ 10), (1, u "java/util/ImmutableCollections"), (3, .class_ 16), (1, u "java/util/ImmutableCollections$AbstractImmutableList"), (60, .class_ 78), (0, u "java/util/List"), (45, .class_ 125), (0, u "java/util/RandomAccess")] 70

def k19m0 : Method := { name := "<init>", desc := "()V", sig := { parameters := [], returnType := none }, accessFlags := 0, code := none }
/-- java/util/ImmutableCollections$AbstractImmutableList -/
def k19 : Class := { plain "java/util/ImmutableCollections$AbstractImmutableList" (some 17) with
  accessFlags := 1056
  interfaces := #[14, 18]
  cf := some (fileOf pool19 14 #[.nestHost 8] #[{ accessFlags := 0, nameIndex := 5, descriptorIndex := 6, attributes := #[] }] 1056 2 #[77, 124] #[])
  fields := #[]
  methods := #[k19m0]
  instanceTypes := #[]
  staticTypes := #[]
  resolved := Array.replicate 196 none
  statics := none }

def pool20 : Array CpInfo := pool [(2, .class_ 4), (1, u "java/util/ImmutableCollections$AbstractImmutableList"), (3, .class_ 10), (1, u "java/util/ImmutableCollections$ListN"), (0, u "elements"), (0, u "[Ljava/lang/Object;"), (2, u "allowNulls"), (0, u "Z"), (42, .class_ 60), (0, u "java/io/Serializable"), (53, .class_ 115), (0, u "java/util/ImmutableCollections")] 3

/-- java/util/ImmutableCollections$ListN -/
def k20 : Class := { plain "java/util/ImmutableCollections$ListN" (some 19) with
  accessFlags := 48
  interfaces := #[6]
  cf := some (fileOf pool20 8 #[.nestHost 114] #[] 48 2 #[59] #[{ accessFlags := 18, nameIndex := 11, descriptorIndex := 12, attributes := #[] }, { accessFlags := 18, nameIndex := 15, descriptorIndex := 16, attributes := #[] }])
  fields := #[{ name := "elements", type := (.array (.object "java/lang/Object")), accessFlags := 18, slot := 0, constantValue := 0 }, { name := "allowNulls", type := .boolean, accessFlags := 18, slot := 1, constantValue := 0 }]
  methods := #[]
  instanceTypes := #[(.array (.object "java/lang/Object")), .boolean]
  staticTypes := #[]
  resolved := Array.replicate 119 none
  statics := none }

def pool21 : Array CpInfo := pool [(1, u "java/lang/Cloneable"), (0, .class_ 1), (0, u "java/lang/Object"), (0, .class_ 3)] 3

/-- java/lang/Cloneable -/
def k21 : Class := { plain "java/lang/Cloneable" (some 0) with
  accessFlags := 1537
  interfaces := #[]
  cf := some (fileOf pool21 2 #[] #[] 1537 4 #[] #[])
  fields := #[]
  methods := #[]
  instanceTypes := #[]
  staticTypes := #[]
  resolved := Array.replicate 8 none
  statics := none }

/-- the primitive byte -/
def k22 : Class := { plain "byte" none with kind := .primitive 'B', accessFlags := 0x411 }
/-- [B -/
def k23 : Class := { plain "[B" (some 0) with kind := .array 22 .byte, interfaces := #[21, 6], accessFlags := 1041 }

/-- the primitive int -/
def k24 : Class := { plain "int" none with kind := .primitive 'I', accessFlags := 0x411 }
/-- [I -/
def k25 : Class := { plain "[I" (some 0) with kind := .array 24 .int, interfaces := #[21, 6], accessFlags := 1041 }

/-- [Ljava/lang/Object; -/
def k26 : Class := { plain "[Ljava/lang/Object;" (some 0) with kind := .array 0 (.object "java/lang/Object"), interfaces := #[21, 6], accessFlags := 1041 }

def heap : Heap := #[{ cls := 8, slots := #[.null, .ref 4, .null], vm := .statics 8 },
  { cls := 10, slots := #[.ref 6, .long 0, .null], vm := .statics 10 },
  { cls := 15, slots := #[.long 0, .int 0, .null, .null, .ref 5, .null, .null, .null, .int 0, .int 0], vm := .statics 15 },
  { cls := 26, slots := #[], vm := .none },
  { cls := 8, slots := #[.null, .int 0, .int 0], vm := .none },
  { cls := 20, slots := #[.ref 3, .int 0], vm := .none },
  { cls := 10, slots := #[.long 0, .int 0], vm := .none }]
def classes : Array Class := #[k0, k1, k2, k3, k4, k5, k6, k7, k8, k9, k10, k11, k12, k13, k14, k15, k16, k17, k18, k19, k20, k21, k22, k23, k24, k25, k26]
def interned : List (Array UInt16 × Addr) := []
def slotsUsed : Nat := 23
def theMethod : MethodId := ⟨1, 1⟩
def args0 : Array Value := #[.int 5, .int 5, .int 5]
def aboutOver (below : List Frame) : State where
  vm := { classes := classes, interned := interned.toArray }
  heap := heap
  slotsUsed := slotsUsed
  threads := #[{ frames := .invoking theMethod args0 :: below }]
def below0 : List Frame := [.native { method := ⟨0, 0⟩, args := #[] }]
def about1 : State := aboutOver below0
def p0 : Program := .bare "" "" ""
def e0 : Env := launch0.env 0 0 0
theorem w_frames : about1.frames = Frame.invoking theMethod args0 :: below0 := rfl
set_option maxRecDepth 65536 in
theorem w_args : argsFit about1.vm theMethod args0 = true := by decide +kernel
set_option maxRecDepth 65536 in
theorem w_heap : heapFits about1 = true := by decide +kernel
set_option maxRecDepth 65536 in
theorem w_runnable : about1.curStatus? = some .runnable := by decide +kernel
set_option maxRecDepth 65536 in
theorem w_alone : about1.alone = true := by decide +kernel
set_option maxRecDepth 65536 in
theorem w_named : about1.methodNamed? x = some theMethod := by decide +kernel
set_option maxRecDepth 65536 in
theorem w_hears : about1.hears theMethod below0 = true := by decide +kernel
set_option maxRecDepth 65536 in
theorem w_ripe : about1.ripe theMethod args0 below0 = true := by decide +kernel
theorem w_running : about1.status = .running := rfl
set_option maxRecDepth 65536 in
theorem w_room : about1.hasRoom e0.platform room_1 = true :=
  launch0.hasRoom_least _ room_1 (by decide +kernel) (by decide +kernel) (by decide +kernel) (by decide +kernel) (by decide +kernel) (by decide +kernel)
theorem allAtoms_all (ts : List Jvm.Cond) (a : Array Jvm.Value) (st : Jvm.State) : (allAtoms ts).before a st = ts.all (fun c => c.before a st) := by
  induction ts with
  | nil => rfl
  | cons c t ih =>
    show (Jvm.Cond.and c (allAtoms t)).before a st = _
    rw [Jvm.Cond.before_and, ih, List.all_cons]
def words1 : List Jvm.Cond := Jvm.Cond.code x code maxLocals ret :: tables_1
/-- a 'code' word, met by the world's own term for the bytes: nothing is compared byte by byte -/
theorem code_word {y : MethodName} {bytes : ByteArray} {mx : Nat} {rt : Option FieldType} {a : Array Value} {s : State} {m : MethodId} {meth : Method} {c : Code} (h1 : s.methodNamed? y = some m) (h2 : s.vm.method? m = some meth) (h3 : meth.code = some c) (h4 : c.code = bytes)
    (h5 : (c.maxLocals == mx && c.exceptionTable.isEmpty && decide (c.maxStack ≤ mostOperands) && decide (meth.sig.returnType = rt) && !meth.locks && decide (parseMethodDescriptor y.desc = some meth.sig)) = true) : (Jvm.Cond.code y bytes mx rt).before a s = true := by
  simp only [Bool.and_eq_true, beq_iff_eq, Bool.not_eq_true', decide_eq_true_eq] at h5
  obtain ⟨⟨⟨⟨⟨g1, g2⟩, g3⟩, g4⟩, g5⟩, g6⟩ := h5
  simp [Cond.before, Cond.holds, Cond.value, h1, h2, h3, h4, g1, g2, g3, g4, g5, g6]
def isCode : Jvm.Cond → Bool
  | .code _ _ _ _ => true
  | _ => false
theorem all_split {L : List Jvm.Cond} {P : Jvm.Cond → Bool} (h1 : L.all (fun c => isCode c || P c) = true) (h2 : ∀ c ∈ L.filter isCode, P c = true) : L.all P = true := by
  refine List.all_eq_true.mpr fun c hc => ?_
  have h := List.all_eq_true.mp h1 c hc
  rcases Bool.eq_false_or_eq_true (isCode c) with hi | hi
  · exact h2 c (List.mem_filter.mpr ⟨hc, hi⟩)
  · simpa [hi] using h
set_option maxRecDepth 65536 in
theorem w_c0 : (Jvm.Cond.code x code maxLocals ret).before args0 about1 = true := code_word (m := ⟨1, 1⟩) (meth := k1m1) (c := k1c1) (by decide +kernel) rfl rfl rfl (by decide +kernel)
set_option maxRecDepth 65536 in
theorem w_c1 : (Jvm.Cond.code ({ cls := "java/lang/Math", name := "max", desc := "(II)I" } : Jvm.MethodName) jdk_29_method_65_code (2 : Nat) (Option.some Jvm.ClassFile.FieldType.int)).before args0 about1 = true := code_word (m := ⟨2, 1⟩) (meth := k2m1) (c := k2c1) (by decide +kernel) rfl rfl rfl (by decide +kernel)
set_option maxRecDepth 65536 in
theorem w_c2 : (Jvm.Cond.code ({ cls := "com/example/keelreach/keelreach/RedisOptions", name := "<init>", desc := "()V" } : Jvm.MethodName) prog_6_method_1_code (1 : Nat) (Option.none : Option Jvm.ClassFile.FieldType)).before args0 about1 = true := code_word (m := ⟨3, 0⟩) (meth := k3m0) (c := k3c0) (by decide +kernel) rfl rfl rfl (by decide +kernel)
set_option maxRecDepth 65536 in
theorem w_c3 : (Jvm.Cond.code ({ cls := "java/lang/Object", name := "<init>", desc := "()V" } : Jvm.MethodName) object_method_1_code (1 : Nat) (Option.none : Option Jvm.ClassFile.FieldType)).before args0 about1 = true := code_word (m := ⟨0, 0⟩) (meth := k0m0) (c := k0c0) (by decide +kernel) rfl rfl rfl (by decide +kernel)
set_option maxRecDepth 65536 in
theorem w_c4 : (Jvm.Cond.code ({ cls := "java/time/Duration", name := "ofSeconds", desc := "(J)Ljava/time/Duration;" } : Jvm.MethodName) jdk_2316_method_4_code (2 : Nat) (Option.some (Jvm.ClassFile.FieldType.object "java/time/Duration"))).before args0 about1 = true := code_word (m := ⟨10, 0⟩) (meth := k10m0) (c := k10c0) (by decide +kernel) rfl rfl rfl (by decide +kernel)
set_option maxRecDepth 65536 in
theorem w_c5 : (Jvm.Cond.code ({ cls := "java/time/Duration", name := "create", desc := "(JI)Ljava/time/Duration;" } : Jvm.MethodName) jdk_2316_method_16_code (3 : Nat) (Option.some (Jvm.ClassFile.FieldType.object "java/time/Duration"))).before args0 about1 = true := code_word (m := ⟨10, 2⟩) (meth := k10m2) (c := k10c2) (by decide +kernel) rfl rfl rfl (by decide +kernel)
set_option maxRecDepth 65536 in
theorem w_c6 : (Jvm.Cond.code ({ cls := "java/time/Duration", name := "<init>", desc := "(JI)V" } : Jvm.MethodName) jdk_2316_method_17_code (4 : Nat) (Option.none : Option Jvm.ClassFile.FieldType)).before args0 about1 = true := code_word (m := ⟨10, 3⟩) (meth := k10m3) (c := k10c3) (by decide +kernel) rfl rfl rfl (by decide +kernel)
set_option maxRecDepth 65536 in
theorem w_c7 : (Jvm.Cond.code ({ cls := "java/time/Duration", name := "ofMillis", desc := "(J)Ljava/time/Duration;" } : Jvm.MethodName) jdk_2316_method_6_code (5 : Nat) (Option.some (Jvm.ClassFile.FieldType.object "java/time/Duration"))).before args0 about1 = true := code_word (m := ⟨10, 1⟩) (meth := k10m1) (c := k10c1) (by decide +kernel) rfl rfl rfl (by decide +kernel)
set_option maxRecDepth 65536 in
theorem w_c8 : (Jvm.Cond.code ({ cls := "java/util/List", name := "of", desc := "()Ljava/util/List;" } : Jvm.MethodName) jdk_40_method_36_code (0 : Nat) (Option.some (Jvm.ClassFile.FieldType.object "java/util/List"))).before args0 about1 = true := code_word (m := ⟨14, 0⟩) (meth := k14m0) (c := k14c0) (by decide +kernel) rfl rfl rfl (by decide +kernel)
set_option maxRecDepth 65536 in
theorem w_c9 : (Jvm.Cond.code ({ cls := "com/example/keelreach/keelreach/RedisOptions", name := "setMaxCommandsInFlight", desc := "(I)Lcom/example/keelreach/keelreach/RedisOptions;" } : Jvm.MethodName) prog_6_method_19_code (2 : Nat) (Option.some (Jvm.ClassFile.FieldType.object "com/example/keelreach/keelreach/RedisOptions"))).before args0 about1 = true := code_word (m := ⟨3, 3⟩) (meth := k3m3) (c := k3c3) (by decide +kernel) rfl rfl rfl (by decide +kernel)
set_option maxRecDepth 65536 in
theorem w_c10 : (Jvm.Cond.code ({ cls := "com/example/keelreach/keelreach/RedisOptions", name := "setAutoPipeliningThreshold", desc := "(I)Lcom/example/keelreach/keelreach/RedisOptions;" } : Jvm.MethodName) prog_6_method_25_code (2 : Nat) (Option.some (Jvm.ClassFile.FieldType.object "com/example/keelreach/keelreach/RedisOptions"))).before args0 about1 = true := code_word (m := ⟨3, 6⟩) (meth := k3m6) (c := k3c6) (by decide +kernel) rfl rfl rfl (by decide +kernel)
set_option maxRecDepth 65536 in
theorem w_c11 : (Jvm.Cond.code ({ cls := "com/example/keelreach/keelreach/RedisOptions", name := "getAutoPipeliningThreshold", desc := "()I" } : Jvm.MethodName) prog_6_method_24_code (1 : Nat) (Option.some Jvm.ClassFile.FieldType.int)).before args0 about1 = true := code_word (m := ⟨3, 5⟩) (meth := k3m5) (c := k3c5) (by decide +kernel) rfl rfl rfl (by decide +kernel)
set_option maxRecDepth 65536 in
theorem w_c12 : (Jvm.Cond.code ({ cls := "com/example/keelreach/keelreach/RedisOptions", name := "getMaxCommandsInFlight", desc := "()I" } : Jvm.MethodName) prog_6_method_18_code (1 : Nat) (Option.some Jvm.ClassFile.FieldType.int)).before args0 about1 = true := code_word (m := ⟨3, 2⟩) (meth := k3m2) (c := k3c2) (by decide +kernel) rfl rfl rfl (by decide +kernel)
set_option maxRecDepth 65536 in
theorem w_c13 : (Jvm.Cond.code ({ cls := "com/example/keelreach/keelreach/RedisOptions", name := "getMaxPoolSize", desc := "()I" } : Jvm.MethodName) prog_6_method_6_code (1 : Nat) (Option.some Jvm.ClassFile.FieldType.int)).before args0 about1 = true := code_word (m := ⟨3, 1⟩) (meth := k3m1) (c := k3c1) (by decide +kernel) rfl rfl rfl (by decide +kernel)
set_option maxRecDepth 65536 in
theorem w_c14 : (Jvm.Cond.code ({ cls := "com/example/keelreach/keelreach/RedisOptions", name := "isAutoPipelining", desc := "()Z" } : Jvm.MethodName) prog_6_method_20_code (1 : Nat) (Option.some Jvm.ClassFile.FieldType.boolean)).before args0 about1 = true := code_word (m := ⟨3, 4⟩) (meth := k3m4) (c := k3c4) (by decide +kernel) rfl rfl rfl (by decide +kernel)
def codes1 : List Jvm.Cond := [Jvm.Cond.code x code maxLocals ret, Jvm.Cond.code ({ cls := "java/lang/Math", name := "max", desc := "(II)I" } : Jvm.MethodName) jdk_29_method_65_code (2 : Nat) (Option.some Jvm.ClassFile.FieldType.int), Jvm.Cond.code ({ cls := "com/example/keelreach/keelreach/RedisOptions", name := "<init>", desc := "()V" } : Jvm.MethodName) prog_6_method_1_code (1 : Nat) (Option.none : Option Jvm.ClassFile.FieldType), Jvm.Cond.code ({ cls := "java/lang/Object", name := "<init>", desc := "()V" } : Jvm.MethodName) object_method_1_code (1 : Nat) (Option.none : Option Jvm.ClassFile.FieldType), Jvm.Cond.code ({ cls := "java/time/Duration", name := "ofSeconds", desc := "(J)Ljava/time/Duration;" } : Jvm.MethodName) jdk_2316_method_4_code (2 : Nat) (Option.some (Jvm.ClassFile.FieldType.object "java/time/Duration")), Jvm.Cond.code ({ cls := "java/time/Duration", name := "create", desc := "(JI)Ljava/time/Duration;" } : Jvm.MethodName) jdk_2316_method_16_code (3 : Nat) (Option.some (Jvm.ClassFile.FieldType.object "java/time/Duration")), Jvm.Cond.code ({ cls := "java/time/Duration", name := "<init>", desc := "(JI)V" } : Jvm.MethodName) jdk_2316_method_17_code (4 : Nat) (Option.none : Option Jvm.ClassFile.FieldType), Jvm.Cond.code ({ cls := "java/time/Duration", name := "ofMillis", desc := "(J)Ljava/time/Duration;" } : Jvm.MethodName) jdk_2316_method_6_code (5 : Nat) (Option.some (Jvm.ClassFile.FieldType.object "java/time/Duration")), Jvm.Cond.code ({ cls := "java/util/List", name := "of", desc := "()Ljava/util/List;" } : Jvm.MethodName) jdk_40_method_36_code (0 : Nat) (Option.some (Jvm.ClassFile.FieldType.object "java/util/List")), Jvm.Cond.code ({ cls := "com/example/keelreach/keelreach/RedisOptions", name := "setMaxCommandsInFlight", desc := "(I)Lcom/example/keelreach/keelreach/RedisOptions;" } : Jvm.MethodName) prog_6_method_19_code (2 : Nat) (Option.some (Jvm.ClassFile.FieldType.object "com/example/keelreach/keelreach/RedisOptions")), Jvm.Cond.code ({ cls := "com/example/keelreach/keelreach/RedisOptions", name := "setAutoPipeliningThreshold", desc := "(I)Lcom/example/keelreach/keelreach/RedisOptions;" } : Jvm.MethodName) prog_6_method_25_code (2 : Nat) (Option.some (Jvm.ClassFile.FieldType.object "com/example/keelreach/keelreach/RedisOptions")), Jvm.Cond.code ({ cls := "com/example/keelreach/keelreach/RedisOptions", name := "getAutoPipeliningThreshold", desc := "()I" } : Jvm.MethodName) prog_6_method_24_code (1 : Nat) (Option.some Jvm.ClassFile.FieldType.int), Jvm.Cond.code ({ cls := "com/example/keelreach/keelreach/RedisOptions", name := "getMaxCommandsInFlight", desc := "()I" } : Jvm.MethodName) prog_6_method_18_code (1 : Nat) (Option.some Jvm.ClassFile.FieldType.int), Jvm.Cond.code ({ cls := "com/example/keelreach/keelreach/RedisOptions", name := "getMaxPoolSize", desc := "()I" } : Jvm.MethodName) prog_6_method_6_code (1 : Nat) (Option.some Jvm.ClassFile.FieldType.int), Jvm.Cond.code ({ cls := "com/example/keelreach/keelreach/RedisOptions", name := "isAutoPipelining", desc := "()Z" } : Jvm.MethodName) prog_6_method_20_code (1 : Nat) (Option.some Jvm.ClassFile.FieldType.boolean)]
set_option maxRecDepth 65536 in
theorem codes_eq : words1.filter isCode = codes1 := rfl
theorem w_codes : ∀ c ∈ words1.filter isCode, c.before args0 about1 = true := by
  rw [codes_eq]
  intro c hc
  simp only [codes1, List.mem_cons, List.not_mem_nil, or_false] at hc
  rcases hc with rfl | rfl | rfl | rfl | rfl | rfl | rfl | rfl | rfl | rfl | rfl | rfl | rfl | rfl | rfl
  · exact w_c0
  · exact w_c1
  · exact w_c2
  · exact w_c3
  · exact w_c4
  · exact w_c5
  · exact w_c6
  · exact w_c7
  · exact w_c8
  · exact w_c9
  · exact w_c10
  · exact w_c11
  · exact w_c12
  · exact w_c13
  · exact w_c14
set_option maxRecDepth 65536 in
theorem w_t1 : (words1.take 24).all (fun c => isCode c || c.before args0 about1) = true := by decide +kernel
set_option maxRecDepth 65536 in
theorem w_t2 : ((words1.drop 24).take 24).all (fun c => isCode c || c.before args0 about1) = true := by decide +kernel
set_option maxRecDepth 65536 in
theorem w_t3 : (((words1.drop 24).drop 24).take 24).all (fun c => isCode c || c.before args0 about1) = true := by decide +kernel
set_option maxRecDepth 65536 in
theorem w_t4 : ((((words1.drop 24).drop 24).drop 24).take 24).all (fun c => isCode c || c.before args0 about1) = true := by decide +kernel
set_option maxRecDepth 65536 in
theorem w_t5 : ((((words1.drop 24).drop 24).drop 24).drop 24).all (fun c => isCode c || c.before args0 about1) = true := by decide +kernel
theorem w_tables : (allAtoms (Jvm.Cond.code x code maxLocals ret :: tables_1)).before args0 about1 = true := by
  rw [allAtoms_all]
  show words1.all (fun c => c.before args0 about1) = true
  refine all_split ?_ w_codes
  rw [← List.take_append_drop 24 words1, List.all_append, w_t1, ← List.take_append_drop 24 (words1.drop 24), List.all_append, w_t2, ← List.take_append_drop 24 ((words1.drop 24).drop 24), List.all_append, w_t3, ← List.take_append_drop 24 (((words1.drop 24).drop 24).drop 24), List.all_append, w_t4, w_t5]
  rfl
set_option maxRecDepth 65536 in
theorem w_rest : rest_1_c.before args0 about1 = true := by decide +kernel
set_option maxRecDepth 65536 in
theorem w_case : (Jvm.Cond.and given_1 narrow_1).before args0 about1 = true := by decide +kernel
theorem w_applies : (headSpec (Jvm.Cond.code x code maxLocals ret :: tables_1) room_1).applies x e0.platform about1 = true :=
  (Spec.applies_iff w_frames).mpr ⟨w_running, w_runnable, w_alone, w_named, w_hears, w_ripe, w_room, w_tables⟩
theorem atStart : AtStart classFile x code maxLocals ret World_1 tables_1 room_1 Calls_1 rest_1 Pre_1 launch0 p0 e0 about1 theMethod args0 below0 :=
  ⟨lists_1, trivial, launch0.admits_env _ _ _, launch0.least_env, fairChoices_fair.cas, fairChoices_fair.clock, w_frames, w_args, w_heap, w_applies, trivial, w_rest, w_case⟩
end start1
theorem witness_1 : WitnessClaimed_1 := ⟨start1.p0, start1.e0, start1.about1, start1.theMethod, start1.args0, start1.below0, start1.atStart⟩
end Jvm.Pilot.@@N@@
