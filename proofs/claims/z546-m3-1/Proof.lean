import JvmDerived
import JvmDerived.Pilot.@@N@@Statement
import JvmDerived.Pilot.@@N@@Code
set_option linter.unusedVariables false
set_option linter.unusedSimpArgs false
namespace Jvm.RoadKit
open Sem ClassFile Op Lib Jvm.Stand Jvm.Free Jvm.LawKit
section New
variable {p : Program} {l : Launch} {e : Env} {R : Room} {s : State} {m : MethodId} {args : Array Value} {below : List Frame} {meth : Method} {c : Code} {T : State} {locs : List Loc} {cells slots : Nat}
theorem retI (X : Stand p l e R s m args below meth c T locs cells slots) (hx : p.tables.exec = Jvm.exec) {pc : Nat} {Ls : Array Slot} {z : Int32} {rest : List Value} (hret : meth.sig.returnType = some .int) (hd : decode c.code pc = .ok (.ireturn, 1)) {fs : List Frame}
    (hl : ∀ (f : JFrame) (acts : List Action), f.method = m → f.locked = none → f.entered = [] → (doReturn e (T.setTop f) acts (some (.int z))).1 = T.setFrames fs) : Steps p.tables e below (T.setTop (mkF m pc Ls (.int z :: rest))) (T.setFrames fs) := by
  have hm' : T.vm.method? m = some meth := X.method'
  have hn : narrow .int (.int z) = .int z := rfl
  show Steps p.tables e below (T.setTop { method := m, pc := pc, locals := Ls, stack := _ :: rest, locked := none }) _
  jvm_step X.here [X.here.top, hx, hd, hm', hret, hn]
  first | (intro acts; rw [hl _ acts rfl rfl rfl]) | rw [hl _ _ rfl rfl rfl]
  exact Steps.refl _
theorem retA (X : Stand p l e R s m args below meth c T locs cells slots) (hx : p.tables.exec = Jvm.exec) {pc : Nat} {Ls : Array Slot} {w : Value} {t : FieldType} {rest : List Value} (hret : meth.sig.returnType = some t) (ht : t.isReference = true) (hw : w.isRef = true) (hn : narrow t w = w) (hd : decode c.code pc = .ok (.areturn, 1)) {fs : List Frame}
    (hl : ∀ (f : JFrame) (acts : List Action), f.method = m → f.locked = none → f.entered = [] → (doReturn e (T.setTop f) acts (some w)).1 = T.setFrames fs) : Steps p.tables e below (T.setTop (mkF m pc Ls (w :: rest))) (T.setFrames fs) :=
  retOut X hx hret hn (Or.inr (Or.inr (Or.inr (Or.inr ⟨rfl, ht, hw⟩)))) hd hl
end New
/-- all that was there is there still: a write to a cell above -/
theorem own_ext_wr {h0 h h' : Heap} {a : Addr} {sl : Nat} {v : Value} (E : Ext h0 h) (W : Wr h h' a sl v) (q : h0.size ≤ a) : Ext h0 h' := by
  refine ⟨Nat.le_trans E.1 (Keep.of_wr W).1, fun x c hc => (Keep.of_wr W).2.1 x c (E.2 x c hc) fun hm => ?_⟩
  cases List.mem_singleton.mp hm
  exact absurd (Array.getElem?_eq_some_iff.mp hc).1 (Nat.not_lt.mpr q)
theorem own_ext_keep {h0 h h' : Heap} {ws : List Addr} (E : Ext h0 h) (K : Keep h h' ws) (q : ∀ x ∈ ws, h0.size ≤ x) : Ext h0 h' :=
  ⟨Nat.le_trans E.1 K.1, fun x c hc => K.2.1 x c (E.2 x c hc) fun hm => absurd (Array.getElem?_eq_some_iff.mp hc).1 (Nat.not_lt.mpr (q x hm))⟩
theorem own_ext_trans {h0 h h' : Heap} (E : Ext h0 h) (E' : Ext h h') : Ext h0 h' := ⟨Nat.le_trans E.1 E'.1, fun x c hc => E'.2 x c (E.2 x c hc)⟩
theorem own_ext_refl (h : Heap) : Ext h h := ⟨Nat.le_refl _, fun _ _ q => q⟩
/-- a static that holds an object of this very class -/
theorem own_sta {Z : State} {a0 : Array Value} {C n d K : String} (wi : (Cond.initialized C).before a0 Z = true) (wl : (Cond.laysStatic C n d).before a0 Z = true) (hx : (Cond.exactly (.static C n d) K).value a0 Z none Z [] = some true) :
    ∃ w, (Term.static C n d).eval a0 Z none [] Z = some (.ref w) ∧ Sta Z Z.heap C n d (.ref w) ∧ Exa Z Z.heap w K := by
  obtain ⟨w, ev⟩ := exa_v hx
  exact ⟨w, ev, Sta.start ev (Or.inr ⟨wi, wl⟩), Exa.start ev hx⟩
/-- a field of an object that a term names, by an 'eq' of ints -/
theorem own_fld {Z : State} {a0 : Array Value} {t : Term} {w : Addr} {C n d : String} {k : Int32} (ev : t.eval a0 Z none [] Z = some (.ref w)) (h : (Cond.eq (.field t C n d) (.int k)).value a0 Z none Z [] = some true) : Fld Z Z.heap w C n d (.int k) :=
  Fld.start ((fld_at ev).symm.trans (eqv_i (F := .int k) rfl h))
end Jvm.RoadKit
namespace Jvm.RoadKit
open Sem ClassFile Op Lib Jvm.Stand Jvm.Free Jvm.LawKit
theorem own_fldR {Z : State} {a0 : Array Value} {t u : Term} {w w' : Addr} {C n d : String} (ev : t.eval a0 Z none [] Z = some (.ref w)) (eu : u.eval a0 Z none [] Z = some (.ref w')) (h : (Cond.eq (.field t C n d) u).value a0 Z none Z [] = some true) : Fld Z Z.heap w C n d (.ref w') := by
  refine Fld.start ((fld_at ev).symm.trans ?_)
  obtain ⟨x, y, hx, hy, -, -⟩ := cmp_v (Or.inl h)
  cases eu.symm.trans hy
  simp only [Cond.value, hx, hy] at h
  cases x <;> simp at h
  rw [hx, h]
theorem own_staA {Z : State} {a0 : Array Value} {C n d : String} {ty : FieldType} (wi : (Cond.initialized C).before a0 Z = true) (wl : (Cond.laysStatic C n d).before a0 Z = true) (hx : (Cond.arrayOf (.static C n d) ty).value a0 Z none Z [] = some true) :
    ∃ w, (Term.static C n d).eval a0 Z none [] Z = some (.ref w) ∧ Sta Z Z.heap C n d (.ref w) ∧ ∃ c, Arr Z Z.heap w c ty := by
  obtain ⟨w, ev⟩ := arr_v hx
  exact ⟨w, ev, Sta.start ev (Or.inr ⟨wi, wl⟩), Arr.start ev hx⟩
theorem own_len {Z : State} {a0 : Array Value} {t : Term} {w : Addr} {c : Cell} {ty : FieldType} {k : Int32} {n : Nat} (ev : t.eval a0 Z none [] Z = some (.ref w)) (A : Arr Z Z.heap w c ty) (h : (Cond.eq (.length t) (.int k)).value a0 Z none Z [] = some true) (hk : k.toInt = n) : c.slots.size = n := by
  have e := eqv_i (F := .int k) rfl h
  have ha : Z.arrayAt? w = some c := Arr.fin (Vm.Alike.refl _) A
  simp only [Term.eval, ev, ha, Option.bind_eq_bind, Option.bind_some] at e
  split at e
  · rename_i hl
    have q : c.slots.size.toInt32 = k := by simpa using e
    have q2 := len_toInt hl
    rw [q, hk] at q2
    omega
  · cases e
theorem own_elem {Z : State} {a0 : Array Value} {t : Term} {w : Addr} {c : Cell} {ty : FieldType} {k : Int32} {n : Nat} {v : Value} (ev : t.eval a0 Z none [] Z = some (.ref w)) (A : Arr Z Z.heap w c ty) (h : (Term.elem t (.int k)).eval a0 Z none [] Z = some v) (hk : k.toNatClampNeg = n) : c.slots[n]? = some v := by
  have q := (elem_in h ev (j := k) rfl A.1).2
  rw [hk] at q; exact q
theorem own_elN {Z : State} {a0 : Array Value} {t : Term} {w : Addr} {c : Cell} {ty : FieldType} {k : Int32} {n : Nat} (ev : t.eval a0 Z none [] Z = some (.ref w)) (A : Arr Z Z.heap w c ty) (h : (Cond.eq (.elem t (.int k)) .null).value a0 Z none Z [] = some true) (hk : k.toNatClampNeg = n) : c.slots[n]? = some .null := own_elem ev A (null_v h) hk
theorem own_elI {Z : State} {a0 : Array Value} {t : Term} {w : Addr} {c : Cell} {ty : FieldType} {k i : Int32} {n : Nat} (ev : t.eval a0 Z none [] Z = some (.ref w)) (A : Arr Z Z.heap w c ty) (h : (Cond.eq (.elem t (.int k)) (.int i)).value a0 Z none Z [] = some true) (hk : k.toNatClampNeg = n) : c.slots[n]? = some (.int i) := own_elem ev A (eqv_i (F := .int i) rfl h) hk
theorem own_elR {Z : State} {a0 : Array Value} {t u : Term} {w w' : Addr} {c : Cell} {ty : FieldType} {k : Int32} {n : Nat} (ev : t.eval a0 Z none [] Z = some (.ref w)) (A : Arr Z Z.heap w c ty) (eu : u.eval a0 Z none [] Z = some (.ref w')) (h : (Cond.eq (.elem t (.int k)) u).value a0 Z none Z [] = some true) (hk : k.toNatClampNeg = n) : c.slots[n]? = some (.ref w') := by
  refine own_elem ev A ?_ hk
  obtain ⟨x, y, hx, hy, -, -⟩ := cmp_v (Or.inl h)
  cases eu.symm.trans hy
  simp only [Cond.value, hx, hy] at h
  cases x <;> simp at h
  rw [hx, h]
end Jvm.RoadKit
namespace Jvm.Pilot.@@N@@
open Jvm Jvm.ClassFile Sem Op Lib Jvm.Free Jvm.Stand Jvm.LawKit Jvm.RoadKit Bundle Jvm.Pilot.@@N@@.Jvm.D
def own_max (a b : Int32) : Int32 := if a < b then b else a
def own_valid (x : Int32) : Int32 := if (x &&& (2147483647 : Int32)) = (0 : Int32) then (1 : Int32) else (x &&& (2147483647 : Int32))
theorem own_max_ge (x : Int32) : ¬ (own_max (1 : Int32) x < (1 : Int32)) := by
  unfold own_max
  split
  · rename_i h
    rw [Int32.lt_iff_toInt_lt] at *
    omega
  · decide
theorem own_valid_ge (x : Int32) : ¬ (own_valid x < (1 : Int32)) := by
  unfold own_valid
  split
  · decide
  · rename_i h
    have q := c_mask x (2147483647 : Int32) 31 (by decide) (by decide)
    have h' : ¬ (x &&& (2147483647 : Int32)).toInt = 0 := fun z => h (Int32.toInt_inj.mp z)
    rw [Int32.lt_iff_toInt_lt]
    have e1 : (1 : Int32).toInt = 1 := by decide
    rw [e1]
    omega
theorem ef_max (m : MethodId) (ma : Int32) (mb : Int32) : entryFrame m #[(.int ma), (.int mb)] 2 = mkF m 0 #[.val (.int ma), .val (.int mb)] [] := by first | (simp [entryFrame, mkF, argsToLocals, Value.category]; done) | rfl
def Q_max (Z : State) (ma : Int32) (mb : Int32) (h0 : Heap) (n0 : Nat) (v : Option Value) (h : Heap) (L : List Loc) : Prop := v = some (.int (own_max ma mb)) ∧ Fr n0 L ∧ h = h0
theorem d1_0 : decode jdk_29_method_65_code 0 = .ok (.iload_n 0, 1) := by decide +kernel
theorem d1_1 : decode jdk_29_method_65_code 1 = .ok (.iload_n 1, 1) := by decide +kernel
theorem d1_2 : decode jdk_29_method_65_code 2 = .ok (.if_icmp .lt 7, 3) := by decide +kernel
theorem d1_9 : decode jdk_29_method_65_code 9 = .ok (.iload_n 1, 1) := by decide +kernel
theorem d1_10 : decode jdk_29_method_65_code 10 = .ok (.ireturn, 1) := by decide +kernel
theorem d1_5 : decode jdk_29_method_65_code 5 = .ok (.iload_n 0, 1) := by decide +kernel
theorem d1_6 : decode jdk_29_method_65_code 6 = .ok (.goto 4, 3) := by decide +kernel
set_option maxRecDepth 65536 in
set_option maxHeartbeats 40000000 in
theorem rm_max (l : Launch) (Z : State) (a0 : Array Value) (hw : ∀ d ∈ tables_1, d.before a0 Z = true) (ws : List Jvm.Cond) (ma : Int32) (mb : Int32) (h0 : Heap) (n0 : Nat) (Z0 : n0 ≤ h0.size) :
    MetFree l (⟨"java/lang/Math", "max", "(II)I"⟩ : MethodName) (head1 (Jvm.Cond.code (⟨"java/lang/Math", "max", "(II)I"⟩ : MethodName) jdk_29_method_65_code 2 (some .int) :: ws) ({ frames := 0, cells := 0, slots := 0, locals := 0 } : Room)) (fun a_ U_ => a_ = #[(.int ma), (.int mb)] ∧ Z.Warmed39 U_.vm ∧ U_.heap = h0) (fun _ _ _ _ _ => True) (fun _ U_ o_ V_ => ∃ v_ L_, o_ = .returned v_ ∧ Q_max Z ma mb h0 n0 v_ V_.heap L_ ∧ FrameEnd U_ o_ V_ L_ ({ frames := 0, cells := 0, slots := 0, locals := 0 } : Room).cells ({ frames := 0, cells := 0, slots := 0, locals := 0 } : Room).slots) := by
  refine MetFree.of_bodySF (Jvm.Free.JP.mathPlain rfl (by decide +kernel)) hisR ?_
  intro p e s m args below meth c s₁ Bd hml0 hP hK
  obtain ⟨rfl, hZ, hh⟩ := hP
  have hx := Bd.exec
  have hby := Bd.bytes
  have hml : c.maxLocals = 2 := hml0
  have hown : s.vm.findClass "java/lang/Math" = some m.cls := findClass_of_methodNamed Bd.named
  have hnm := (name_of_methodNamed Bd.named Bd.method).1
  have X0 : Stand p l e ({ frames := 0, cells := 0, slots := 0, locals := 0 } : Room) s m #[(.int ma), (.int mb)] below meth c s₁ [] 0 0 := Stand.of_body Bd
  have e0 : s₁.heap = h0 := by rw [← hh, Bd.state]; rfl
  have N0 := Fr.nil n0
  have pre0 : ∀ t_, Steps p.tables e below (s₁.setTop (mkF m 0 #[.val (.int ma), .val (.int mb)] [])) t_ → Steps p.tables e below (s₁.setTop (entryFrame m #[(.int ma), (.int mb)] 2)) t_ := fun t_ k_ => castTop (ef_max m ma mb) k_
  have pre1 : ∀ t_, Steps p.tables e below (s₁.setTop (mkF m 2 #[.val (.int ma), .val (.int mb)] [(.int mb), (.int ma)])) t_ → Steps p.tables e below (s₁.setTop (entryFrame m #[(.int ma), (.int mb)] 2)) t_ := fun t_ k_ => pre0 t_ (by
    show Steps p.tables e below (s₁.setTop (mkF m 0 #[.val (.int ma), .val (.int mb)] [])) _
    refine XS.iloadN X0.here hx rfl (hb hby d1_0) rfl ?_
    show Steps p.tables e below (s₁.setTop (mkF m 1 #[.val (.int ma), .val (.int mb)] [(.int ma)])) _
    refine XS.iloadN X0.here hx rfl (hb hby d1_1) rfl ?_
    show Steps p.tables e below (s₁.setTop (mkF m 2 #[.val (.int ma), .val (.int mb)] [(.int mb), (.int ma)])) _
    exact k_)
  by_cases hc2_2 : ma < mb
  · have pre3 : ∀ t_, Steps p.tables e below (s₁.setTop (mkF m 10 #[.val (.int ma), .val (.int mb)] [(.int mb)])) t_ → Steps p.tables e below (s₁.setTop (entryFrame m #[(.int ma), (.int mb)] 2)) t_ := fun t_ k_ => pre1 t_ (by
      show Steps p.tables e below (s₁.setTop (mkF m 2 #[.val (.int ma), .val (.int mb)] [(.int mb), (.int ma)])) _
      refine XS.icmpYes X0.here hx rfl (pc0 := 2) (pc' := 9) rfl (hb hby d1_2) rfl (tlt hc2_2).1 (by decide) (by decide) ?_
      show Steps p.tables e below (s₁.setTop (mkF m 9 #[.val (.int ma), .val (.int mb)] [])) _
      refine XS.iloadN X0.here hx rfl (hb hby d1_9) rfl ?_
      show Steps p.tables e below (s₁.setTop (mkF m 10 #[.val (.int ma), .val (.int mb)] [(.int mb)])) _
      exact k_)
    obtain ⟨fs, hr, hrun, hended, hW, hsame⟩ := X0.leave (v := some (.int mb)) (fun h => by rw [Bd.returns] at h; cases h)
    refine ⟨_, _, pre3 _ ?_, hrun, hended, _, _, rfl, ?_, ⟨_, rfl⟩, hW, hsame.mono (by decide) (by decide)⟩
    · show Steps p.tables e below (s₁.setTop (mkF m 10 #[.val (.int ma), .val (.int mb)] [(.int mb)])) _
      exact retI X0 hx Bd.returns (hb hby d1_10) hr
    · show Q_max Z ma mb h0 n0 _ s₁.heap _
      rw [e0]
      exact ⟨by rw [own_max, if_pos hc2_2], N0, rfl⟩
  · have pre4 : ∀ t_, Steps p.tables e below (s₁.setTop (mkF m 10 #[.val (.int ma), .val (.int mb)] [(.int ma)])) t_ → Steps p.tables e below (s₁.setTop (entryFrame m #[(.int ma), (.int mb)] 2)) t_ := fun t_ k_ => pre1 t_ (by
      show Steps p.tables e below (s₁.setTop (mkF m 2 #[.val (.int ma), .val (.int mb)] [(.int mb), (.int ma)])) _
      refine XS.icmpNo X0.here hx rfl (hb hby d1_2) rfl (flt hc2_2).1 ?_
      show Steps p.tables e below (s₁.setTop (mkF m 5 #[.val (.int ma), .val (.int mb)] [])) _
      refine XS.iloadN X0.here hx rfl (hb hby d1_5) rfl ?_
      show Steps p.tables e below (s₁.setTop (mkF m 6 #[.val (.int ma), .val (.int mb)] [(.int ma)])) _
      refine XS.goto X0.here hx rfl (pc0 := 6) (pc' := 10) rfl (hb hby d1_6) (by decide) (by decide) ?_
      show Steps p.tables e below (s₁.setTop (mkF m 10 #[.val (.int ma), .val (.int mb)] [(.int ma)])) _
      exact k_)
    obtain ⟨fs, hr, hrun, hended, hW, hsame⟩ := X0.leave (v := some (.int ma)) (fun h => by rw [Bd.returns] at h; cases h)
    refine ⟨_, _, pre4 _ ?_, hrun, hended, _, _, rfl, ?_, ⟨_, rfl⟩, hW, hsame.mono (by decide) (by decide)⟩
    · show Steps p.tables e below (s₁.setTop (mkF m 10 #[.val (.int ma), .val (.int mb)] [(.int ma)])) _
      exact retI X0 hx Bd.returns (hb hby d1_10) hr
    · show Q_max Z ma mb h0 n0 _ s₁.heap _
      rw [e0]
      exact ⟨by rw [own_max, if_neg hc2_2], N0, rfl⟩
theorem ef_dinit (m : MethodId) (a : Addr) (js : Int64) (kn : Int32) : entryFrame m #[(.ref a), (.long js), (.int kn)] 4 = mkF m 0 #[.val (.ref a), .val (.long js), .second, .val (.int kn)] [] := by first | (simp [entryFrame, mkF, argsToLocals, Value.category]; done) | rfl
def Q_dinit (Z : State) (a : Addr) (js : Int64) (kn : Int32) (o_seconds : Value) (o_nanos : Value) (h0 : Heap) (n0 : Nat) (v : Option Value) (h : Heap) (L : List Loc) : Prop := v = none ∧ Fr n0 L ∧ Keep h0 h [a] ∧ Exa Z h a "java/time/Duration"
theorem pn_0 : plainName "java/time/Duration" = true := by first | (simp [plainName, overriddenIn]; done) | decide +kernel
theorem d6_0 : decode jdk_2316_method_17_code 0 = .ok (.aload_n 0, 1) := by decide +kernel
theorem d6_1 : decode jdk_2316_method_17_code 1 = .ok (.invokespecial 218, 3) := by decide +kernel
theorem d6_4 : decode jdk_2316_method_17_code 4 = .ok (.aload_n 0, 1) := by decide +kernel
theorem d6_5 : decode jdk_2316_method_17_code 5 = .ok (.lload_n 1, 1) := by decide +kernel
theorem d6_6 : decode jdk_2316_method_17_code 6 = .ok (.putfield 221, 3) := by decide +kernel
theorem d6_9 : decode jdk_2316_method_17_code 9 = .ok (.aload_n 0, 1) := by decide +kernel
theorem d6_10 : decode jdk_2316_method_17_code 10 = .ok (.iload_n 3, 1) := by decide +kernel
theorem d6_11 : decode jdk_2316_method_17_code 11 = .ok (.putfield 224, 3) := by decide +kernel
theorem d6_14 : decode jdk_2316_method_17_code 14 = .ok (.return_, 1) := by decide +kernel
set_option maxRecDepth 65536 in
set_option maxHeartbeats 40000000 in
theorem rm_dinit (l : Launch) (Z : State) (a0 : Array Value) (hw : ∀ d ∈ tables_1, d.before a0 Z = true) (ws : List Jvm.Cond) (a : Addr) (js : Int64) (kn : Int32) (o_seconds : Value) (o_nanos : Value) (h0 : Heap) (n0 : Nat) (Z0 : n0 ≤ h0.size) (E_a : Exa Z h0 a "java/time/Duration") (gg_a : n0 ≤ a) (F_seconds : Fld Z h0 a "java/time/Duration" "seconds" "J" o_seconds) (F_nanos : Fld Z h0 a "java/time/Duration" "nanos" "I" o_nanos) :
    MetFree l (⟨"java/time/Duration", "<init>", "(JI)V"⟩ : MethodName) (head1 (Jvm.Cond.code (⟨"java/time/Duration", "<init>", "(JI)V"⟩ : MethodName) jdk_2316_method_17_code 4 none :: ws) ({ frames := 1, cells := 0, slots := 0, locals := 12 } : Room)) (fun a_ U_ => a_ = #[(.ref a), (.long js), (.int kn)] ∧ Z.Warmed39 U_.vm ∧ U_.heap = h0) (fun _ _ _ _ _ => True) (fun _ U_ o_ V_ => ∃ v_ L_, o_ = .returned v_ ∧ Q_dinit Z a js kn o_seconds o_nanos h0 n0 v_ V_.heap L_ ∧ FrameEnd U_ o_ V_ L_ ({ frames := 1, cells := 0, slots := 0, locals := 12 } : Room).cells ({ frames := 1, cells := 0, slots := 0, locals := 12 } : Room).slots) := by
  refine MetFree.of_bodySF (plainFor_of_name pn_0) hisR ?_
  intro p e s m args below meth c s₁ Bd hml0 hP hK
  obtain ⟨rfl, hZ, hh⟩ := hP
  have hx := Bd.exec
  have hby := Bd.bytes
  have hml : c.maxLocals = 4 := hml0
  have hown : s.vm.findClass "java/time/Duration" = some m.cls := findClass_of_methodNamed Bd.named
  have hnm := (name_of_methodNamed Bd.named Bd.method).1
  have X0 : Stand p l e ({ frames := 1, cells := 0, slots := 0, locals := 12 } : Room) s m #[(.ref a), (.long js), (.int kn)] below meth c s₁ [] 0 0 := Stand.of_body Bd
  have e0 : s₁.heap = h0 := by rw [← hh, Bd.state]; rfl
  have N0 := Fr.nil n0
  have pre0 : ∀ t_, Steps p.tables e below (s₁.setTop (mkF m 0 #[.val (.ref a), .val (.long js), .second, .val (.int kn)] [])) t_ → Steps p.tables e below (s₁.setTop (entryFrame m #[(.ref a), (.long js), (.int kn)] 4)) t_ := fun t_ k_ => castTop (ef_dinit m a js kn) k_
  have O0 := own_ext_refl h0
  have K0 := Keep.refl h0 [a]
  obtain ⟨T5, X5, e5, st5⟩ := initO X0 hx hZ hown (hw _ (List.mem_of_getElem? (i := 37) rfl)) (hw _ (List.mem_of_getElem? (i := 12) rfl)) (hw _ (List.mem_of_getElem? (i := 13) rfl)) e0 (g := (mkF m 1 #[.val (.ref a), .val (.long js), .second, .val (.int kn)] [(.ref a)])) rfl (by rw [hml]; rfl) rfl (hb hby d6_1) (by decide) (W := 0) (by show 2 * 0 + _ ≤ _; exact Nat.le_of_eq rfl) (by decide)
  obtain ⟨T6, h6, X6, e6, W6, st6⟩ := putF X5 hx hZ hown (host := "") (Or.inl (hw _ (List.mem_of_getElem? (i := 38) rfl))) Via.refl e5 F_seconds E_a (Or.inr ⟨(hw _ (List.mem_of_getElem? (i := 39) rfl)), rfl, hnm⟩) (hw _ (List.mem_of_getElem? (i := 32) rfl)) (ty := .long) (by decide) rfl rfl (g := (mkF m 6 #[.val (.ref a), .val (.long js), .second, .val (.int kn)] [(.long js), (.ref a)])) rfl rfl (hb hby d6_6)
  have N6 := Fr.snoc X6 N0 gg_a
  have K6 := Keep.wr K0 W6 (Or.inl (List.mem_of_getElem? (i := 0) rfl))
  have Zs6 := Nat.le_trans Z0 (Keep.of_wr W6).1
  have c7 : Exa Z h6 a "java/time/Duration" := E_a.wr W6
  have c8 : Fld Z h6 a "java/time/Duration" "seconds" "J" (.long js) := F_seconds.same W6
  have c9 : Fld Z h6 a "java/time/Duration" "nanos" "I" o_nanos := F_nanos.other W6 (Or.inr (slot_ne (Or.inr (hw _ (List.mem_of_getElem? (i := 41) rfl))) (Or.inr (hw _ (List.mem_of_getElem? (i := 39) rfl))) (by decide) (t := .int) (t' := .long) (by decide) (by decide)))
  obtain ⟨T10, h10, X10, e10, W10, st10⟩ := putF X6 hx hZ hown (host := "") (Or.inl (hw _ (List.mem_of_getElem? (i := 40) rfl))) Via.refl e6 c9 c7 (Or.inr ⟨(hw _ (List.mem_of_getElem? (i := 41) rfl)), rfl, hnm⟩) (hw _ (List.mem_of_getElem? (i := 32) rfl)) (ty := .int) (by decide) rfl rfl (g := (mkF m 11 #[.val (.ref a), .val (.long js), .second, .val (.int kn)] [(.int kn), (.ref a)])) rfl rfl (hb hby d6_11)
  have N10 := Fr.snoc X10 N6 gg_a
  have K10 := Keep.wr K6 W10 (Or.inl (List.mem_of_getElem? (i := 0) rfl))
  have Zs10 := Nat.le_trans Zs6 (Keep.of_wr W10).1
  have c11 : Exa Z h10 a "java/time/Duration" := c7.wr W10
  have c12 : Fld Z h10 a "java/time/Duration" "seconds" "J" (.long js) := c8.other W10 (Or.inr (slot_ne (Or.inr (hw _ (List.mem_of_getElem? (i := 39) rfl))) (Or.inr (hw _ (List.mem_of_getElem? (i := 41) rfl))) (by decide) (t := .long) (t' := .int) (by decide) (by decide)))
  have c13 : Fld Z h10 a "java/time/Duration" "nanos" "I" (.int kn) := c9.same W10
  have pre14 : ∀ t_, Steps p.tables e below (T10.setTop (mkF m 14 #[.val (.ref a), .val (.long js), .second, .val (.int kn)] [])) t_ → Steps p.tables e below (s₁.setTop (entryFrame m #[(.ref a), (.long js), (.int kn)] 4)) t_ := fun t_ k_ => pre0 t_ (by
    show Steps p.tables e below (s₁.setTop (mkF m 0 #[.val (.ref a), .val (.long js), .second, .val (.int kn)] [])) _
    refine XS.aloadN X0.here hx rfl (hb hby d6_0) rfl rfl ?_
    show Steps p.tables e below (s₁.setTop (mkF m 1 #[.val (.ref a), .val (.long js), .second, .val (.int kn)] [(.ref a)])) _
    refine st5 _ ?_
    show Steps p.tables e below (T5.setTop (mkF m 4 #[.val (.ref a), .val (.long js), .second, .val (.int kn)] [])) _
    refine XS.aloadN X5.here hx rfl (hb hby d6_4) rfl rfl ?_
    show Steps p.tables e below (T5.setTop (mkF m 5 #[.val (.ref a), .val (.long js), .second, .val (.int kn)] [(.ref a)])) _
    refine XS.lloadN X5.here hx rfl (hb hby d6_5) rfl ?_
    show Steps p.tables e below (T5.setTop (mkF m 6 #[.val (.ref a), .val (.long js), .second, .val (.int kn)] [(.long js), (.ref a)])) _
    refine st6 _ ?_
    show Steps p.tables e below (T6.setTop (mkF m 9 #[.val (.ref a), .val (.long js), .second, .val (.int kn)] [])) _
    refine XS.aloadN X6.here hx rfl (hb hby d6_9) rfl rfl ?_
    show Steps p.tables e below (T6.setTop (mkF m 10 #[.val (.ref a), .val (.long js), .second, .val (.int kn)] [(.ref a)])) _
    refine XS.iloadN X6.here hx rfl (hb hby d6_10) rfl ?_
    show Steps p.tables e below (T6.setTop (mkF m 11 #[.val (.ref a), .val (.long js), .second, .val (.int kn)] [(.int kn), (.ref a)])) _
    refine st10 _ ?_
    show Steps p.tables e below (T10.setTop (mkF m 14 #[.val (.ref a), .val (.long js), .second, .val (.int kn)] [])) _
    exact k_)
  obtain ⟨fs, hr, hrun, hended, hW, hsame⟩ := X10.leave (v := none) (fun _ => rfl)
  refine ⟨_, _, pre14 _ ?_, hrun, hended, _, _, rfl, ?_, ⟨_, rfl⟩, hW, hsame.mono (by decide) (by decide)⟩
  · show Steps p.tables e below (T10.setTop (mkF m 14 #[.val (.ref a), .val (.long js), .second, .val (.int kn)] [])) _
    exact X10.returnOut hx Bd.returns (hb hby d6_14) hr
  · show Q_dinit Z a js kn o_seconds o_nanos h0 n0 _ T10.heap _
    rw [e10]
    exact ⟨rfl, N10, K10, c11⟩
theorem ef_create (m : MethodId) (js : Int64) (kn : Int32) : entryFrame m #[(.long js), (.int kn)] 3 = mkF m 0 #[.val (.long js), .second, .val (.int kn)] [] := by first | (simp [entryFrame, mkF, argsToLocals, Value.category]; done) | rfl
def Q_create (Z : State) (js : Int64) (kn : Int32) (h0 : Heap) (n0 : Nat) (v : Option Value) (h : Heap) (L : List Loc) : Prop := (∃ r : Addr, v = some (.ref r)) ∧ Fr n0 L ∧ Ext h0 h
theorem d5_0 : decode jdk_2316_method_16_code 0 = .ok (.lload_n 0, 1) := by decide +kernel
theorem d5_1 : decode jdk_2316_method_16_code 1 = .ok (.iload_n 2, 1) := by decide +kernel
theorem d5_2 : decode jdk_2316_method_16_code 2 = .ok (.i2l, 1) := by decide +kernel
theorem d5_3 : decode jdk_2316_method_16_code 3 = .ok (.lor, 1) := by decide +kernel
theorem d5_4 : decode jdk_2316_method_16_code 4 = .ok (.lconst 0, 1) := by decide +kernel
theorem d5_5 : decode jdk_2316_method_16_code 5 = .ok (.lcmp, 1) := by decide +kernel
theorem d5_6 : decode jdk_2316_method_16_code 6 = .ok (.ifCond .ne 7, 3) := by decide +kernel
theorem d5_13 : decode jdk_2316_method_16_code 13 = .ok (.new 11, 3) := by decide +kernel
theorem d5_16 : decode jdk_2316_method_16_code 16 = .ok (.dup, 1) := by decide +kernel
theorem d5_17 : decode jdk_2316_method_16_code 17 = .ok (.lload_n 0, 1) := by decide +kernel
theorem d5_18 : decode jdk_2316_method_16_code 18 = .ok (.iload_n 2, 1) := by decide +kernel
theorem d5_19 : decode jdk_2316_method_16_code 19 = .ok (.invokespecial 215, 3) := by decide +kernel
theorem pd_0 : parseMethodDescriptor "(JI)V" = some ⟨[.long, .int], none⟩ := by decide +kernel
theorem d5_22 : decode jdk_2316_method_16_code 22 = .ok (.areturn, 1) := by decide +kernel
set_option maxRecDepth 65536 in
set_option maxHeartbeats 40000000 in
theorem rm_create (l : Launch) (Z : State) (a0 : Array Value) (hw : ∀ d ∈ tables_1, d.before a0 Z = true) (ws : List Jvm.Cond) (js : Int64) (kn : Int32) (h0 : Heap) (n0 : Nat) (Z0 : n0 ≤ h0.size) (hne : ¬ ((js ||| (kn.toInt64)) = (0 : Int64))) :
    MetFree l (⟨"java/time/Duration", "create", "(JI)Ljava/time/Duration;"⟩ : MethodName) (head1 (Jvm.Cond.code (⟨"java/time/Duration", "create", "(JI)Ljava/time/Duration;"⟩ : MethodName) jdk_2316_method_16_code 3 (some (.object "java/time/Duration")) :: ws) ({ frames := 2, cells := 1, slots := 2, locals := 28 } : Room)) (fun a_ U_ => a_ = #[(.long js), (.int kn)] ∧ Z.Warmed39 U_.vm ∧ U_.heap = h0) (fun _ _ _ _ _ => True) (fun _ U_ o_ V_ => ∃ v_ L_, o_ = .returned v_ ∧ Q_create Z js kn h0 n0 v_ V_.heap L_ ∧ FrameEnd U_ o_ V_ L_ ({ frames := 2, cells := 1, slots := 2, locals := 28 } : Room).cells ({ frames := 2, cells := 1, slots := 2, locals := 28 } : Room).slots) := by
  refine MetFree.of_bodySF (plainFor_of_name pn_0) hisR ?_
  intro p e s m args below meth c s₁ Bd hml0 hP hK
  obtain ⟨rfl, hZ, hh⟩ := hP
  have hx := Bd.exec
  have hby := Bd.bytes
  have hml : c.maxLocals = 3 := hml0
  have hown : s.vm.findClass "java/time/Duration" = some m.cls := findClass_of_methodNamed Bd.named
  have hnm := (name_of_methodNamed Bd.named Bd.method).1
  have X0 : Stand p l e ({ frames := 2, cells := 1, slots := 2, locals := 28 } : Room) s m #[(.long js), (.int kn)] below meth c s₁ [] 0 0 := Stand.of_body Bd
  have e0 : s₁.heap = h0 := by rw [← hh, Bd.state]; rfl
  have N0 := Fr.nil n0
  have pre0 : ∀ t_, Steps p.tables e below (s₁.setTop (mkF m 0 #[.val (.long js), .second, .val (.int kn)] [])) t_ → Steps p.tables e below (s₁.setTop (entryFrame m #[(.long js), (.int kn)] 3)) t_ := fun t_ k_ => castTop (ef_create m js kn) k_
  have O0 := own_ext_refl h0
  obtain ⟨T15, h15, X15, e15, E15, A15, D15, -, st15⟩ := newO X0 hx hZ hown (hw _ (List.mem_of_getElem? (i := 31) rfl)) (hw _ (List.mem_of_getElem? (i := 32) rfl)) (hw _ (List.mem_of_getElem? (i := 26) rfl)) e0 (g := (mkF m 13 #[.val (.long js), .second, .val (.int kn)] [])) rfl (hb hby d5_13) (by decide) (by decide)
  obtain ⟨b15, g15⟩ : ∃ z, z = h0.size := ⟨_, rfl⟩
  rw [← g15] at A15 D15 st15
  have gg_b15 : n0 ≤ b15 := Nat.le_trans Z0 (Nat.le_of_eq g15.symm)
  have sz_b15 : h0.size ≤ b15 := Nat.le_trans O0.1 (Nat.le_of_eq g15.symm)
  have O16 := own_ext_trans O0 E15
  have Zs16 := Nat.le_trans Z0 (E15).1
  have F15_seconds : Fld Z h15 b15 "java/time/Duration" "seconds" "J" (.long (0 : Int64)) := D15 (Or.inr (hw _ (List.mem_of_getElem? (i := 39) rfl))) (ty := .long) (by decide)
  have F15_nanos : Fld Z h15 b15 "java/time/Duration" "nanos" "I" (.int (0 : Int32)) := D15 (Or.inr (hw _ (List.mem_of_getElem? (i := 41) rfl))) (ty := .int) (by decide)
  obtain ⟨v17, _, ⟨T17, L17, k17, n17⟩, -, X17, ⟨Lc17, hQ17, l17, y17, z17⟩, st17⟩ := X15.specialBack hx (y := (⟨"java/time/Duration", "<init>", "(JI)V"⟩ : MethodName)) rfl hown (mvT hZ (hw _ (List.mem_of_getElem? (i := 33) rfl))) (mvT hZ (hw _ (List.mem_of_getElem? (i := 34) rfl))) (mvT hZ (hw _ (List.mem_of_getElem? (i := 36) rfl))) (by decide) (backOf (W := 1) (rm_dinit l Z a0 hw [] b15 js kn (.long (0 : Int64)) (.int (0 : Int32)) h15 n0 Zs16 A15 gg_b15 F15_seconds F15_nanos) hZ (hw _ (List.mem_of_getElem? (i := 36) rfl)) (hw _ (List.mem_of_getElem? (i := 26) rfl)) (by decide) (by decide)) (g := (mkF m 19 #[.val (.long js), .second, .val (.int kn)] [(.int kn), (.long js), (.ref b15), (.ref b15)])) rfl (by rw [hml]; rfl) (Steps.refl _) (a := b15) (argsL := [(.long js), (.int kn)]) (rest := [(.ref b15)]) (lenOf pd_0 rfl) rfl (by show 2 * 0 + _ ≤ _; exact Nat.le_of_eq rfl) (hb hby d5_19) (fun _ _ => ⟨rfl, e15, (by decide : 1 + 0 ≤ _), (by decide : 2 + 0 ≤ _)⟩)
  dsimp only [Pt.U, Pt.locs, Pt.cells, Pt.slots] at X17 l17 y17 z17 st17 hQ17
  subst l17 y17 z17
  obtain ⟨hv17, N17q, M17⟩ := hQ17
  have N17 := Fr.app N0 N17q
  subst hv17
  obtain ⟨K17k, E17x⟩ := M17
  have O18 := own_ext_keep O16 K17k (allS sz_b15 all0)
  have Zs18 := Nat.le_trans Zs16 K17k.1
  have c19 : Exa Z T17.heap b15 "java/time/Duration" := A15.keep K17k
  have pre20 : ∀ t_, Steps p.tables e below (T17.setTop (mkF m 22 #[.val (.long js), .second, .val (.int kn)] [(.ref b15)])) t_ → Steps p.tables e below (s₁.setTop (entryFrame m #[(.long js), (.int kn)] 3)) t_ := fun t_ k_ => pre0 t_ (by
    show Steps p.tables e below (s₁.setTop (mkF m 0 #[.val (.long js), .second, .val (.int kn)] [])) _
    refine XS.lloadN X0.here hx rfl (hb hby d5_0) rfl ?_
    show Steps p.tables e below (s₁.setTop (mkF m 1 #[.val (.long js), .second, .val (.int kn)] [(.long js)])) _
    refine XS.iloadN X0.here hx rfl (hb hby d5_1) rfl ?_
    show Steps p.tables e below (s₁.setTop (mkF m 2 #[.val (.long js), .second, .val (.int kn)] [(.int kn), (.long js)])) _
    refine XS.i2l X0.here hx rfl (hb hby d5_2) rfl ?_
    show Steps p.tables e below (s₁.setTop (mkF m 3 #[.val (.long js), .second, .val (.int kn)] [(.long (kn.toInt64)), (.long js)])) _
    refine XS.lor X0.here hx rfl (hb hby d5_3) rfl ?_
    show Steps p.tables e below (s₁.setTop (mkF m 4 #[.val (.long js), .second, .val (.int kn)] [(.long (js ||| (kn.toInt64)))])) _
    refine XS.lconst X0.here hx rfl (hb hby d5_4) ?_
    show Steps p.tables e below (s₁.setTop (mkF m 5 #[.val (.long js), .second, .val (.int kn)] [(.long (0 : Int64)), (.long (js ||| (kn.toInt64)))])) _
    refine XS.lcmp X0.here hx rfl (hb hby d5_5) rfl ?_
    show Steps p.tables e below (s₁.setTop (mkF m 6 #[.val (.long js), .second, .val (.int kn)] [(.int (lcmpW (js ||| (kn.toInt64)) (0 : Int64)))])) _
    refine XS.ifYes X0.here hx rfl (pc0 := 6) (pc' := 13) rfl (hb hby d5_6) rfl ((if0 _ _).trans (feq (fun q_ => hne ((lw_eq (js ||| (kn.toInt64)) (0 : Int64)).mp q_))).2) (by decide) (by decide) ?_
    show Steps p.tables e below (s₁.setTop (mkF m 13 #[.val (.long js), .second, .val (.int kn)] [])) _
    refine st15 _ ?_
    show Steps p.tables e below (T15.setTop (mkF m 16 #[.val (.long js), .second, .val (.int kn)] [(.ref b15)])) _
    refine XS.dup X15.here hx rfl (hb hby d5_16) rfl rfl ?_
    show Steps p.tables e below (T15.setTop (mkF m 17 #[.val (.long js), .second, .val (.int kn)] [(.ref b15), (.ref b15)])) _
    refine XS.lloadN X15.here hx rfl (hb hby d5_17) rfl ?_
    show Steps p.tables e below (T15.setTop (mkF m 18 #[.val (.long js), .second, .val (.int kn)] [(.long js), (.ref b15), (.ref b15)])) _
    refine XS.iloadN X15.here hx rfl (hb hby d5_18) rfl ?_
    show Steps p.tables e below (T15.setTop (mkF m 19 #[.val (.long js), .second, .val (.int kn)] [(.int kn), (.long js), (.ref b15), (.ref b15)])) _
    refine st17.trans ?_
    show Steps p.tables e below (T17.setTop (mkF m 22 #[.val (.long js), .second, .val (.int kn)] [(.ref b15)])) _
    exact k_)
  obtain ⟨fs, hr, hrun, hended, hW, hsame⟩ := X17.leave (v := some (.ref b15)) (fun h => by rw [Bd.returns] at h; cases h)
  refine ⟨_, _, pre20 _ ?_, hrun, hended, _, _, rfl, ?_, ⟨_, rfl⟩, hW, hsame.mono (by decide) (by decide)⟩
  · show Steps p.tables e below (T17.setTop (mkF m 22 #[.val (.long js), .second, .val (.int kn)] [(.ref b15)])) _
    exact retA X17 hx Bd.returns rfl rfl rfl (hb hby d5_22) hr
  · show Q_create Z js kn h0 n0 _ T17.heap _
    exact ⟨⟨b15, rfl⟩, N17, O18⟩
theorem ef_ofs (m : MethodId) (js : Int64) : entryFrame m #[(.long js)] 2 = mkF m 0 #[.val (.long js), .second] [] := by first | (simp [entryFrame, mkF, argsToLocals, Value.category]; done) | rfl
def Q_ofs (Z : State) (js : Int64) (h0 : Heap) (n0 : Nat) (v : Option Value) (h : Heap) (L : List Loc) : Prop := (∃ r : Addr, v = some (.ref r)) ∧ Fr n0 L ∧ Ext h0 h
theorem d4_0 : decode jdk_2316_method_4_code 0 = .ok (.lload_n 0, 1) := by decide +kernel
theorem d4_1 : decode jdk_2316_method_4_code 1 = .ok (.iconst 0, 1) := by decide +kernel
theorem d4_2 : decode jdk_2316_method_4_code 2 = .ok (.invokestatic 10, 3) := by decide +kernel
theorem pd_1 : parseMethodDescriptor "(JI)Ljava/time/Duration;" = some ⟨[.long, .int], some (.object "java/time/Duration")⟩ := by decide +kernel
theorem d4_5 : decode jdk_2316_method_4_code 5 = .ok (.areturn, 1) := by decide +kernel
set_option maxRecDepth 65536 in
set_option maxHeartbeats 40000000 in
theorem rm_ofs (l : Launch) (Z : State) (a0 : Array Value) (hw : ∀ d ∈ tables_1, d.before a0 Z = true) (ws : List Jvm.Cond) (js : Int64) (h0 : Heap) (n0 : Nat) (Z0 : n0 ≤ h0.size) (hne : ¬ ((js ||| ((0 : Int32).toInt64)) = (0 : Int64))) :
    MetFree l (⟨"java/time/Duration", "ofSeconds", "(J)Ljava/time/Duration;"⟩ : MethodName) (head1 (Jvm.Cond.code (⟨"java/time/Duration", "ofSeconds", "(J)Ljava/time/Duration;"⟩ : MethodName) jdk_2316_method_4_code 2 (some (.object "java/time/Duration")) :: ws) ({ frames := 3, cells := 1, slots := 2, locals := 42 } : Room)) (fun a_ U_ => a_ = #[(.long js)] ∧ Z.Warmed39 U_.vm ∧ U_.heap = h0) (fun _ _ _ _ _ => True) (fun _ U_ o_ V_ => ∃ v_ L_, o_ = .returned v_ ∧ Q_ofs Z js h0 n0 v_ V_.heap L_ ∧ FrameEnd U_ o_ V_ L_ ({ frames := 3, cells := 1, slots := 2, locals := 42 } : Room).cells ({ frames := 3, cells := 1, slots := 2, locals := 42 } : Room).slots) := by
  refine MetFree.of_bodySF (plainFor_of_name pn_0) hisR ?_
  intro p e s m args below meth c s₁ Bd hml0 hP hK
  obtain ⟨rfl, hZ, hh⟩ := hP
  have hx := Bd.exec
  have hby := Bd.bytes
  have hml : c.maxLocals = 2 := hml0
  have hown : s.vm.findClass "java/time/Duration" = some m.cls := findClass_of_methodNamed Bd.named
  have hnm := (name_of_methodNamed Bd.named Bd.method).1
  have X0 : Stand p l e ({ frames := 3, cells := 1, slots := 2, locals := 42 } : Room) s m #[(.long js)] below meth c s₁ [] 0 0 := Stand.of_body Bd
  have e0 : s₁.heap = h0 := by rw [← hh, Bd.state]; rfl
  have N0 := Fr.nil n0
  have pre0 : ∀ t_, Steps p.tables e below (s₁.setTop (mkF m 0 #[.val (.long js), .second] [])) t_ → Steps p.tables e below (s₁.setTop (entryFrame m #[(.long js)] 2)) t_ := fun t_ k_ => castTop (ef_ofs m js) k_
  have O0 := own_ext_refl h0
  obtain ⟨v21, _, ⟨T21, L21, k21, n21⟩, -, X21, ⟨Lc21, hQ21, l21, y21, z21⟩, st21⟩ := Jvm.LawKit.callS X0 hx (y := (⟨"java/time/Duration", "create", "(JI)Ljava/time/Duration;"⟩ : MethodName)) hown (mvT hZ (hw _ (List.mem_of_getElem? (i := 28) rfl))) (mvT hZ (hw _ (List.mem_of_getElem? (i := 29) rfl))) (mvT hZ (hw _ (List.mem_of_getElem? (i := 26) rfl))) (mvT hZ (hw _ (List.mem_of_getElem? (i := 30) rfl))) (by decide) (backOf (W := 0) (rm_create l Z a0 hw [] js (0 : Int32) h0 n0 Z0 hne) hZ (hw _ (List.mem_of_getElem? (i := 30) rfl)) (hw _ (List.mem_of_getElem? (i := 26) rfl)) (by decide) (by decide)) (g := (mkF m 2 #[.val (.long js), .second] [(.int (0 : Int32)), (.long js)])) rfl (by rw [hml]; rfl) (argsL := [(.long js), (.int (0 : Int32))]) (rest := []) (lenOf pd_1 rfl) rfl (by show 2 * 0 + _ ≤ _; exact Nat.le_of_eq rfl) (hb hby d4_2) (fun _ _ => ⟨rfl, e0, (by decide : 0 + 1 ≤ _), (by decide : 0 + 2 ≤ _)⟩)
  dsimp only [Pt.U, Pt.locs, Pt.cells, Pt.slots] at X21 l21 y21 z21 st21 hQ21
  subst l21 y21 z21
  obtain ⟨⟨r21, hv21⟩, N21q, M21⟩ := hQ21
  have N21 := Fr.app N0 N21q
  subst hv21
  have O22 := own_ext_trans O0 M21
  have Zs22 := Nat.le_trans Z0 (M21).1
  have pre23 : ∀ t_, Steps p.tables e below (T21.setTop (mkF m 5 #[.val (.long js), .second] [(.ref r21)])) t_ → Steps p.tables e below (s₁.setTop (entryFrame m #[(.long js)] 2)) t_ := fun t_ k_ => pre0 t_ (by
    show Steps p.tables e below (s₁.setTop (mkF m 0 #[.val (.long js), .second] [])) _
    refine XS.lloadN X0.here hx rfl (hb hby d4_0) rfl ?_
    show Steps p.tables e below (s₁.setTop (mkF m 1 #[.val (.long js), .second] [(.long js)])) _
    refine XS.iconst X0.here hx rfl (hb hby d4_1) ?_
    show Steps p.tables e below (s₁.setTop (mkF m 2 #[.val (.long js), .second] [(.int (0 : Int32)), (.long js)])) _
    refine st21 _ ?_
    show Steps p.tables e below (T21.setTop (mkF m 5 #[.val (.long js), .second] [(.ref r21)])) _
    exact k_)
  obtain ⟨fs, hr, hrun, hended, hW, hsame⟩ := X21.leave (v := some (.ref r21)) (fun h => by rw [Bd.returns] at h; cases h)
  refine ⟨_, _, pre23 _ ?_, hrun, hended, _, _, rfl, ?_, ⟨_, rfl⟩, hW, hsame.mono (by decide) (by decide)⟩
  · show Steps p.tables e below (T21.setTop (mkF m 5 #[.val (.long js), .second] [(.ref r21)])) _
    exact retA X21 hx Bd.returns rfl rfl rfl (hb hby d4_5) hr
  · show Q_ofs Z js h0 n0 _ T21.heap _
    exact ⟨⟨r21, rfl⟩, N21, O22⟩
theorem ef_ofm (m : MethodId)  : entryFrame m #[(.long (1 : Int64))] 5 = mkF m 0 #[.val (.long (1 : Int64)), .second, .unset, .unset, .unset] [] := by first | (simp [entryFrame, mkF, argsToLocals, Value.category]; done) | rfl
def Q_ofm (Z : State) (h0 : Heap) (n0 : Nat) (v : Option Value) (h : Heap) (L : List Loc) : Prop := (∃ r : Addr, v = some (.ref r)) ∧ Fr n0 L ∧ Ext h0 h
theorem d7_0 : decode jdk_2316_method_6_code 0 = .ok (.lload_n 0, 1) := by decide +kernel
theorem d7_1 : decode jdk_2316_method_6_code 1 = .ok (.ldc2_w 28, 3) := by decide +kernel
theorem d7_4 : decode jdk_2316_method_6_code 4 = .ok (.ldiv, 1) := by decide +kernel
theorem d7_5 : decode jdk_2316_method_6_code 5 = .ok (.lstore_n 2, 1) := by decide +kernel
theorem d7_6 : decode jdk_2316_method_6_code 6 = .ok (.lload_n 0, 1) := by decide +kernel
theorem d7_7 : decode jdk_2316_method_6_code 7 = .ok (.ldc2_w 28, 3) := by decide +kernel
theorem d7_10 : decode jdk_2316_method_6_code 10 = .ok (.lrem, 1) := by decide +kernel
theorem d7_11 : decode jdk_2316_method_6_code 11 = .ok (.l2i, 1) := by decide +kernel
theorem d7_12 : decode jdk_2316_method_6_code 12 = .ok (.istore 4, 2) := by decide +kernel
theorem d7_14 : decode jdk_2316_method_6_code 14 = .ok (.iload 4, 2) := by decide +kernel
theorem d7_16 : decode jdk_2316_method_6_code 16 = .ok (.ifCond .ge 13, 3) := by decide +kernel
theorem d7_29 : decode jdk_2316_method_6_code 29 = .ok (.lload_n 2, 1) := by decide +kernel
theorem d7_30 : decode jdk_2316_method_6_code 30 = .ok (.iload 4, 2) := by decide +kernel
theorem d7_32 : decode jdk_2316_method_6_code 32 = .ok (.ldc 30, 2) := by decide +kernel
theorem d7_34 : decode jdk_2316_method_6_code 34 = .ok (.imul, 1) := by decide +kernel
theorem d7_35 : decode jdk_2316_method_6_code 35 = .ok (.invokestatic 10, 3) := by decide +kernel
theorem d7_38 : decode jdk_2316_method_6_code 38 = .ok (.areturn, 1) := by decide +kernel
set_option maxRecDepth 65536 in
set_option maxHeartbeats 40000000 in
theorem rm_ofm (l : Launch) (Z : State) (a0 : Array Value) (hw : ∀ d ∈ tables_1, d.before a0 Z = true) (ws : List Jvm.Cond) (h0 : Heap) (n0 : Nat) (Z0 : n0 ≤ h0.size) :
    MetFree l (⟨"java/time/Duration", "ofMillis", "(J)Ljava/time/Duration;"⟩ : MethodName) (head1 (Jvm.Cond.code (⟨"java/time/Duration", "ofMillis", "(J)Ljava/time/Duration;"⟩ : MethodName) jdk_2316_method_6_code 5 (some (.object "java/time/Duration")) :: ws) ({ frames := 3, cells := 1, slots := 2, locals := 42 } : Room)) (fun a_ U_ => a_ = #[(.long (1 : Int64))] ∧ Z.Warmed39 U_.vm ∧ U_.heap = h0) (fun _ _ _ _ _ => True) (fun _ U_ o_ V_ => ∃ v_ L_, o_ = .returned v_ ∧ Q_ofm Z  h0 n0 v_ V_.heap L_ ∧ FrameEnd U_ o_ V_ L_ ({ frames := 3, cells := 1, slots := 2, locals := 42 } : Room).cells ({ frames := 3, cells := 1, slots := 2, locals := 42 } : Room).slots) := by
  refine MetFree.of_bodySF (plainFor_of_name pn_0) hisR ?_
  intro p e s m args below meth c s₁ Bd hml0 hP hK
  obtain ⟨rfl, hZ, hh⟩ := hP
  have hx := Bd.exec
  have hby := Bd.bytes
  have hml : c.maxLocals = 5 := hml0
  have hown : s.vm.findClass "java/time/Duration" = some m.cls := findClass_of_methodNamed Bd.named
  have hnm := (name_of_methodNamed Bd.named Bd.method).1
  have X0 : Stand p l e ({ frames := 3, cells := 1, slots := 2, locals := 42 } : Room) s m #[(.long (1 : Int64))] below meth c s₁ [] 0 0 := Stand.of_body Bd
  have e0 : s₁.heap = h0 := by rw [← hh, Bd.state]; rfl
  have N0 := Fr.nil n0
  have pre0 : ∀ t_, Steps p.tables e below (s₁.setTop (mkF m 0 #[.val (.long (1 : Int64)), .second, .unset, .unset, .unset] [])) t_ → Steps p.tables e below (s₁.setTop (entryFrame m #[(.long (1 : Int64))] 5)) t_ := fun t_ k_ => castTop (ef_ofm m ) k_
  have O0 := own_ext_refl h0
  obtain ⟨v24, _, ⟨T24, L24, k24, n24⟩, -, X24, ⟨Lc24, hQ24, l24, y24, z24⟩, st24⟩ := Jvm.LawKit.callS X0 hx (y := (⟨"java/time/Duration", "create", "(JI)Ljava/time/Duration;"⟩ : MethodName)) hown (mvT hZ (hw _ (List.mem_of_getElem? (i := 28) rfl))) (mvT hZ (hw _ (List.mem_of_getElem? (i := 29) rfl))) (mvT hZ (hw _ (List.mem_of_getElem? (i := 26) rfl))) (mvT hZ (hw _ (List.mem_of_getElem? (i := 30) rfl))) (by decide) (backOf (W := 0) (rm_create l Z a0 hw [] ((1 : Int64) / (1000 : Int64)) ((((1 : Int64) - ((1 : Int64) / (1000 : Int64)) * (1000 : Int64)).toInt32) * (1000000 : Int32)) h0 n0 Z0 (by decide)) hZ (hw _ (List.mem_of_getElem? (i := 30) rfl)) (hw _ (List.mem_of_getElem? (i := 26) rfl)) (by decide) (by decide)) (g := (mkF m 35 #[.val (.long (1 : Int64)), .second, .val (.long ((1 : Int64) / (1000 : Int64))), .second, .val (.int (((1 : Int64) - ((1 : Int64) / (1000 : Int64)) * (1000 : Int64)).toInt32))] [(.int ((((1 : Int64) - ((1 : Int64) / (1000 : Int64)) * (1000 : Int64)).toInt32) * (1000000 : Int32))), (.long ((1 : Int64) / (1000 : Int64)))])) rfl (by rw [hml]; rfl) (argsL := [(.long ((1 : Int64) / (1000 : Int64))), (.int ((((1 : Int64) - ((1 : Int64) / (1000 : Int64)) * (1000 : Int64)).toInt32) * (1000000 : Int32)))]) (rest := []) (lenOf pd_1 rfl) rfl (by show 2 * 0 + _ ≤ _; exact Nat.le_of_eq rfl) (hb hby d7_35) (fun _ _ => ⟨rfl, e0, (by decide : 0 + 1 ≤ _), (by decide : 0 + 2 ≤ _)⟩)
  dsimp only [Pt.U, Pt.locs, Pt.cells, Pt.slots] at X24 l24 y24 z24 st24 hQ24
  subst l24 y24 z24
  obtain ⟨⟨r24, hv24⟩, N24q, M24⟩ := hQ24
  have N24 := Fr.app N0 N24q
  subst hv24
  have O25 := own_ext_trans O0 M24
  have Zs25 := Nat.le_trans Z0 (M24).1
  have pre26 : ∀ t_, Steps p.tables e below (T24.setTop (mkF m 38 #[.val (.long (1 : Int64)), .second, .val (.long ((1 : Int64) / (1000 : Int64))), .second, .val (.int (((1 : Int64) - ((1 : Int64) / (1000 : Int64)) * (1000 : Int64)).toInt32))] [(.ref r24)])) t_ → Steps p.tables e below (s₁.setTop (entryFrame m #[(.long (1 : Int64))] 5)) t_ := fun t_ k_ => pre0 t_ (by
    show Steps p.tables e below (s₁.setTop (mkF m 0 #[.val (.long (1 : Int64)), .second, .unset, .unset, .unset] [])) _
    refine XS.lloadN X0.here hx rfl (hb hby d7_0) rfl ?_
    show Steps p.tables e below (s₁.setTop (mkF m 1 #[.val (.long (1 : Int64)), .second, .unset, .unset, .unset] [(.long (1 : Int64))])) _
    refine X0.ldc2Long hx hown (mvT hZ (hw _ (List.mem_of_getElem? (i := 58) rfl))) (g := (mkF m 1 #[.val (.long (1 : Int64)), .second, .unset, .unset, .unset] [(.long (1 : Int64))])) rfl (hb hby d7_1) _ ?_
    show Steps p.tables e below (s₁.setTop (mkF m 4 #[.val (.long (1 : Int64)), .second, .unset, .unset, .unset] [(.long (1000 : Int64)), (.long (1 : Int64))])) _
    refine XS.ldiv X0.here hx rfl (hb hby d7_4) rfl (by decide) ?_
    show Steps p.tables e below (s₁.setTop (mkF m 5 #[.val (.long (1 : Int64)), .second, .unset, .unset, .unset] [(.long ((1 : Int64) / (1000 : Int64)))])) _
    refine XS.lstoreN X0.here hx rfl (hb hby d7_5) rfl (l' := #[.val (.long (1 : Int64)), .second, .val (.long ((1 : Int64) / (1000 : Int64))), .second, .unset]) rfl ?_
    show Steps p.tables e below (s₁.setTop (mkF m 6 #[.val (.long (1 : Int64)), .second, .val (.long ((1 : Int64) / (1000 : Int64))), .second, .unset] [])) _
    refine XS.lloadN X0.here hx rfl (hb hby d7_6) rfl ?_
    show Steps p.tables e below (s₁.setTop (mkF m 7 #[.val (.long (1 : Int64)), .second, .val (.long ((1 : Int64) / (1000 : Int64))), .second, .unset] [(.long (1 : Int64))])) _
    refine X0.ldc2Long hx hown (mvT hZ (hw _ (List.mem_of_getElem? (i := 58) rfl))) (g := (mkF m 7 #[.val (.long (1 : Int64)), .second, .val (.long ((1 : Int64) / (1000 : Int64))), .second, .unset] [(.long (1 : Int64))])) rfl (hb hby d7_7) _ ?_
    show Steps p.tables e below (s₁.setTop (mkF m 10 #[.val (.long (1 : Int64)), .second, .val (.long ((1 : Int64) / (1000 : Int64))), .second, .unset] [(.long (1000 : Int64)), (.long (1 : Int64))])) _
    refine XS.lrem X0.here hx rfl (hb hby d7_10) rfl (by decide) ?_
    show Steps p.tables e below (s₁.setTop (mkF m 11 #[.val (.long (1 : Int64)), .second, .val (.long ((1 : Int64) / (1000 : Int64))), .second, .unset] [(.long ((1 : Int64) - ((1 : Int64) / (1000 : Int64)) * (1000 : Int64)))])) _
    refine XS.l2i X0.here hx rfl (hb hby d7_11) rfl ?_
    show Steps p.tables e below (s₁.setTop (mkF m 12 #[.val (.long (1 : Int64)), .second, .val (.long ((1 : Int64) / (1000 : Int64))), .second, .unset] [(.int (((1 : Int64) - ((1 : Int64) / (1000 : Int64)) * (1000 : Int64)).toInt32))])) _
    refine XS.istore X0.here hx rfl (hb hby d7_12) rfl (l' := #[.val (.long (1 : Int64)), .second, .val (.long ((1 : Int64) / (1000 : Int64))), .second, .val (.int (((1 : Int64) - ((1 : Int64) / (1000 : Int64)) * (1000 : Int64)).toInt32))]) rfl ?_
    show Steps p.tables e below (s₁.setTop (mkF m 14 #[.val (.long (1 : Int64)), .second, .val (.long ((1 : Int64) / (1000 : Int64))), .second, .val (.int (((1 : Int64) - ((1 : Int64) / (1000 : Int64)) * (1000 : Int64)).toInt32))] [])) _
    refine XS.iload X0.here hx rfl (hb hby d7_14) rfl ?_
    show Steps p.tables e below (s₁.setTop (mkF m 16 #[.val (.long (1 : Int64)), .second, .val (.long ((1 : Int64) / (1000 : Int64))), .second, .val (.int (((1 : Int64) - ((1 : Int64) / (1000 : Int64)) * (1000 : Int64)).toInt32))] [(.int (((1 : Int64) - ((1 : Int64) / (1000 : Int64)) * (1000 : Int64)).toInt32))])) _
    refine XS.ifYes X0.here hx rfl (pc0 := 16) (pc' := 29) rfl (hb hby d7_16) rfl ((if0 _ _).trans (flt (by decide : ¬ ((((1 : Int64) - ((1 : Int64) / (1000 : Int64)) * (1000 : Int64)).toInt32) < (0 : Int32)))).2.1) (by decide) (by decide) ?_
    show Steps p.tables e below (s₁.setTop (mkF m 29 #[.val (.long (1 : Int64)), .second, .val (.long ((1 : Int64) / (1000 : Int64))), .second, .val (.int (((1 : Int64) - ((1 : Int64) / (1000 : Int64)) * (1000 : Int64)).toInt32))] [])) _
    refine XS.lloadN X0.here hx rfl (hb hby d7_29) rfl ?_
    show Steps p.tables e below (s₁.setTop (mkF m 30 #[.val (.long (1 : Int64)), .second, .val (.long ((1 : Int64) / (1000 : Int64))), .second, .val (.int (((1 : Int64) - ((1 : Int64) / (1000 : Int64)) * (1000 : Int64)).toInt32))] [(.long ((1 : Int64) / (1000 : Int64)))])) _
    refine XS.iload X0.here hx rfl (hb hby d7_30) rfl ?_
    show Steps p.tables e below (s₁.setTop (mkF m 32 #[.val (.long (1 : Int64)), .second, .val (.long ((1 : Int64) / (1000 : Int64))), .second, .val (.int (((1 : Int64) - ((1 : Int64) / (1000 : Int64)) * (1000 : Int64)).toInt32))] [(.int (((1 : Int64) - ((1 : Int64) / (1000 : Int64)) * (1000 : Int64)).toInt32)), (.long ((1 : Int64) / (1000 : Int64)))])) _
    refine X0.ldcInt hx hown (mvT hZ (hw _ (List.mem_of_getElem? (i := 59) rfl))) (g := (mkF m 32 #[.val (.long (1 : Int64)), .second, .val (.long ((1 : Int64) / (1000 : Int64))), .second, .val (.int (((1 : Int64) - ((1 : Int64) / (1000 : Int64)) * (1000 : Int64)).toInt32))] [(.int (((1 : Int64) - ((1 : Int64) / (1000 : Int64)) * (1000 : Int64)).toInt32)), (.long ((1 : Int64) / (1000 : Int64)))])) rfl (hb hby d7_32) _ ?_
    show Steps p.tables e below (s₁.setTop (mkF m 34 #[.val (.long (1 : Int64)), .second, .val (.long ((1 : Int64) / (1000 : Int64))), .second, .val (.int (((1 : Int64) - ((1 : Int64) / (1000 : Int64)) * (1000 : Int64)).toInt32))] [(.int (1000000 : Int32)), (.int (((1 : Int64) - ((1 : Int64) / (1000 : Int64)) * (1000 : Int64)).toInt32)), (.long ((1 : Int64) / (1000 : Int64)))])) _
    refine XS.imul X0.here hx rfl (hb hby d7_34) rfl ?_
    show Steps p.tables e below (s₁.setTop (mkF m 35 #[.val (.long (1 : Int64)), .second, .val (.long ((1 : Int64) / (1000 : Int64))), .second, .val (.int (((1 : Int64) - ((1 : Int64) / (1000 : Int64)) * (1000 : Int64)).toInt32))] [(.int ((((1 : Int64) - ((1 : Int64) / (1000 : Int64)) * (1000 : Int64)).toInt32) * (1000000 : Int32))), (.long ((1 : Int64) / (1000 : Int64)))])) _
    refine st24 _ ?_
    show Steps p.tables e below (T24.setTop (mkF m 38 #[.val (.long (1 : Int64)), .second, .val (.long ((1 : Int64) / (1000 : Int64))), .second, .val (.int (((1 : Int64) - ((1 : Int64) / (1000 : Int64)) * (1000 : Int64)).toInt32))] [(.ref r24)])) _
    exact k_)
  obtain ⟨fs, hr, hrun, hended, hW, hsame⟩ := X24.leave (v := some (.ref r24)) (fun h => by rw [Bd.returns] at h; cases h)
  refine ⟨_, _, pre26 _ ?_, hrun, hended, _, _, rfl, ?_, ⟨_, rfl⟩, hW, hsame.mono (by decide) (by decide)⟩
  · show Steps p.tables e below (T24.setTop (mkF m 38 #[.val (.long (1 : Int64)), .second, .val (.long ((1 : Int64) / (1000 : Int64))), .second, .val (.int (((1 : Int64) - ((1 : Int64) / (1000 : Int64)) * (1000 : Int64)).toInt32))] [(.ref r24)])) _
    exact retA X24 hx Bd.returns rfl rfl rfl (hb hby d7_38) hr
  · show Q_ofm Z  h0 n0 _ T24.heap _
    exact ⟨⟨r24, rfl⟩, N24, O25⟩
theorem ef_listof (m : MethodId)  : entryFrame m #[] 0 = mkF m 0 #[] [] := by first | (simp [entryFrame, mkF, argsToLocals, Value.category]; done) | rfl
def Q_listof (Z : State) (w_EL : Addr) (h0 : Heap) (n0 : Nat) (v : Option Value) (h : Heap) (L : List Loc) : Prop := v = some (.ref w_EL) ∧ Fr n0 L ∧ h = h0
theorem pn_1 : plainName "java/util/List" = true := by first | (simp [plainName, overriddenIn]; done) | decide +kernel
theorem d8_0 : decode jdk_40_method_36_code 0 = .ok (.getstatic 90, 3) := by decide +kernel
theorem d8_3 : decode jdk_40_method_36_code 3 = .ok (.areturn, 1) := by decide +kernel
set_option maxRecDepth 65536 in
set_option maxHeartbeats 40000000 in
theorem rm_listof (l : Launch) (Z : State) (a0 : Array Value) (hw : ∀ d ∈ tables_1, d.before a0 Z = true) (ws : List Jvm.Cond) (w_EL : Addr) (h0 : Heap) (n0 : Nat) (Z0 : n0 ≤ h0.size) (S_EL : Sta Z h0 "java/util/ImmutableCollections" "EMPTY_LIST" "Ljava/util/ImmutableCollections$ListN;" (.ref w_EL)) :
    MetFree l (⟨"java/util/List", "of", "()Ljava/util/List;"⟩ : MethodName) (head1 (Jvm.Cond.code (⟨"java/util/List", "of", "()Ljava/util/List;"⟩ : MethodName) jdk_40_method_36_code 0 (some (.object "java/util/List")) :: ws) ({ frames := 0, cells := 0, slots := 0, locals := 0 } : Room)) (fun a_ U_ => a_ = #[] ∧ Z.Warmed39 U_.vm ∧ U_.heap = h0) (fun _ _ _ _ _ => True) (fun _ U_ o_ V_ => ∃ v_ L_, o_ = .returned v_ ∧ Q_listof Z w_EL h0 n0 v_ V_.heap L_ ∧ FrameEnd U_ o_ V_ L_ ({ frames := 0, cells := 0, slots := 0, locals := 0 } : Room).cells ({ frames := 0, cells := 0, slots := 0, locals := 0 } : Room).slots) := by
  refine MetFree.of_bodySF (plainFor_of_name pn_1) hisR ?_
  intro p e s m args below meth c s₁ Bd hml0 hP hK
  obtain ⟨rfl, hZ, hh⟩ := hP
  have hx := Bd.exec
  have hby := Bd.bytes
  have hml : c.maxLocals = 0 := hml0
  have hown : s.vm.findClass "java/util/List" = some m.cls := findClass_of_methodNamed Bd.named
  have hnm := (name_of_methodNamed Bd.named Bd.method).1
  have X0 : Stand p l e ({ frames := 0, cells := 0, slots := 0, locals := 0 } : Room) s m #[] below meth c s₁ [] 0 0 := Stand.of_body Bd
  have e0 : s₁.heap = h0 := by rw [← hh, Bd.state]; rfl
  have N0 := Fr.nil n0
  have pre0 : ∀ t_, Steps p.tables e below (s₁.setTop (mkF m 0 #[] [])) t_ → Steps p.tables e below (s₁.setTop (entryFrame m #[] 0)) t_ := fun t_ k_ => castTop (ef_listof m ) k_
  obtain ⟨T27, X27, e27, st27⟩ := getS2 X0 hx hZ hown (host := "") (Or.inl (hw _ (List.mem_of_getElem? (i := 68) rfl))) Via.refl e0 S_EL (g := (mkF m 0 #[] [])) rfl (hb hby d8_0)
  have pre28 : ∀ t_, Steps p.tables e below (T27.setTop (mkF m 3 #[] [(.ref w_EL)])) t_ → Steps p.tables e below (s₁.setTop (entryFrame m #[] 0)) t_ := fun t_ k_ => pre0 t_ (by
    show Steps p.tables e below (s₁.setTop (mkF m 0 #[] [])) _
    refine st27 _ ?_
    show Steps p.tables e below (T27.setTop (mkF m 3 #[] [(.ref w_EL)])) _
    exact k_)
  obtain ⟨fs, hr, hrun, hended, hW, hsame⟩ := X27.leave (v := some (.ref w_EL)) (fun h => by rw [Bd.returns] at h; cases h)
  refine ⟨_, _, pre28 _ ?_, hrun, hended, _, _, rfl, ?_, ⟨_, rfl⟩, hW, hsame.mono (by decide) (by decide)⟩
  · show Steps p.tables e below (T27.setTop (mkF m 3 #[] [(.ref w_EL)])) _
    exact retA X27 hx Bd.returns rfl rfl rfl (hb hby d8_3) hr
  · show Q_listof Z w_EL h0 n0 _ T27.heap _
    rw [e27]
    exact ⟨rfl, N0, rfl⟩
theorem ef_rinit (m : MethodId) (a : Addr) : entryFrame m #[(.ref a)] 1 = mkF m 0 #[.val (.ref a)] [] := by first | (simp [entryFrame, mkF, argsToLocals, Value.category]; done) | rfl
def Q_rinit (Z : State) (a : Addr) (o_preferredProtocolVersion : Value) (o_maxPoolSize : Value) (o_maxPoolWaiting : Value) (o_poolCleanerInterval : Value) (o_poolRecycleTimeout : Value) (o_connectTimeout : Value) (o_commandTimeout : Value) (o_maxCommandsInFlight : Value) (o_autoPipeliningInterval : Value) (o_autoPipeliningThreshold : Value) (o_trustedCertificates : Value) (o_verifyHostName : Value) (w_RESP3 : Addr) (w_ZERO : Addr) (w_EL : Addr) (h0 : Heap) (n0 : Nat) (v : Option Value) (h : Heap) (L : List Loc) : Prop := v = none ∧ Fr n0 L ∧ Keep h0 h [a] ∧ Exa Z h a "com/example/keelreach/keelreach/RedisOptions" ∧ Fld Z h a "com/example/keelreach/keelreach/RedisOptions" "maxPoolSize" "I" (.int (6 : Int32)) ∧ Fld Z h a "com/example/keelreach/keelreach/RedisOptions" "maxPoolWaiting" "I" (.int (24 : Int32)) ∧ Fld Z h a "com/example/keelreach/keelreach/RedisOptions" "maxCommandsInFlight" "I" (.int (10000 : Int32)) ∧ Fld Z h a "com/example/keelreach/keelreach/RedisOptions" "autoPipeliningThreshold" "I" (.int (128 : Int32))
theorem pn_2 : plainName "com/example/keelreach/keelreach/RedisOptions" = true := by first | (simp [plainName, overriddenIn]; done) | decide +kernel
theorem d2_0 : decode prog_6_method_1_code 0 = .ok (.aload_n 0, 1) := by decide +kernel
theorem d2_1 : decode prog_6_method_1_code 1 = .ok (.invokespecial 1, 3) := by decide +kernel
theorem d2_4 : decode prog_6_method_1_code 4 = .ok (.aload_n 0, 1) := by decide +kernel
theorem d2_5 : decode prog_6_method_1_code 5 = .ok (.getstatic 7, 3) := by decide +kernel
theorem d2_8 : decode prog_6_method_1_code 8 = .ok (.putfield 13, 3) := by decide +kernel
theorem d2_11 : decode prog_6_method_1_code 11 = .ok (.aload_n 0, 1) := by decide +kernel
theorem d2_12 : decode prog_6_method_1_code 12 = .ok (.bipush 6, 2) := by decide +kernel
theorem d2_14 : decode prog_6_method_1_code 14 = .ok (.putfield 18, 3) := by decide +kernel
theorem d2_17 : decode prog_6_method_1_code 17 = .ok (.aload_n 0, 1) := by decide +kernel
theorem d2_18 : decode prog_6_method_1_code 18 = .ok (.bipush 24, 2) := by decide +kernel
theorem d2_20 : decode prog_6_method_1_code 20 = .ok (.putfield 22, 3) := by decide +kernel
theorem d2_23 : decode prog_6_method_1_code 23 = .ok (.aload_n 0, 1) := by decide +kernel
theorem d2_24 : decode prog_6_method_1_code 24 = .ok (.ldc2_w 25, 3) := by decide +kernel
theorem d2_27 : decode prog_6_method_1_code 27 = .ok (.invokestatic 27, 3) := by decide +kernel
theorem pd_2 : parseMethodDescriptor "(J)Ljava/time/Duration;" = some ⟨[.long], some (.object "java/time/Duration")⟩ := by decide +kernel
theorem d2_30 : decode prog_6_method_1_code 30 = .ok (.putfield 33, 3) := by decide +kernel
theorem d2_33 : decode prog_6_method_1_code 33 = .ok (.aload_n 0, 1) := by decide +kernel
theorem d2_34 : decode prog_6_method_1_code 34 = .ok (.ldc2_w 37, 3) := by decide +kernel
theorem d2_37 : decode prog_6_method_1_code 37 = .ok (.invokestatic 27, 3) := by decide +kernel
theorem d2_40 : decode prog_6_method_1_code 40 = .ok (.putfield 39, 3) := by decide +kernel
theorem d2_43 : decode prog_6_method_1_code 43 = .ok (.aload_n 0, 1) := by decide +kernel
theorem d2_44 : decode prog_6_method_1_code 44 = .ok (.ldc2_w 42, 3) := by decide +kernel
theorem d2_47 : decode prog_6_method_1_code 47 = .ok (.invokestatic 27, 3) := by decide +kernel
theorem d2_50 : decode prog_6_method_1_code 50 = .ok (.putfield 44, 3) := by decide +kernel
theorem d2_53 : decode prog_6_method_1_code 53 = .ok (.aload_n 0, 1) := by decide +kernel
theorem d2_54 : decode prog_6_method_1_code 54 = .ok (.getstatic 47, 3) := by decide +kernel
theorem d2_57 : decode prog_6_method_1_code 57 = .ok (.putfield 50, 3) := by decide +kernel
theorem d2_60 : decode prog_6_method_1_code 60 = .ok (.aload_n 0, 1) := by decide +kernel
theorem d2_61 : decode prog_6_method_1_code 61 = .ok (.sipush 10000, 3) := by decide +kernel
theorem d2_64 : decode prog_6_method_1_code 64 = .ok (.putfield 53, 3) := by decide +kernel
theorem d2_67 : decode prog_6_method_1_code 67 = .ok (.aload_n 0, 1) := by decide +kernel
theorem d2_68 : decode prog_6_method_1_code 68 = .ok (.lconst 1, 1) := by decide +kernel
theorem d2_69 : decode prog_6_method_1_code 69 = .ok (.invokestatic 56, 3) := by decide +kernel
theorem d2_72 : decode prog_6_method_1_code 72 = .ok (.putfield 59, 3) := by decide +kernel
theorem d2_75 : decode prog_6_method_1_code 75 = .ok (.aload_n 0, 1) := by decide +kernel
theorem d2_76 : decode prog_6_method_1_code 76 = .ok (.sipush 128, 3) := by decide +kernel
theorem d2_79 : decode prog_6_method_1_code 79 = .ok (.putfield 62, 3) := by decide +kernel
theorem d2_82 : decode prog_6_method_1_code 82 = .ok (.aload_n 0, 1) := by decide +kernel
theorem d2_83 : decode prog_6_method_1_code 83 = .ok (.invokestatic 65, 3) := by decide +kernel
theorem pd_3 : parseMethodDescriptor "()Ljava/util/List;" = some ⟨[], some (.object "java/util/List")⟩ := by decide +kernel
theorem d2_86 : decode prog_6_method_1_code 86 = .ok (.putfield 71, 3) := by decide +kernel
theorem d2_89 : decode prog_6_method_1_code 89 = .ok (.aload_n 0, 1) := by decide +kernel
theorem d2_90 : decode prog_6_method_1_code 90 = .ok (.iconst 1, 1) := by decide +kernel
theorem d2_91 : decode prog_6_method_1_code 91 = .ok (.putfield 75, 3) := by decide +kernel
theorem d2_94 : decode prog_6_method_1_code 94 = .ok (.return_, 1) := by decide +kernel
set_option maxRecDepth 65536 in
set_option maxHeartbeats 40000000 in
theorem rm_rinit (l : Launch) (Z : State) (a0 : Array Value) (hw : ∀ d ∈ tables_1, d.before a0 Z = true) (ws : List Jvm.Cond) (a : Addr) (o_preferredProtocolVersion : Value) (o_maxPoolSize : Value) (o_maxPoolWaiting : Value) (o_poolCleanerInterval : Value) (o_poolRecycleTimeout : Value) (o_connectTimeout : Value) (o_commandTimeout : Value) (o_maxCommandsInFlight : Value) (o_autoPipeliningInterval : Value) (o_autoPipeliningThreshold : Value) (o_trustedCertificates : Value) (o_verifyHostName : Value) (w_RESP3 : Addr) (w_ZERO : Addr) (w_EL : Addr) (h0 : Heap) (n0 : Nat) (Z0 : n0 ≤ h0.size) (E_a : Exa Z h0 a "com/example/keelreach/keelreach/RedisOptions") (gg_a : n0 ≤ a) (F_preferredProtocolVersion : Fld Z h0 a "com/example/keelreach/keelreach/RedisOptions" "preferredProtocolVersion" "Lcom/example/keelreach/keelreach/ProtocolVersion;" o_preferredProtocolVersion) (F_maxPoolSize : Fld Z h0 a "com/example/keelreach/keelreach/RedisOptions" "maxPoolSize" "I" o_maxPoolSize) (F_maxPoolWaiting : Fld Z h0 a "com/example/keelreach/keelreach/RedisOptions" "maxPoolWaiting" "I" o_maxPoolWaiting) (F_poolCleanerInterval : Fld Z h0 a "com/example/keelreach/keelreach/RedisOptions" "poolCleanerInterval" "Ljava/time/Duration;" o_poolCleanerInterval) (F_poolRecycleTimeout : Fld Z h0 a "com/example/keelreach/keelreach/RedisOptions" "poolRecycleTimeout" "Ljava/time/Duration;" o_poolRecycleTimeout) (F_connectTimeout : Fld Z h0 a "com/example/keelreach/keelreach/RedisOptions" "connectTimeout" "Ljava/time/Duration;" o_connectTimeout) (F_commandTimeout : Fld Z h0 a "com/example/keelreach/keelreach/RedisOptions" "commandTimeout" "Ljava/time/Duration;" o_commandTimeout) (F_maxCommandsInFlight : Fld Z h0 a "com/example/keelreach/keelreach/RedisOptions" "maxCommandsInFlight" "I" o_maxCommandsInFlight) (F_autoPipeliningInterval : Fld Z h0 a "com/example/keelreach/keelreach/RedisOptions" "autoPipeliningInterval" "Ljava/time/Duration;" o_autoPipeliningInterval) (F_autoPipeliningThreshold : Fld Z h0 a "com/example/keelreach/keelreach/RedisOptions" "autoPipeliningThreshold" "I" o_autoPipeliningThreshold) (F_trustedCertificates : Fld Z h0 a "com/example/keelreach/keelreach/RedisOptions" "trustedCertificates" "Ljava/util/List;" o_trustedCertificates) (F_verifyHostName : Fld Z h0 a "com/example/keelreach/keelreach/RedisOptions" "verifyHostName" "Z" o_verifyHostName) (S_RESP3 : Sta Z h0 "com/example/keelreach/keelreach/ProtocolVersion" "RESP3" "Lcom/example/keelreach/keelreach/ProtocolVersion;" (.ref w_RESP3)) (S_ZERO : Sta Z h0 "java/time/Duration" "ZERO" "Ljava/time/Duration;" (.ref w_ZERO)) (S_EL : Sta Z h0 "java/util/ImmutableCollections" "EMPTY_LIST" "Ljava/util/ImmutableCollections$ListN;" (.ref w_EL)) :
    MetFree l (⟨"com/example/keelreach/keelreach/RedisOptions", "<init>", "()V"⟩ : MethodName) (head1 (Jvm.Cond.code (⟨"com/example/keelreach/keelreach/RedisOptions", "<init>", "()V"⟩ : MethodName) prog_6_method_1_code 1 none :: ws) ({ frames := 4, cells := 4, slots := 8, locals := 59 } : Room)) (fun a_ U_ => a_ = #[(.ref a)] ∧ Z.Warmed39 U_.vm ∧ U_.heap = h0) (fun _ _ _ _ _ => True) (fun _ U_ o_ V_ => ∃ v_ L_, o_ = .returned v_ ∧ Q_rinit Z a o_preferredProtocolVersion o_maxPoolSize o_maxPoolWaiting o_poolCleanerInterval o_poolRecycleTimeout o_connectTimeout o_commandTimeout o_maxCommandsInFlight o_autoPipeliningInterval o_autoPipeliningThreshold o_trustedCertificates o_verifyHostName w_RESP3 w_ZERO w_EL h0 n0 v_ V_.heap L_ ∧ FrameEnd U_ o_ V_ L_ ({ frames := 4, cells := 4, slots := 8, locals := 59 } : Room).cells ({ frames := 4, cells := 4, slots := 8, locals := 59 } : Room).slots) := by
  refine MetFree.of_bodySF (plainFor_of_name pn_2) hisR ?_
  intro p e s m args below meth c s₁ Bd hml0 hP hK
  obtain ⟨rfl, hZ, hh⟩ := hP
  have hx := Bd.exec
  have hby := Bd.bytes
  have hml : c.maxLocals = 1 := hml0
  have hown : s.vm.findClass "com/example/keelreach/keelreach/RedisOptions" = some m.cls := findClass_of_methodNamed Bd.named
  have hnm := (name_of_methodNamed Bd.named Bd.method).1
  have X0 : Stand p l e ({ frames := 4, cells := 4, slots := 8, locals := 59 } : Room) s m #[(.ref a)] below meth c s₁ [] 0 0 := Stand.of_body Bd
  have e0 : s₁.heap = h0 := by rw [← hh, Bd.state]; rfl
  have N0 := Fr.nil n0
  have pre0 : ∀ t_, Steps p.tables e below (s₁.setTop (mkF m 0 #[.val (.ref a)] [])) t_ → Steps p.tables e below (s₁.setTop (entryFrame m #[(.ref a)] 1)) t_ := fun t_ k_ => castTop (ef_rinit m a) k_
  have O0 := own_ext_refl h0
  have K0 := Keep.refl h0 [a]
  obtain ⟨T29, X29, e29, st29⟩ := initO X0 hx hZ hown (hw _ (List.mem_of_getElem? (i := 11) rfl)) (hw _ (List.mem_of_getElem? (i := 12) rfl)) (hw _ (List.mem_of_getElem? (i := 13) rfl)) e0 (g := (mkF m 1 #[.val (.ref a)] [(.ref a)])) rfl (by rw [hml]; rfl) rfl (hb hby d2_1) (by decide) (W := 0) (by show 2 * 0 + _ ≤ _; exact Nat.le_of_eq rfl) (by decide)
  obtain ⟨T30, X30, e30, st30⟩ := getS2 X29 hx hZ hown (host := "") (Or.inl (hw _ (List.mem_of_getElem? (i := 14) rfl))) Via.refl e29 S_RESP3 (g := (mkF m 5 #[.val (.ref a)] [(.ref a)])) rfl (hb hby d2_5)
  obtain ⟨T31, h31, X31, e31, W31, st31⟩ := putF X30 hx hZ hown (host := "") (Or.inl (hw _ (List.mem_of_getElem? (i := 17) rfl))) Via.refl e30 F_preferredProtocolVersion E_a (Or.inl (hw _ (List.mem_of_getElem? (i := 18) rfl))) (hw _ (List.mem_of_getElem? (i := 6) rfl)) (ty := (.object "com/example/keelreach/keelreach/ProtocolVersion")) (by decide) rfl rfl (g := (mkF m 8 #[.val (.ref a)] [(.ref w_RESP3), (.ref a)])) rfl rfl (hb hby d2_8)
  have N31 := Fr.snoc X31 N0 gg_a
  have K31 := Keep.wr K0 W31 (Or.inl (List.mem_of_getElem? (i := 0) rfl))
  have Zs31 := Nat.le_trans Z0 (Keep.of_wr W31).1
  have c32 : Exa Z h31 a "com/example/keelreach/keelreach/RedisOptions" := E_a.wr W31
  have c33 : Fld Z h31 a "com/example/keelreach/keelreach/RedisOptions" "preferredProtocolVersion" "Lcom/example/keelreach/keelreach/ProtocolVersion;" (.ref w_RESP3) := F_preferredProtocolVersion.same W31
  have c34 : Fld Z h31 a "com/example/keelreach/keelreach/RedisOptions" "maxPoolSize" "I" o_maxPoolSize := F_maxPoolSize.other W31 (Or.inr (slot_ne (Or.inl (hw _ (List.mem_of_getElem? (i := 20) rfl))) (Or.inl (hw _ (List.mem_of_getElem? (i := 18) rfl))) (by decide) (t := .int) (t' := (.object "com/example/keelreach/keelreach/ProtocolVersion")) (by decide) (by decide)))
  have c35 : Fld Z h31 a "com/example/keelreach/keelreach/RedisOptions" "maxPoolWaiting" "I" o_maxPoolWaiting := F_maxPoolWaiting.other W31 (Or.inr (slot_ne (Or.inl (hw _ (List.mem_of_getElem? (i := 22) rfl))) (Or.inl (hw _ (List.mem_of_getElem? (i := 18) rfl))) (by decide) (t := .int) (t' := (.object "com/example/keelreach/keelreach/ProtocolVersion")) (by decide) (by decide)))
  have c36 : Fld Z h31 a "com/example/keelreach/keelreach/RedisOptions" "poolCleanerInterval" "Ljava/time/Duration;" o_poolCleanerInterval := F_poolCleanerInterval.other W31 (Or.inr (slot_ne (Or.inl (hw _ (List.mem_of_getElem? (i := 43) rfl))) (Or.inl (hw _ (List.mem_of_getElem? (i := 18) rfl))) (by decide) (t := (.object "java/time/Duration")) (t' := (.object "com/example/keelreach/keelreach/ProtocolVersion")) (by decide) (by decide)))
  have c37 : Fld Z h31 a "com/example/keelreach/keelreach/RedisOptions" "poolRecycleTimeout" "Ljava/time/Duration;" o_poolRecycleTimeout := F_poolRecycleTimeout.other W31 (Or.inr (slot_ne (Or.inl (hw _ (List.mem_of_getElem? (i := 46) rfl))) (Or.inl (hw _ (List.mem_of_getElem? (i := 18) rfl))) (by decide) (t := (.object "java/time/Duration")) (t' := (.object "com/example/keelreach/keelreach/ProtocolVersion")) (by decide) (by decide)))
  have c38 : Fld Z h31 a "com/example/keelreach/keelreach/RedisOptions" "connectTimeout" "Ljava/time/Duration;" o_connectTimeout := F_connectTimeout.other W31 (Or.inr (slot_ne (Or.inl (hw _ (List.mem_of_getElem? (i := 49) rfl))) (Or.inl (hw _ (List.mem_of_getElem? (i := 18) rfl))) (by decide) (t := (.object "java/time/Duration")) (t' := (.object "com/example/keelreach/keelreach/ProtocolVersion")) (by decide) (by decide)))
  have c39 : Fld Z h31 a "com/example/keelreach/keelreach/RedisOptions" "commandTimeout" "Ljava/time/Duration;" o_commandTimeout := F_commandTimeout.other W31 (Or.inr (slot_ne (Or.inl (hw _ (List.mem_of_getElem? (i := 52) rfl))) (Or.inl (hw _ (List.mem_of_getElem? (i := 18) rfl))) (by decide) (t := (.object "java/time/Duration")) (t' := (.object "com/example/keelreach/keelreach/ProtocolVersion")) (by decide) (by decide)))
  have c40 : Fld Z h31 a "com/example/keelreach/keelreach/RedisOptions" "maxCommandsInFlight" "I" o_maxCommandsInFlight := F_maxCommandsInFlight.other W31 (Or.inr (slot_ne (Or.inl (hw _ (List.mem_of_getElem? (i := 54) rfl))) (Or.inl (hw _ (List.mem_of_getElem? (i := 18) rfl))) (by decide) (t := .int) (t' := (.object "com/example/keelreach/keelreach/ProtocolVersion")) (by decide) (by decide)))
  have c41 : Fld Z h31 a "com/example/keelreach/keelreach/RedisOptions" "autoPipeliningInterval" "Ljava/time/Duration;" o_autoPipeliningInterval := F_autoPipeliningInterval.other W31 (Or.inr (slot_ne (Or.inl (hw _ (List.mem_of_getElem? (i := 61) rfl))) (Or.inl (hw _ (List.mem_of_getElem? (i := 18) rfl))) (by decide) (t := (.object "java/time/Duration")) (t' := (.object "com/example/keelreach/keelreach/ProtocolVersion")) (by decide) (by decide)))
  have c42 : Fld Z h31 a "com/example/keelreach/keelreach/RedisOptions" "autoPipeliningThreshold" "I" o_autoPipeliningThreshold := F_autoPipeliningThreshold.other W31 (Or.inr (slot_ne (Or.inl (hw _ (List.mem_of_getElem? (i := 63) rfl))) (Or.inl (hw _ (List.mem_of_getElem? (i := 18) rfl))) (by decide) (t := .int) (t' := (.object "com/example/keelreach/keelreach/ProtocolVersion")) (by decide) (by decide)))
  have c43 : Fld Z h31 a "com/example/keelreach/keelreach/RedisOptions" "trustedCertificates" "Ljava/util/List;" o_trustedCertificates := F_trustedCertificates.other W31 (Or.inr (slot_ne (Or.inl (hw _ (List.mem_of_getElem? (i := 71) rfl))) (Or.inl (hw _ (List.mem_of_getElem? (i := 18) rfl))) (by decide) (t := (.object "java/util/List")) (t' := (.object "com/example/keelreach/keelreach/ProtocolVersion")) (by decide) (by decide)))
  have c44 : Fld Z h31 a "com/example/keelreach/keelreach/RedisOptions" "verifyHostName" "Z" o_verifyHostName := F_verifyHostName.other W31 (Or.inr (slot_ne (Or.inl (hw _ (List.mem_of_getElem? (i := 73) rfl))) (Or.inl (hw _ (List.mem_of_getElem? (i := 18) rfl))) (by decide) (t := .boolean) (t' := (.object "com/example/keelreach/keelreach/ProtocolVersion")) (by decide) (by decide)))
  have c45 : Sta Z h31 "com/example/keelreach/keelreach/ProtocolVersion" "RESP3" "Lcom/example/keelreach/keelreach/ProtocolVersion;" (.ref w_RESP3) := S_RESP3.wr W31
  have c46 : Sta Z h31 "java/time/Duration" "ZERO" "Ljava/time/Duration;" (.ref w_ZERO) := S_ZERO.wr W31
  have c47 : Sta Z h31 "java/util/ImmutableCollections" "EMPTY_LIST" "Ljava/util/ImmutableCollections$ListN;" (.ref w_EL) := S_EL.wr W31
  obtain ⟨T48, h48, X48, e48, W48, st48⟩ := putF X31 hx hZ hown (host := "") (Or.inl (hw _ (List.mem_of_getElem? (i := 19) rfl))) Via.refl e31 c34 c32 (Or.inl (hw _ (List.mem_of_getElem? (i := 20) rfl))) (hw _ (List.mem_of_getElem? (i := 6) rfl)) (ty := .int) (by decide) rfl rfl (g := (mkF m 14 #[.val (.ref a)] [(.int (6 : Int32)), (.ref a)])) rfl rfl (hb hby d2_14)
  have N48 := Fr.snoc X48 N31 gg_a
  have K48 := Keep.wr K31 W48 (Or.inl (List.mem_of_getElem? (i := 0) rfl))
  have Zs48 := Nat.le_trans Zs31 (Keep.of_wr W48).1
  have c49 : Exa Z h48 a "com/example/keelreach/keelreach/RedisOptions" := c32.wr W48
  have c50 : Fld Z h48 a "com/example/keelreach/keelreach/RedisOptions" "preferredProtocolVersion" "Lcom/example/keelreach/keelreach/ProtocolVersion;" (.ref w_RESP3) := c33.other W48 (Or.inr (slot_ne (Or.inl (hw _ (List.mem_of_getElem? (i := 18) rfl))) (Or.inl (hw _ (List.mem_of_getElem? (i := 20) rfl))) (by decide) (t := (.object "com/example/keelreach/keelreach/ProtocolVersion")) (t' := .int) (by decide) (by decide)))
  have c51 : Fld Z h48 a "com/example/keelreach/keelreach/RedisOptions" "maxPoolSize" "I" (.int (6 : Int32)) := c34.same W48
  have c52 : Fld Z h48 a "com/example/keelreach/keelreach/RedisOptions" "maxPoolWaiting" "I" o_maxPoolWaiting := c35.other W48 (Or.inr (slot_ne (Or.inl (hw _ (List.mem_of_getElem? (i := 22) rfl))) (Or.inl (hw _ (List.mem_of_getElem? (i := 20) rfl))) (by decide) (t := .int) (t' := .int) (by decide) (by decide)))
  have c53 : Fld Z h48 a "com/example/keelreach/keelreach/RedisOptions" "poolCleanerInterval" "Ljava/time/Duration;" o_poolCleanerInterval := c36.other W48 (Or.inr (slot_ne (Or.inl (hw _ (List.mem_of_getElem? (i := 43) rfl))) (Or.inl (hw _ (List.mem_of_getElem? (i := 20) rfl))) (by decide) (t := (.object "java/time/Duration")) (t' := .int) (by decide) (by decide)))
  have c54 : Fld Z h48 a "com/example/keelreach/keelreach/RedisOptions" "poolRecycleTimeout" "Ljava/time/Duration;" o_poolRecycleTimeout := c37.other W48 (Or.inr (slot_ne (Or.inl (hw _ (List.mem_of_getElem? (i := 46) rfl))) (Or.inl (hw _ (List.mem_of_getElem? (i := 20) rfl))) (by decide) (t := (.object "java/time/Duration")) (t' := .int) (by decide) (by decide)))
  have c55 : Fld Z h48 a "com/example/keelreach/keelreach/RedisOptions" "connectTimeout" "Ljava/time/Duration;" o_connectTimeout := c38.other W48 (Or.inr (slot_ne (Or.inl (hw _ (List.mem_of_getElem? (i := 49) rfl))) (Or.inl (hw _ (List.mem_of_getElem? (i := 20) rfl))) (by decide) (t := (.object "java/time/Duration")) (t' := .int) (by decide) (by decide)))
  have c56 : Fld Z h48 a "com/example/keelreach/keelreach/RedisOptions" "commandTimeout" "Ljava/time/Duration;" o_commandTimeout := c39.other W48 (Or.inr (slot_ne (Or.inl (hw _ (List.mem_of_getElem? (i := 52) rfl))) (Or.inl (hw _ (List.mem_of_getElem? (i := 20) rfl))) (by decide) (t := (.object "java/time/Duration")) (t' := .int) (by decide) (by decide)))
  have c57 : Fld Z h48 a "com/example/keelreach/keelreach/RedisOptions" "maxCommandsInFlight" "I" o_maxCommandsInFlight := c40.other W48 (Or.inr (slot_ne (Or.inl (hw _ (List.mem_of_getElem? (i := 54) rfl))) (Or.inl (hw _ (List.mem_of_getElem? (i := 20) rfl))) (by decide) (t := .int) (t' := .int) (by decide) (by decide)))
  have c58 : Fld Z h48 a "com/example/keelreach/keelreach/RedisOptions" "autoPipeliningInterval" "Ljava/time/Duration;" o_autoPipeliningInterval := c41.other W48 (Or.inr (slot_ne (Or.inl (hw _ (List.mem_of_getElem? (i := 61) rfl))) (Or.inl (hw _ (List.mem_of_getElem? (i := 20) rfl))) (by decide) (t := (.object "java/time/Duration")) (t' := .int) (by decide) (by decide)))
  have c59 : Fld Z h48 a "com/example/keelreach/keelreach/RedisOptions" "autoPipeliningThreshold" "I" o_autoPipeliningThreshold := c42.other W48 (Or.inr (slot_ne (Or.inl (hw _ (List.mem_of_getElem? (i := 63) rfl))) (Or.inl (hw _ (List.mem_of_getElem? (i := 20) rfl))) (by decide) (t := .int) (t' := .int) (by decide) (by decide)))
  have c60 : Fld Z h48 a "com/example/keelreach/keelreach/RedisOptions" "trustedCertificates" "Ljava/util/List;" o_trustedCertificates := c43.other W48 (Or.inr (slot_ne (Or.inl (hw _ (List.mem_of_getElem? (i := 71) rfl))) (Or.inl (hw _ (List.mem_of_getElem? (i := 20) rfl))) (by decide) (t := (.object "java/util/List")) (t' := .int) (by decide) (by decide)))
  have c61 : Fld Z h48 a "com/example/keelreach/keelreach/RedisOptions" "verifyHostName" "Z" o_verifyHostName := c44.other W48 (Or.inr (slot_ne (Or.inl (hw _ (List.mem_of_getElem? (i := 73) rfl))) (Or.inl (hw _ (List.mem_of_getElem? (i := 20) rfl))) (by decide) (t := .boolean) (t' := .int) (by decide) (by decide)))
  have c62 : Sta Z h48 "com/example/keelreach/keelreach/ProtocolVersion" "RESP3" "Lcom/example/keelreach/keelreach/ProtocolVersion;" (.ref w_RESP3) := c45.wr W48
  have c63 : Sta Z h48 "java/time/Duration" "ZERO" "Ljava/time/Duration;" (.ref w_ZERO) := c46.wr W48
  have c64 : Sta Z h48 "java/util/ImmutableCollections" "EMPTY_LIST" "Ljava/util/ImmutableCollections$ListN;" (.ref w_EL) := c47.wr W48
  obtain ⟨T65, h65, X65, e65, W65, st65⟩ := putF X48 hx hZ hown (host := "") (Or.inl (hw _ (List.mem_of_getElem? (i := 21) rfl))) Via.refl e48 c52 c49 (Or.inl (hw _ (List.mem_of_getElem? (i := 22) rfl))) (hw _ (List.mem_of_getElem? (i := 6) rfl)) (ty := .int) (by decide) rfl rfl (g := (mkF m 20 #[.val (.ref a)] [(.int (24 : Int32)), (.ref a)])) rfl rfl (hb hby d2_20)
  have N65 := Fr.snoc X65 N48 gg_a
  have K65 := Keep.wr K48 W65 (Or.inl (List.mem_of_getElem? (i := 0) rfl))
  have Zs65 := Nat.le_trans Zs48 (Keep.of_wr W65).1
  have c66 : Exa Z h65 a "com/example/keelreach/keelreach/RedisOptions" := c49.wr W65
  have c67 : Fld Z h65 a "com/example/keelreach/keelreach/RedisOptions" "preferredProtocolVersion" "Lcom/example/keelreach/keelreach/ProtocolVersion;" (.ref w_RESP3) := c50.other W65 (Or.inr (slot_ne (Or.inl (hw _ (List.mem_of_getElem? (i := 18) rfl))) (Or.inl (hw _ (List.mem_of_getElem? (i := 22) rfl))) (by decide) (t := (.object "com/example/keelreach/keelreach/ProtocolVersion")) (t' := .int) (by decide) (by decide)))
  have c68 : Fld Z h65 a "com/example/keelreach/keelreach/RedisOptions" "maxPoolSize" "I" (.int (6 : Int32)) := c51.other W65 (Or.inr (slot_ne (Or.inl (hw _ (List.mem_of_getElem? (i := 20) rfl))) (Or.inl (hw _ (List.mem_of_getElem? (i := 22) rfl))) (by decide) (t := .int) (t' := .int) (by decide) (by decide)))
  have c69 : Fld Z h65 a "com/example/keelreach/keelreach/RedisOptions" "maxPoolWaiting" "I" (.int (24 : Int32)) := c52.same W65
  have c70 : Fld Z h65 a "com/example/keelreach/keelreach/RedisOptions" "poolCleanerInterval" "Ljava/time/Duration;" o_poolCleanerInterval := c53.other W65 (Or.inr (slot_ne (Or.inl (hw _ (List.mem_of_getElem? (i := 43) rfl))) (Or.inl (hw _ (List.mem_of_getElem? (i := 22) rfl))) (by decide) (t := (.object "java/time/Duration")) (t' := .int) (by decide) (by decide)))
  have c71 : Fld Z h65 a "com/example/keelreach/keelreach/RedisOptions" "poolRecycleTimeout" "Ljava/time/Duration;" o_poolRecycleTimeout := c54.other W65 (Or.inr (slot_ne (Or.inl (hw _ (List.mem_of_getElem? (i := 46) rfl))) (Or.inl (hw _ (List.mem_of_getElem? (i := 22) rfl))) (by decide) (t := (.object "java/time/Duration")) (t' := .int) (by decide) (by decide)))
  have c72 : Fld Z h65 a "com/example/keelreach/keelreach/RedisOptions" "connectTimeout" "Ljava/time/Duration;" o_connectTimeout := c55.other W65 (Or.inr (slot_ne (Or.inl (hw _ (List.mem_of_getElem? (i := 49) rfl))) (Or.inl (hw _ (List.mem_of_getElem? (i := 22) rfl))) (by decide) (t := (.object "java/time/Duration")) (t' := .int) (by decide) (by decide)))
  have c73 : Fld Z h65 a "com/example/keelreach/keelreach/RedisOptions" "commandTimeout" "Ljava/time/Duration;" o_commandTimeout := c56.other W65 (Or.inr (slot_ne (Or.inl (hw _ (List.mem_of_getElem? (i := 52) rfl))) (Or.inl (hw _ (List.mem_of_getElem? (i := 22) rfl))) (by decide) (t := (.object "java/time/Duration")) (t' := .int) (by decide) (by decide)))
  have c74 : Fld Z h65 a "com/example/keelreach/keelreach/RedisOptions" "maxCommandsInFlight" "I" o_maxCommandsInFlight := c57.other W65 (Or.inr (slot_ne (Or.inl (hw _ (List.mem_of_getElem? (i := 54) rfl))) (Or.inl (hw _ (List.mem_of_getElem? (i := 22) rfl))) (by decide) (t := .int) (t' := .int) (by decide) (by decide)))
  have c75 : Fld Z h65 a "com/example/keelreach/keelreach/RedisOptions" "autoPipeliningInterval" "Ljava/time/Duration;" o_autoPipeliningInterval := c58.other W65 (Or.inr (slot_ne (Or.inl (hw _ (List.mem_of_getElem? (i := 61) rfl))) (Or.inl (hw _ (List.mem_of_getElem? (i := 22) rfl))) (by decide) (t := (.object "java/time/Duration")) (t' := .int) (by decide) (by decide)))
  have c76 : Fld Z h65 a "com/example/keelreach/keelreach/RedisOptions" "autoPipeliningThreshold" "I" o_autoPipeliningThreshold := c59.other W65 (Or.inr (slot_ne (Or.inl (hw _ (List.mem_of_getElem? (i := 63) rfl))) (Or.inl (hw _ (List.mem_of_getElem? (i := 22) rfl))) (by decide) (t := .int) (t' := .int) (by decide) (by decide)))
  have c77 : Fld Z h65 a "com/example/keelreach/keelreach/RedisOptions" "trustedCertificates" "Ljava/util/List;" o_trustedCertificates := c60.other W65 (Or.inr (slot_ne (Or.inl (hw _ (List.mem_of_getElem? (i := 71) rfl))) (Or.inl (hw _ (List.mem_of_getElem? (i := 22) rfl))) (by decide) (t := (.object "java/util/List")) (t' := .int) (by decide) (by decide)))
  have c78 : Fld Z h65 a "com/example/keelreach/keelreach/RedisOptions" "verifyHostName" "Z" o_verifyHostName := c61.other W65 (Or.inr (slot_ne (Or.inl (hw _ (List.mem_of_getElem? (i := 73) rfl))) (Or.inl (hw _ (List.mem_of_getElem? (i := 22) rfl))) (by decide) (t := .boolean) (t' := .int) (by decide) (by decide)))
  have c79 : Sta Z h65 "com/example/keelreach/keelreach/ProtocolVersion" "RESP3" "Lcom/example/keelreach/keelreach/ProtocolVersion;" (.ref w_RESP3) := c62.wr W65
  have c80 : Sta Z h65 "java/time/Duration" "ZERO" "Ljava/time/Duration;" (.ref w_ZERO) := c63.wr W65
  have c81 : Sta Z h65 "java/util/ImmutableCollections" "EMPTY_LIST" "Ljava/util/ImmutableCollections$ListN;" (.ref w_EL) := c64.wr W65
  obtain ⟨v82, _, ⟨T82, L82, k82, n82⟩, -, X82, ⟨Lc82, hQ82, l82, y82, z82⟩, st82⟩ := Jvm.LawKit.callS X65 hx (y := (⟨"java/time/Duration", "ofSeconds", "(J)Ljava/time/Duration;"⟩ : MethodName)) hown (mvT hZ (hw _ (List.mem_of_getElem? (i := 24) rfl))) (mvT hZ (hw _ (List.mem_of_getElem? (i := 25) rfl))) (mvT hZ (hw _ (List.mem_of_getElem? (i := 26) rfl))) (mvT hZ (hw _ (List.mem_of_getElem? (i := 27) rfl))) (by decide) (backOf (W := 1) (rm_ofs l Z a0 hw [] (30 : Int64) h65 n0 Zs65 (by decide)) hZ (hw _ (List.mem_of_getElem? (i := 27) rfl)) (hw _ (List.mem_of_getElem? (i := 26) rfl)) (by decide) (by decide)) (g := (mkF m 27 #[.val (.ref a)] [(.long (30 : Int64)), (.ref a)])) rfl (by rw [hml]; rfl) (argsL := [(.long (30 : Int64))]) (rest := [(.ref a)]) (lenOf pd_2 rfl) rfl (by show 2 * 0 + _ ≤ _; exact Nat.le_of_eq rfl) (hb hby d2_27) (fun _ _ => ⟨rfl, e65, (by decide : 0 + 1 ≤ _), (by decide : 0 + 2 ≤ _)⟩)
  dsimp only [Pt.U, Pt.locs, Pt.cells, Pt.slots] at X82 l82 y82 z82 st82 hQ82
  subst l82 y82 z82
  obtain ⟨⟨r82, hv82⟩, N82q, M82⟩ := hQ82
  have N82 := Fr.app N65 N82q
  subst hv82
  have K83 := Keep.ext K65 M82
  have Zs83 := Nat.le_trans Zs65 (M82).1
  have c84 : Exa Z T82.heap a "com/example/keelreach/keelreach/RedisOptions" := c66.ext M82
  have c85 : Fld Z T82.heap a "com/example/keelreach/keelreach/RedisOptions" "preferredProtocolVersion" "Lcom/example/keelreach/keelreach/ProtocolVersion;" (.ref w_RESP3) := c67.ext M82
  have c86 : Fld Z T82.heap a "com/example/keelreach/keelreach/RedisOptions" "maxPoolSize" "I" (.int (6 : Int32)) := c68.ext M82
  have c87 : Fld Z T82.heap a "com/example/keelreach/keelreach/RedisOptions" "maxPoolWaiting" "I" (.int (24 : Int32)) := c69.ext M82
  have c88 : Fld Z T82.heap a "com/example/keelreach/keelreach/RedisOptions" "poolCleanerInterval" "Ljava/time/Duration;" o_poolCleanerInterval := c70.ext M82
  have c89 : Fld Z T82.heap a "com/example/keelreach/keelreach/RedisOptions" "poolRecycleTimeout" "Ljava/time/Duration;" o_poolRecycleTimeout := c71.ext M82
  have c90 : Fld Z T82.heap a "com/example/keelreach/keelreach/RedisOptions" "connectTimeout" "Ljava/time/Duration;" o_connectTimeout := c72.ext M82
  have c91 : Fld Z T82.heap a "com/example/keelreach/keelreach/RedisOptions" "commandTimeout" "Ljava/time/Duration;" o_commandTimeout := c73.ext M82
  have c92 : Fld Z T82.heap a "com/example/keelreach/keelreach/RedisOptions" "maxCommandsInFlight" "I" o_maxCommandsInFlight := c74.ext M82
  have c93 : Fld Z T82.heap a "com/example/keelreach/keelreach/RedisOptions" "autoPipeliningInterval" "Ljava/time/Duration;" o_autoPipeliningInterval := c75.ext M82
  have c94 : Fld Z T82.heap a "com/example/keelreach/keelreach/RedisOptions" "autoPipeliningThreshold" "I" o_autoPipeliningThreshold := c76.ext M82
  have c95 : Fld Z T82.heap a "com/example/keelreach/keelreach/RedisOptions" "trustedCertificates" "Ljava/util/List;" o_trustedCertificates := c77.ext M82
  have c96 : Fld Z T82.heap a "com/example/keelreach/keelreach/RedisOptions" "verifyHostName" "Z" o_verifyHostName := c78.ext M82
  have c97 : Sta Z T82.heap "com/example/keelreach/keelreach/ProtocolVersion" "RESP3" "Lcom/example/keelreach/keelreach/ProtocolVersion;" (.ref w_RESP3) := c79.ext M82
  have c98 : Sta Z T82.heap "java/time/Duration" "ZERO" "Ljava/time/Duration;" (.ref w_ZERO) := c80.ext M82
  have c99 : Sta Z T82.heap "java/util/ImmutableCollections" "EMPTY_LIST" "Ljava/util/ImmutableCollections$ListN;" (.ref w_EL) := c81.ext M82
  obtain ⟨T100, h100, X100, e100, W100, st100⟩ := putF X82 hx hZ hown (host := "") (Or.inl (hw _ (List.mem_of_getElem? (i := 42) rfl))) Via.refl rfl c88 c84 (Or.inl (hw _ (List.mem_of_getElem? (i := 43) rfl))) (hw _ (List.mem_of_getElem? (i := 6) rfl)) (ty := (.object "java/time/Duration")) (by decide) rfl rfl (g := (mkF m 30 #[.val (.ref a)] [(.ref r82), (.ref a)])) rfl rfl (hb hby d2_30)
  have N100 := Fr.snoc X100 N82 gg_a
  have K100 := Keep.wr K83 W100 (Or.inl (List.mem_of_getElem? (i := 0) rfl))
  have Zs100 := Nat.le_trans Zs83 (Keep.of_wr W100).1
  have c101 : Exa Z h100 a "com/example/keelreach/keelreach/RedisOptions" := c84.wr W100
  have c102 : Fld Z h100 a "com/example/keelreach/keelreach/RedisOptions" "preferredProtocolVersion" "Lcom/example/keelreach/keelreach/ProtocolVersion;" (.ref w_RESP3) := c85.other W100 (Or.inr (slot_ne (Or.inl (hw _ (List.mem_of_getElem? (i := 18) rfl))) (Or.inl (hw _ (List.mem_of_getElem? (i := 43) rfl))) (by decide) (t := (.object "com/example/keelreach/keelreach/ProtocolVersion")) (t' := (.object "java/time/Duration")) (by decide) (by decide)))
  have c103 : Fld Z h100 a "com/example/keelreach/keelreach/RedisOptions" "maxPoolSize" "I" (.int (6 : Int32)) := c86.other W100 (Or.inr (slot_ne (Or.inl (hw _ (List.mem_of_getElem? (i := 20) rfl))) (Or.inl (hw _ (List.mem_of_getElem? (i := 43) rfl))) (by decide) (t := .int) (t' := (.object "java/time/Duration")) (by decide) (by decide)))
  have c104 : Fld Z h100 a "com/example/keelreach/keelreach/RedisOptions" "maxPoolWaiting" "I" (.int (24 : Int32)) := c87.other W100 (Or.inr (slot_ne (Or.inl (hw _ (List.mem_of_getElem? (i := 22) rfl))) (Or.inl (hw _ (List.mem_of_getElem? (i := 43) rfl))) (by decide) (t := .int) (t' := (.object "java/time/Duration")) (by decide) (by decide)))
  have c105 : Fld Z h100 a "com/example/keelreach/keelreach/RedisOptions" "poolCleanerInterval" "Ljava/time/Duration;" (.ref r82) := c88.same W100
  have c106 : Fld Z h100 a "com/example/keelreach/keelreach/RedisOptions" "poolRecycleTimeout" "Ljava/time/Duration;" o_poolRecycleTimeout := c89.other W100 (Or.inr (slot_ne (Or.inl (hw _ (List.mem_of_getElem? (i := 46) rfl))) (Or.inl (hw _ (List.mem_of_getElem? (i := 43) rfl))) (by decide) (t := (.object "java/time/Duration")) (t' := (.object "java/time/Duration")) (by decide) (by decide)))
  have c107 : Fld Z h100 a "com/example/keelreach/keelreach/RedisOptions" "connectTimeout" "Ljava/time/Duration;" o_connectTimeout := c90.other W100 (Or.inr (slot_ne (Or.inl (hw _ (List.mem_of_getElem? (i := 49) rfl))) (Or.inl (hw _ (List.mem_of_getElem? (i := 43) rfl))) (by decide) (t := (.object "java/time/Duration")) (t' := (.object "java/time/Duration")) (by decide) (by decide)))
  have c108 : Fld Z h100 a "com/example/keelreach/keelreach/RedisOptions" "commandTimeout" "Ljava/time/Duration;" o_commandTimeout := c91.other W100 (Or.inr (slot_ne (Or.inl (hw _ (List.mem_of_getElem? (i := 52) rfl))) (Or.inl (hw _ (List.mem_of_getElem? (i := 43) rfl))) (by decide) (t := (.object "java/time/Duration")) (t' := (.object "java/time/Duration")) (by decide) (by decide)))
  have c109 : Fld Z h100 a "com/example/keelreach/keelreach/RedisOptions" "maxCommandsInFlight" "I" o_maxCommandsInFlight := c92.other W100 (Or.inr (slot_ne (Or.inl (hw _ (List.mem_of_getElem? (i := 54) rfl))) (Or.inl (hw _ (List.mem_of_getElem? (i := 43) rfl))) (by decide) (t := .int) (t' := (.object "java/time/Duration")) (by decide) (by decide)))
  have c110 : Fld Z h100 a "com/example/keelreach/keelreach/RedisOptions" "autoPipeliningInterval" "Ljava/time/Duration;" o_autoPipeliningInterval := c93.other W100 (Or.inr (slot_ne (Or.inl (hw _ (List.mem_of_getElem? (i := 61) rfl))) (Or.inl (hw _ (List.mem_of_getElem? (i := 43) rfl))) (by decide) (t := (.object "java/time/Duration")) (t' := (.object "java/time/Duration")) (by decide) (by decide)))
  have c111 : Fld Z h100 a "com/example/keelreach/keelreach/RedisOptions" "autoPipeliningThreshold" "I" o_autoPipeliningThreshold := c94.other W100 (Or.inr (slot_ne (Or.inl (hw _ (List.mem_of_getElem? (i := 63) rfl))) (Or.inl (hw _ (List.mem_of_getElem? (i := 43) rfl))) (by decide) (t := .int) (t' := (.object "java/time/Duration")) (by decide) (by decide)))
  have c112 : Fld Z h100 a "com/example/keelreach/keelreach/RedisOptions" "trustedCertificates" "Ljava/util/List;" o_trustedCertificates := c95.other W100 (Or.inr (slot_ne (Or.inl (hw _ (List.mem_of_getElem? (i := 71) rfl))) (Or.inl (hw _ (List.mem_of_getElem? (i := 43) rfl))) (by decide) (t := (.object "java/util/List")) (t' := (.object "java/time/Duration")) (by decide) (by decide)))
  have c113 : Fld Z h100 a "com/example/keelreach/keelreach/RedisOptions" "verifyHostName" "Z" o_verifyHostName := c96.other W100 (Or.inr (slot_ne (Or.inl (hw _ (List.mem_of_getElem? (i := 73) rfl))) (Or.inl (hw _ (List.mem_of_getElem? (i := 43) rfl))) (by decide) (t := .boolean) (t' := (.object "java/time/Duration")) (by decide) (by decide)))
  have c114 : Sta Z h100 "com/example/keelreach/keelreach/ProtocolVersion" "RESP3" "Lcom/example/keelreach/keelreach/ProtocolVersion;" (.ref w_RESP3) := c97.wr W100
  have c115 : Sta Z h100 "java/time/Duration" "ZERO" "Ljava/time/Duration;" (.ref w_ZERO) := c98.wr W100
  have c116 : Sta Z h100 "java/util/ImmutableCollections" "EMPTY_LIST" "Ljava/util/ImmutableCollections$ListN;" (.ref w_EL) := c99.wr W100
  obtain ⟨v117, _, ⟨T117, L117, k117, n117⟩, -, X117, ⟨Lc117, hQ117, l117, y117, z117⟩, st117⟩ := Jvm.LawKit.callS X100 hx (y := (⟨"java/time/Duration", "ofSeconds", "(J)Ljava/time/Duration;"⟩ : MethodName)) hown (mvT hZ (hw _ (List.mem_of_getElem? (i := 24) rfl))) (mvT hZ (hw _ (List.mem_of_getElem? (i := 25) rfl))) (mvT hZ (hw _ (List.mem_of_getElem? (i := 26) rfl))) (mvT hZ (hw _ (List.mem_of_getElem? (i := 27) rfl))) (by decide) (backOf (W := 1) (rm_ofs l Z a0 hw [] (180 : Int64) h100 n0 Zs100 (by decide)) hZ (hw _ (List.mem_of_getElem? (i := 27) rfl)) (hw _ (List.mem_of_getElem? (i := 26) rfl)) (by decide) (by decide)) (g := (mkF m 37 #[.val (.ref a)] [(.long (180 : Int64)), (.ref a)])) rfl (by rw [hml]; rfl) (argsL := [(.long (180 : Int64))]) (rest := [(.ref a)]) (lenOf pd_2 rfl) rfl (by show 2 * 0 + _ ≤ _; exact Nat.le_of_eq rfl) (hb hby d2_37) (fun _ _ => ⟨rfl, e100, (by decide : 1 + 1 ≤ _), (by decide : 2 + 2 ≤ _)⟩)
  dsimp only [Pt.U, Pt.locs, Pt.cells, Pt.slots] at X117 l117 y117 z117 st117 hQ117
  subst l117 y117 z117
  obtain ⟨⟨r117, hv117⟩, N117q, M117⟩ := hQ117
  have N117 := Fr.app N100 N117q
  subst hv117
  have K118 := Keep.ext K100 M117
  have Zs118 := Nat.le_trans Zs100 (M117).1
  have c119 : Exa Z T117.heap a "com/example/keelreach/keelreach/RedisOptions" := c101.ext M117
  have c120 : Fld Z T117.heap a "com/example/keelreach/keelreach/RedisOptions" "preferredProtocolVersion" "Lcom/example/keelreach/keelreach/ProtocolVersion;" (.ref w_RESP3) := c102.ext M117
  have c121 : Fld Z T117.heap a "com/example/keelreach/keelreach/RedisOptions" "maxPoolSize" "I" (.int (6 : Int32)) := c103.ext M117
  have c122 : Fld Z T117.heap a "com/example/keelreach/keelreach/RedisOptions" "maxPoolWaiting" "I" (.int (24 : Int32)) := c104.ext M117
  have c123 : Fld Z T117.heap a "com/example/keelreach/keelreach/RedisOptions" "poolCleanerInterval" "Ljava/time/Duration;" (.ref r82) := c105.ext M117
  have c124 : Fld Z T117.heap a "com/example/keelreach/keelreach/RedisOptions" "poolRecycleTimeout" "Ljava/time/Duration;" o_poolRecycleTimeout := c106.ext M117
  have c125 : Fld Z T117.heap a "com/example/keelreach/keelreach/RedisOptions" "connectTimeout" "Ljava/time/Duration;" o_connectTimeout := c107.ext M117
  have c126 : Fld Z T117.heap a "com/example/keelreach/keelreach/RedisOptions" "commandTimeout" "Ljava/time/Duration;" o_commandTimeout := c108.ext M117
  have c127 : Fld Z T117.heap a "com/example/keelreach/keelreach/RedisOptions" "maxCommandsInFlight" "I" o_maxCommandsInFlight := c109.ext M117
  have c128 : Fld Z T117.heap a "com/example/keelreach/keelreach/RedisOptions" "autoPipeliningInterval" "Ljava/time/Duration;" o_autoPipeliningInterval := c110.ext M117
  have c129 : Fld Z T117.heap a "com/example/keelreach/keelreach/RedisOptions" "autoPipeliningThreshold" "I" o_autoPipeliningThreshold := c111.ext M117
  have c130 : Fld Z T117.heap a "com/example/keelreach/keelreach/RedisOptions" "trustedCertificates" "Ljava/util/List;" o_trustedCertificates := c112.ext M117
  have c131 : Fld Z T117.heap a "com/example/keelreach/keelreach/RedisOptions" "verifyHostName" "Z" o_verifyHostName := c113.ext M117
  have c132 : Sta Z T117.heap "com/example/keelreach/keelreach/ProtocolVersion" "RESP3" "Lcom/example/keelreach/keelreach/ProtocolVersion;" (.ref w_RESP3) := c114.ext M117
  have c133 : Sta Z T117.heap "java/time/Duration" "ZERO" "Ljava/time/Duration;" (.ref w_ZERO) := c115.ext M117
  have c134 : Sta Z T117.heap "java/util/ImmutableCollections" "EMPTY_LIST" "Ljava/util/ImmutableCollections$ListN;" (.ref w_EL) := c116.ext M117
  obtain ⟨T135, h135, X135, e135, W135, st135⟩ := putF X117 hx hZ hown (host := "") (Or.inl (hw _ (List.mem_of_getElem? (i := 45) rfl))) Via.refl rfl c124 c119 (Or.inl (hw _ (List.mem_of_getElem? (i := 46) rfl))) (hw _ (List.mem_of_getElem? (i := 6) rfl)) (ty := (.object "java/time/Duration")) (by decide) rfl rfl (g := (mkF m 40 #[.val (.ref a)] [(.ref r117), (.ref a)])) rfl rfl (hb hby d2_40)
  have N135 := Fr.snoc X135 N117 gg_a
  have K135 := Keep.wr K118 W135 (Or.inl (List.mem_of_getElem? (i := 0) rfl))
  have Zs135 := Nat.le_trans Zs118 (Keep.of_wr W135).1
  have c136 : Exa Z h135 a "com/example/keelreach/keelreach/RedisOptions" := c119.wr W135
  have c137 : Fld Z h135 a "com/example/keelreach/keelreach/RedisOptions" "preferredProtocolVersion" "Lcom/example/keelreach/keelreach/ProtocolVersion;" (.ref w_RESP3) := c120.other W135 (Or.inr (slot_ne (Or.inl (hw _ (List.mem_of_getElem? (i := 18) rfl))) (Or.inl (hw _ (List.mem_of_getElem? (i := 46) rfl))) (by decide) (t := (.object "com/example/keelreach/keelreach/ProtocolVersion")) (t' := (.object "java/time/Duration")) (by decide) (by decide)))
  have c138 : Fld Z h135 a "com/example/keelreach/keelreach/RedisOptions" "maxPoolSize" "I" (.int (6 : Int32)) := c121.other W135 (Or.inr (slot_ne (Or.inl (hw _ (List.mem_of_getElem? (i := 20) rfl))) (Or.inl (hw _ (List.mem_of_getElem? (i := 46) rfl))) (by decide) (t := .int) (t' := (.object "java/time/Duration")) (by decide) (by decide)))
  have c139 : Fld Z h135 a "com/example/keelreach/keelreach/RedisOptions" "maxPoolWaiting" "I" (.int (24 : Int32)) := c122.other W135 (Or.inr (slot_ne (Or.inl (hw _ (List.mem_of_getElem? (i := 22) rfl))) (Or.inl (hw _ (List.mem_of_getElem? (i := 46) rfl))) (by decide) (t := .int) (t' := (.object "java/time/Duration")) (by decide) (by decide)))
  have c140 : Fld Z h135 a "com/example/keelreach/keelreach/RedisOptions" "poolCleanerInterval" "Ljava/time/Duration;" (.ref r82) := c123.other W135 (Or.inr (slot_ne (Or.inl (hw _ (List.mem_of_getElem? (i := 43) rfl))) (Or.inl (hw _ (List.mem_of_getElem? (i := 46) rfl))) (by decide) (t := (.object "java/time/Duration")) (t' := (.object "java/time/Duration")) (by decide) (by decide)))
  have c141 : Fld Z h135 a "com/example/keelreach/keelreach/RedisOptions" "poolRecycleTimeout" "Ljava/time/Duration;" (.ref r117) := c124.same W135
  have c142 : Fld Z h135 a "com/example/keelreach/keelreach/RedisOptions" "connectTimeout" "Ljava/time/Duration;" o_connectTimeout := c125.other W135 (Or.inr (slot_ne (Or.inl (hw _ (List.mem_of_getElem? (i := 49) rfl))) (Or.inl (hw _ (List.mem_of_getElem? (i := 46) rfl))) (by decide) (t := (.object "java/time/Duration")) (t' := (.object "java/time/Duration")) (by decide) (by decide)))
  have c143 : Fld Z h135 a "com/example/keelreach/keelreach/RedisOptions" "commandTimeout" "Ljava/time/Duration;" o_commandTimeout := c126.other W135 (Or.inr (slot_ne (Or.inl (hw _ (List.mem_of_getElem? (i := 52) rfl))) (Or.inl (hw _ (List.mem_of_getElem? (i := 46) rfl))) (by decide) (t := (.object "java/time/Duration")) (t' := (.object "java/time/Duration")) (by decide) (by decide)))
  have c144 : Fld Z h135 a "com/example/keelreach/keelreach/RedisOptions" "maxCommandsInFlight" "I" o_maxCommandsInFlight := c127.other W135 (Or.inr (slot_ne (Or.inl (hw _ (List.mem_of_getElem? (i := 54) rfl))) (Or.inl (hw _ (List.mem_of_getElem? (i := 46) rfl))) (by decide) (t := .int) (t' := (.object "java/time/Duration")) (by decide) (by decide)))
  have c145 : Fld Z h135 a "com/example/keelreach/keelreach/RedisOptions" "autoPipeliningInterval" "Ljava/time/Duration;" o_autoPipeliningInterval := c128.other W135 (Or.inr (slot_ne (Or.inl (hw _ (List.mem_of_getElem? (i := 61) rfl))) (Or.inl (hw _ (List.mem_of_getElem? (i := 46) rfl))) (by decide) (t := (.object "java/time/Duration")) (t' := (.object "java/time/Duration")) (by decide) (by decide)))
  have c146 : Fld Z h135 a "com/example/keelreach/keelreach/RedisOptions" "autoPipeliningThreshold" "I" o_autoPipeliningThreshold := c129.other W135 (Or.inr (slot_ne (Or.inl (hw _ (List.mem_of_getElem? (i := 63) rfl))) (Or.inl (hw _ (List.mem_of_getElem? (i := 46) rfl))) (by decide) (t := .int) (t' := (.object "java/time/Duration")) (by decide) (by decide)))
  have c147 : Fld Z h135 a "com/example/keelreach/keelreach/RedisOptions" "trustedCertificates" "Ljava/util/List;" o_trustedCertificates := c130.other W135 (Or.inr (slot_ne (Or.inl (hw _ (List.mem_of_getElem? (i := 71) rfl))) (Or.inl (hw _ (List.mem_of_getElem? (i := 46) rfl))) (by decide) (t := (.object "java/util/List")) (t' := (.object "java/time/Duration")) (by decide) (by decide)))
  have c148 : Fld Z h135 a "com/example/keelreach/keelreach/RedisOptions" "verifyHostName" "Z" o_verifyHostName := c131.other W135 (Or.inr (slot_ne (Or.inl (hw _ (List.mem_of_getElem? (i := 73) rfl))) (Or.inl (hw _ (List.mem_of_getElem? (i := 46) rfl))) (by decide) (t := .boolean) (t' := (.object "java/time/Duration")) (by decide) (by decide)))
  have c149 : Sta Z h135 "com/example/keelreach/keelreach/ProtocolVersion" "RESP3" "Lcom/example/keelreach/keelreach/ProtocolVersion;" (.ref w_RESP3) := c132.wr W135
  have c150 : Sta Z h135 "java/time/Duration" "ZERO" "Ljava/time/Duration;" (.ref w_ZERO) := c133.wr W135
  have c151 : Sta Z h135 "java/util/ImmutableCollections" "EMPTY_LIST" "Ljava/util/ImmutableCollections$ListN;" (.ref w_EL) := c134.wr W135
  obtain ⟨v152, _, ⟨T152, L152, k152, n152⟩, -, X152, ⟨Lc152, hQ152, l152, y152, z152⟩, st152⟩ := Jvm.LawKit.callS X135 hx (y := (⟨"java/time/Duration", "ofSeconds", "(J)Ljava/time/Duration;"⟩ : MethodName)) hown (mvT hZ (hw _ (List.mem_of_getElem? (i := 24) rfl))) (mvT hZ (hw _ (List.mem_of_getElem? (i := 25) rfl))) (mvT hZ (hw _ (List.mem_of_getElem? (i := 26) rfl))) (mvT hZ (hw _ (List.mem_of_getElem? (i := 27) rfl))) (by decide) (backOf (W := 1) (rm_ofs l Z a0 hw [] (10 : Int64) h135 n0 Zs135 (by decide)) hZ (hw _ (List.mem_of_getElem? (i := 27) rfl)) (hw _ (List.mem_of_getElem? (i := 26) rfl)) (by decide) (by decide)) (g := (mkF m 47 #[.val (.ref a)] [(.long (10 : Int64)), (.ref a)])) rfl (by rw [hml]; rfl) (argsL := [(.long (10 : Int64))]) (rest := [(.ref a)]) (lenOf pd_2 rfl) rfl (by show 2 * 0 + _ ≤ _; exact Nat.le_of_eq rfl) (hb hby d2_47) (fun _ _ => ⟨rfl, e135, (by decide : 2 + 1 ≤ _), (by decide : 4 + 2 ≤ _)⟩)
  dsimp only [Pt.U, Pt.locs, Pt.cells, Pt.slots] at X152 l152 y152 z152 st152 hQ152
  subst l152 y152 z152
  obtain ⟨⟨r152, hv152⟩, N152q, M152⟩ := hQ152
  have N152 := Fr.app N135 N152q
  subst hv152
  have K153 := Keep.ext K135 M152
  have Zs153 := Nat.le_trans Zs135 (M152).1
  have c154 : Exa Z T152.heap a "com/example/keelreach/keelreach/RedisOptions" := c136.ext M152
  have c155 : Fld Z T152.heap a "com/example/keelreach/keelreach/RedisOptions" "preferredProtocolVersion" "Lcom/example/keelreach/keelreach/ProtocolVersion;" (.ref w_RESP3) := c137.ext M152
  have c156 : Fld Z T152.heap a "com/example/keelreach/keelreach/RedisOptions" "maxPoolSize" "I" (.int (6 : Int32)) := c138.ext M152
  have c157 : Fld Z T152.heap a "com/example/keelreach/keelreach/RedisOptions" "maxPoolWaiting" "I" (.int (24 : Int32)) := c139.ext M152
  have c158 : Fld Z T152.heap a "com/example/keelreach/keelreach/RedisOptions" "poolCleanerInterval" "Ljava/time/Duration;" (.ref r82) := c140.ext M152
  have c159 : Fld Z T152.heap a "com/example/keelreach/keelreach/RedisOptions" "poolRecycleTimeout" "Ljava/time/Duration;" (.ref r117) := c141.ext M152
  have c160 : Fld Z T152.heap a "com/example/keelreach/keelreach/RedisOptions" "connectTimeout" "Ljava/time/Duration;" o_connectTimeout := c142.ext M152
  have c161 : Fld Z T152.heap a "com/example/keelreach/keelreach/RedisOptions" "commandTimeout" "Ljava/time/Duration;" o_commandTimeout := c143.ext M152
  have c162 : Fld Z T152.heap a "com/example/keelreach/keelreach/RedisOptions" "maxCommandsInFlight" "I" o_maxCommandsInFlight := c144.ext M152
  have c163 : Fld Z T152.heap a "com/example/keelreach/keelreach/RedisOptions" "autoPipeliningInterval" "Ljava/time/Duration;" o_autoPipeliningInterval := c145.ext M152
  have c164 : Fld Z T152.heap a "com/example/keelreach/keelreach/RedisOptions" "autoPipeliningThreshold" "I" o_autoPipeliningThreshold := c146.ext M152
  have c165 : Fld Z T152.heap a "com/example/keelreach/keelreach/RedisOptions" "trustedCertificates" "Ljava/util/List;" o_trustedCertificates := c147.ext M152
  have c166 : Fld Z T152.heap a "com/example/keelreach/keelreach/RedisOptions" "verifyHostName" "Z" o_verifyHostName := c148.ext M152
  have c167 : Sta Z T152.heap "com/example/keelreach/keelreach/ProtocolVersion" "RESP3" "Lcom/example/keelreach/keelreach/ProtocolVersion;" (.ref w_RESP3) := c149.ext M152
  have c168 : Sta Z T152.heap "java/time/Duration" "ZERO" "Ljava/time/Duration;" (.ref w_ZERO) := c150.ext M152
  have c169 : Sta Z T152.heap "java/util/ImmutableCollections" "EMPTY_LIST" "Ljava/util/ImmutableCollections$ListN;" (.ref w_EL) := c151.ext M152
  obtain ⟨T170, h170, X170, e170, W170, st170⟩ := putF X152 hx hZ hown (host := "") (Or.inl (hw _ (List.mem_of_getElem? (i := 48) rfl))) Via.refl rfl c160 c154 (Or.inl (hw _ (List.mem_of_getElem? (i := 49) rfl))) (hw _ (List.mem_of_getElem? (i := 6) rfl)) (ty := (.object "java/time/Duration")) (by decide) rfl rfl (g := (mkF m 50 #[.val (.ref a)] [(.ref r152), (.ref a)])) rfl rfl (hb hby d2_50)
  have N170 := Fr.snoc X170 N152 gg_a
  have K170 := Keep.wr K153 W170 (Or.inl (List.mem_of_getElem? (i := 0) rfl))
  have Zs170 := Nat.le_trans Zs153 (Keep.of_wr W170).1
  have c171 : Exa Z h170 a "com/example/keelreach/keelreach/RedisOptions" := c154.wr W170
  have c172 : Fld Z h170 a "com/example/keelreach/keelreach/RedisOptions" "preferredProtocolVersion" "Lcom/example/keelreach/keelreach/ProtocolVersion;" (.ref w_RESP3) := c155.other W170 (Or.inr (slot_ne (Or.inl (hw _ (List.mem_of_getElem? (i := 18) rfl))) (Or.inl (hw _ (List.mem_of_getElem? (i := 49) rfl))) (by decide) (t := (.object "com/example/keelreach/keelreach/ProtocolVersion")) (t' := (.object "java/time/Duration")) (by decide) (by decide)))
  have c173 : Fld Z h170 a "com/example/keelreach/keelreach/RedisOptions" "maxPoolSize" "I" (.int (6 : Int32)) := c156.other W170 (Or.inr (slot_ne (Or.inl (hw _ (List.mem_of_getElem? (i := 20) rfl))) (Or.inl (hw _ (List.mem_of_getElem? (i := 49) rfl))) (by decide) (t := .int) (t' := (.object "java/time/Duration")) (by decide) (by decide)))
  have c174 : Fld Z h170 a "com/example/keelreach/keelreach/RedisOptions" "maxPoolWaiting" "I" (.int (24 : Int32)) := c157.other W170 (Or.inr (slot_ne (Or.inl (hw _ (List.mem_of_getElem? (i := 22) rfl))) (Or.inl (hw _ (List.mem_of_getElem? (i := 49) rfl))) (by decide) (t := .int) (t' := (.object "java/time/Duration")) (by decide) (by decide)))
  have c175 : Fld Z h170 a "com/example/keelreach/keelreach/RedisOptions" "poolCleanerInterval" "Ljava/time/Duration;" (.ref r82) := c158.other W170 (Or.inr (slot_ne (Or.inl (hw _ (List.mem_of_getElem? (i := 43) rfl))) (Or.inl (hw _ (List.mem_of_getElem? (i := 49) rfl))) (by decide) (t := (.object "java/time/Duration")) (t' := (.object "java/time/Duration")) (by decide) (by decide)))
  have c176 : Fld Z h170 a "com/example/keelreach/keelreach/RedisOptions" "poolRecycleTimeout" "Ljava/time/Duration;" (.ref r117) := c159.other W170 (Or.inr (slot_ne (Or.inl (hw _ (List.mem_of_getElem? (i := 46) rfl))) (Or.inl (hw _ (List.mem_of_getElem? (i := 49) rfl))) (by decide) (t := (.object "java/time/Duration")) (t' := (.object "java/time/Duration")) (by decide) (by decide)))
  have c177 : Fld Z h170 a "com/example/keelreach/keelreach/RedisOptions" "connectTimeout" "Ljava/time/Duration;" (.ref r152) := c160.same W170
  have c178 : Fld Z h170 a "com/example/keelreach/keelreach/RedisOptions" "commandTimeout" "Ljava/time/Duration;" o_commandTimeout := c161.other W170 (Or.inr (slot_ne (Or.inl (hw _ (List.mem_of_getElem? (i := 52) rfl))) (Or.inl (hw _ (List.mem_of_getElem? (i := 49) rfl))) (by decide) (t := (.object "java/time/Duration")) (t' := (.object "java/time/Duration")) (by decide) (by decide)))
  have c179 : Fld Z h170 a "com/example/keelreach/keelreach/RedisOptions" "maxCommandsInFlight" "I" o_maxCommandsInFlight := c162.other W170 (Or.inr (slot_ne (Or.inl (hw _ (List.mem_of_getElem? (i := 54) rfl))) (Or.inl (hw _ (List.mem_of_getElem? (i := 49) rfl))) (by decide) (t := .int) (t' := (.object "java/time/Duration")) (by decide) (by decide)))
  have c180 : Fld Z h170 a "com/example/keelreach/keelreach/RedisOptions" "autoPipeliningInterval" "Ljava/time/Duration;" o_autoPipeliningInterval := c163.other W170 (Or.inr (slot_ne (Or.inl (hw _ (List.mem_of_getElem? (i := 61) rfl))) (Or.inl (hw _ (List.mem_of_getElem? (i := 49) rfl))) (by decide) (t := (.object "java/time/Duration")) (t' := (.object "java/time/Duration")) (by decide) (by decide)))
  have c181 : Fld Z h170 a "com/example/keelreach/keelreach/RedisOptions" "autoPipeliningThreshold" "I" o_autoPipeliningThreshold := c164.other W170 (Or.inr (slot_ne (Or.inl (hw _ (List.mem_of_getElem? (i := 63) rfl))) (Or.inl (hw _ (List.mem_of_getElem? (i := 49) rfl))) (by decide) (t := .int) (t' := (.object "java/time/Duration")) (by decide) (by decide)))
  have c182 : Fld Z h170 a "com/example/keelreach/keelreach/RedisOptions" "trustedCertificates" "Ljava/util/List;" o_trustedCertificates := c165.other W170 (Or.inr (slot_ne (Or.inl (hw _ (List.mem_of_getElem? (i := 71) rfl))) (Or.inl (hw _ (List.mem_of_getElem? (i := 49) rfl))) (by decide) (t := (.object "java/util/List")) (t' := (.object "java/time/Duration")) (by decide) (by decide)))
  have c183 : Fld Z h170 a "com/example/keelreach/keelreach/RedisOptions" "verifyHostName" "Z" o_verifyHostName := c166.other W170 (Or.inr (slot_ne (Or.inl (hw _ (List.mem_of_getElem? (i := 73) rfl))) (Or.inl (hw _ (List.mem_of_getElem? (i := 49) rfl))) (by decide) (t := .boolean) (t' := (.object "java/time/Duration")) (by decide) (by decide)))
  have c184 : Sta Z h170 "com/example/keelreach/keelreach/ProtocolVersion" "RESP3" "Lcom/example/keelreach/keelreach/ProtocolVersion;" (.ref w_RESP3) := c167.wr W170
  have c185 : Sta Z h170 "java/time/Duration" "ZERO" "Ljava/time/Duration;" (.ref w_ZERO) := c168.wr W170
  have c186 : Sta Z h170 "java/util/ImmutableCollections" "EMPTY_LIST" "Ljava/util/ImmutableCollections$ListN;" (.ref w_EL) := c169.wr W170
  obtain ⟨T187, X187, e187, st187⟩ := getS2 X170 hx hZ hown (host := "") (Or.inl (hw _ (List.mem_of_getElem? (i := 50) rfl))) Via.refl e170 c185 (g := (mkF m 54 #[.val (.ref a)] [(.ref a)])) rfl (hb hby d2_54)
  obtain ⟨T188, h188, X188, e188, W188, st188⟩ := putF X187 hx hZ hown (host := "") (Or.inl (hw _ (List.mem_of_getElem? (i := 51) rfl))) Via.refl e187 c178 c171 (Or.inl (hw _ (List.mem_of_getElem? (i := 52) rfl))) (hw _ (List.mem_of_getElem? (i := 6) rfl)) (ty := (.object "java/time/Duration")) (by decide) rfl rfl (g := (mkF m 57 #[.val (.ref a)] [(.ref w_ZERO), (.ref a)])) rfl rfl (hb hby d2_57)
  have N188 := Fr.snoc X188 N170 gg_a
  have K188 := Keep.wr K170 W188 (Or.inl (List.mem_of_getElem? (i := 0) rfl))
  have Zs188 := Nat.le_trans Zs170 (Keep.of_wr W188).1
  have c189 : Exa Z h188 a "com/example/keelreach/keelreach/RedisOptions" := c171.wr W188
  have c190 : Fld Z h188 a "com/example/keelreach/keelreach/RedisOptions" "preferredProtocolVersion" "Lcom/example/keelreach/keelreach/ProtocolVersion;" (.ref w_RESP3) := c172.other W188 (Or.inr (slot_ne (Or.inl (hw _ (List.mem_of_getElem? (i := 18) rfl))) (Or.inl (hw _ (List.mem_of_getElem? (i := 52) rfl))) (by decide) (t := (.object "com/example/keelreach/keelreach/ProtocolVersion")) (t' := (.object "java/time/Duration")) (by decide) (by decide)))
  have c191 : Fld Z h188 a "com/example/keelreach/keelreach/RedisOptions" "maxPoolSize" "I" (.int (6 : Int32)) := c173.other W188 (Or.inr (slot_ne (Or.inl (hw _ (List.mem_of_getElem? (i := 20) rfl))) (Or.inl (hw _ (List.mem_of_getElem? (i := 52) rfl))) (by decide) (t := .int) (t' := (.object "java/time/Duration")) (by decide) (by decide)))
  have c192 : Fld Z h188 a "com/example/keelreach/keelreach/RedisOptions" "maxPoolWaiting" "I" (.int (24 : Int32)) := c174.other W188 (Or.inr (slot_ne (Or.inl (hw _ (List.mem_of_getElem? (i := 22) rfl))) (Or.inl (hw _ (List.mem_of_getElem? (i := 52) rfl))) (by decide) (t := .int) (t' := (.object "java/time/Duration")) (by decide) (by decide)))
  have c193 : Fld Z h188 a "com/example/keelreach/keelreach/RedisOptions" "poolCleanerInterval" "Ljava/time/Duration;" (.ref r82) := c175.other W188 (Or.inr (slot_ne (Or.inl (hw _ (List.mem_of_getElem? (i := 43) rfl))) (Or.inl (hw _ (List.mem_of_getElem? (i := 52) rfl))) (by decide) (t := (.object "java/time/Duration")) (t' := (.object "java/time/Duration")) (by decide) (by decide)))
  have c194 : Fld Z h188 a "com/example/keelreach/keelreach/RedisOptions" "poolRecycleTimeout" "Ljava/time/Duration;" (.ref r117) := c176.other W188 (Or.inr (slot_ne (Or.inl (hw _ (List.mem_of_getElem? (i := 46) rfl))) (Or.inl (hw _ (List.mem_of_getElem? (i := 52) rfl))) (by decide) (t := (.object "java/time/Duration")) (t' := (.object "java/time/Duration")) (by decide) (by decide)))
  have c195 : Fld Z h188 a "com/example/keelreach/keelreach/RedisOptions" "connectTimeout" "Ljava/time/Duration;" (.ref r152) := c177.other W188 (Or.inr (slot_ne (Or.inl (hw _ (List.mem_of_getElem? (i := 49) rfl))) (Or.inl (hw _ (List.mem_of_getElem? (i := 52) rfl))) (by decide) (t := (.object "java/time/Duration")) (t' := (.object "java/time/Duration")) (by decide) (by decide)))
  have c196 : Fld Z h188 a "com/example/keelreach/keelreach/RedisOptions" "commandTimeout" "Ljava/time/Duration;" (.ref w_ZERO) := c178.same W188
  have c197 : Fld Z h188 a "com/example/keelreach/keelreach/RedisOptions" "maxCommandsInFlight" "I" o_maxCommandsInFlight := c179.other W188 (Or.inr (slot_ne (Or.inl (hw _ (List.mem_of_getElem? (i := 54) rfl))) (Or.inl (hw _ (List.mem_of_getElem? (i := 52) rfl))) (by decide) (t := .int) (t' := (.object "java/time/Duration")) (by decide) (by decide)))
  have c198 : Fld Z h188 a "com/example/keelreach/keelreach/RedisOptions" "autoPipeliningInterval" "Ljava/time/Duration;" o_autoPipeliningInterval := c180.other W188 (Or.inr (slot_ne (Or.inl (hw _ (List.mem_of_getElem? (i := 61) rfl))) (Or.inl (hw _ (List.mem_of_getElem? (i := 52) rfl))) (by decide) (t := (.object "java/time/Duration")) (t' := (.object "java/time/Duration")) (by decide) (by decide)))
  have c199 : Fld Z h188 a "com/example/keelreach/keelreach/RedisOptions" "autoPipeliningThreshold" "I" o_autoPipeliningThreshold := c181.other W188 (Or.inr (slot_ne (Or.inl (hw _ (List.mem_of_getElem? (i := 63) rfl))) (Or.inl (hw _ (List.mem_of_getElem? (i := 52) rfl))) (by decide) (t := .int) (t' := (.object "java/time/Duration")) (by decide) (by decide)))
  have c200 : Fld Z h188 a "com/example/keelreach/keelreach/RedisOptions" "trustedCertificates" "Ljava/util/List;" o_trustedCertificates := c182.other W188 (Or.inr (slot_ne (Or.inl (hw _ (List.mem_of_getElem? (i := 71) rfl))) (Or.inl (hw _ (List.mem_of_getElem? (i := 52) rfl))) (by decide) (t := (.object "java/util/List")) (t' := (.object "java/time/Duration")) (by decide) (by decide)))
  have c201 : Fld Z h188 a "com/example/keelreach/keelreach/RedisOptions" "verifyHostName" "Z" o_verifyHostName := c183.other W188 (Or.inr (slot_ne (Or.inl (hw _ (List.mem_of_getElem? (i := 73) rfl))) (Or.inl (hw _ (List.mem_of_getElem? (i := 52) rfl))) (by decide) (t := .boolean) (t' := (.object "java/time/Duration")) (by decide) (by decide)))
  have c202 : Sta Z h188 "com/example/keelreach/keelreach/ProtocolVersion" "RESP3" "Lcom/example/keelreach/keelreach/ProtocolVersion;" (.ref w_RESP3) := c184.wr W188
  have c203 : Sta Z h188 "java/time/Duration" "ZERO" "Ljava/time/Duration;" (.ref w_ZERO) := c185.wr W188
  have c204 : Sta Z h188 "java/util/ImmutableCollections" "EMPTY_LIST" "Ljava/util/ImmutableCollections$ListN;" (.ref w_EL) := c186.wr W188
  obtain ⟨T205, h205, X205, e205, W205, st205⟩ := putF X188 hx hZ hown (host := "") (Or.inl (hw _ (List.mem_of_getElem? (i := 53) rfl))) Via.refl e188 c197 c189 (Or.inl (hw _ (List.mem_of_getElem? (i := 54) rfl))) (hw _ (List.mem_of_getElem? (i := 6) rfl)) (ty := .int) (by decide) rfl rfl (g := (mkF m 64 #[.val (.ref a)] [(.int (10000 : Int32)), (.ref a)])) rfl rfl (hb hby d2_64)
  have N205 := Fr.snoc X205 N188 gg_a
  have K205 := Keep.wr K188 W205 (Or.inl (List.mem_of_getElem? (i := 0) rfl))
  have Zs205 := Nat.le_trans Zs188 (Keep.of_wr W205).1
  have c206 : Exa Z h205 a "com/example/keelreach/keelreach/RedisOptions" := c189.wr W205
  have c207 : Fld Z h205 a "com/example/keelreach/keelreach/RedisOptions" "preferredProtocolVersion" "Lcom/example/keelreach/keelreach/ProtocolVersion;" (.ref w_RESP3) := c190.other W205 (Or.inr (slot_ne (Or.inl (hw _ (List.mem_of_getElem? (i := 18) rfl))) (Or.inl (hw _ (List.mem_of_getElem? (i := 54) rfl))) (by decide) (t := (.object "com/example/keelreach/keelreach/ProtocolVersion")) (t' := .int) (by decide) (by decide)))
  have c208 : Fld Z h205 a "com/example/keelreach/keelreach/RedisOptions" "maxPoolSize" "I" (.int (6 : Int32)) := c191.other W205 (Or.inr (slot_ne (Or.inl (hw _ (List.mem_of_getElem? (i := 20) rfl))) (Or.inl (hw _ (List.mem_of_getElem? (i := 54) rfl))) (by decide) (t := .int) (t' := .int) (by decide) (by decide)))
  have c209 : Fld Z h205 a "com/example/keelreach/keelreach/RedisOptions" "maxPoolWaiting" "I" (.int (24 : Int32)) := c192.other W205 (Or.inr (slot_ne (Or.inl (hw _ (List.mem_of_getElem? (i := 22) rfl))) (Or.inl (hw _ (List.mem_of_getElem? (i := 54) rfl))) (by decide) (t := .int) (t' := .int) (by decide) (by decide)))
  have c210 : Fld Z h205 a "com/example/keelreach/keelreach/RedisOptions" "poolCleanerInterval" "Ljava/time/Duration;" (.ref r82) := c193.other W205 (Or.inr (slot_ne (Or.inl (hw _ (List.mem_of_getElem? (i := 43) rfl))) (Or.inl (hw _ (List.mem_of_getElem? (i := 54) rfl))) (by decide) (t := (.object "java/time/Duration")) (t' := .int) (by decide) (by decide)))
  have c211 : Fld Z h205 a "com/example/keelreach/keelreach/RedisOptions" "poolRecycleTimeout" "Ljava/time/Duration;" (.ref r117) := c194.other W205 (Or.inr (slot_ne (Or.inl (hw _ (List.mem_of_getElem? (i := 46) rfl))) (Or.inl (hw _ (List.mem_of_getElem? (i := 54) rfl))) (by decide) (t := (.object "java/time/Duration")) (t' := .int) (by decide) (by decide)))
  have c212 : Fld Z h205 a "com/example/keelreach/keelreach/RedisOptions" "connectTimeout" "Ljava/time/Duration;" (.ref r152) := c195.other W205 (Or.inr (slot_ne (Or.inl (hw _ (List.mem_of_getElem? (i := 49) rfl))) (Or.inl (hw _ (List.mem_of_getElem? (i := 54) rfl))) (by decide) (t := (.object "java/time/Duration")) (t' := .int) (by decide) (by decide)))
  have c213 : Fld Z h205 a "com/example/keelreach/keelreach/RedisOptions" "commandTimeout" "Ljava/time/Duration;" (.ref w_ZERO) := c196.other W205 (Or.inr (slot_ne (Or.inl (hw _ (List.mem_of_getElem? (i := 52) rfl))) (Or.inl (hw _ (List.mem_of_getElem? (i := 54) rfl))) (by decide) (t := (.object "java/time/Duration")) (t' := .int) (by decide) (by decide)))
  have c214 : Fld Z h205 a "com/example/keelreach/keelreach/RedisOptions" "maxCommandsInFlight" "I" (.int (10000 : Int32)) := c197.same W205
  have c215 : Fld Z h205 a "com/example/keelreach/keelreach/RedisOptions" "autoPipeliningInterval" "Ljava/time/Duration;" o_autoPipeliningInterval := c198.other W205 (Or.inr (slot_ne (Or.inl (hw _ (List.mem_of_getElem? (i := 61) rfl))) (Or.inl (hw _ (List.mem_of_getElem? (i := 54) rfl))) (by decide) (t := (.object "java/time/Duration")) (t' := .int) (by decide) (by decide)))
  have c216 : Fld Z h205 a "com/example/keelreach/keelreach/RedisOptions" "autoPipeliningThreshold" "I" o_autoPipeliningThreshold := c199.other W205 (Or.inr (slot_ne (Or.inl (hw _ (List.mem_of_getElem? (i := 63) rfl))) (Or.inl (hw _ (List.mem_of_getElem? (i := 54) rfl))) (by decide) (t := .int) (t' := .int) (by decide) (by decide)))
  have c217 : Fld Z h205 a "com/example/keelreach/keelreach/RedisOptions" "trustedCertificates" "Ljava/util/List;" o_trustedCertificates := c200.other W205 (Or.inr (slot_ne (Or.inl (hw _ (List.mem_of_getElem? (i := 71) rfl))) (Or.inl (hw _ (List.mem_of_getElem? (i := 54) rfl))) (by decide) (t := (.object "java/util/List")) (t' := .int) (by decide) (by decide)))
  have c218 : Fld Z h205 a "com/example/keelreach/keelreach/RedisOptions" "verifyHostName" "Z" o_verifyHostName := c201.other W205 (Or.inr (slot_ne (Or.inl (hw _ (List.mem_of_getElem? (i := 73) rfl))) (Or.inl (hw _ (List.mem_of_getElem? (i := 54) rfl))) (by decide) (t := .boolean) (t' := .int) (by decide) (by decide)))
  have c219 : Sta Z h205 "com/example/keelreach/keelreach/ProtocolVersion" "RESP3" "Lcom/example/keelreach/keelreach/ProtocolVersion;" (.ref w_RESP3) := c202.wr W205
  have c220 : Sta Z h205 "java/time/Duration" "ZERO" "Ljava/time/Duration;" (.ref w_ZERO) := c203.wr W205
  have c221 : Sta Z h205 "java/util/ImmutableCollections" "EMPTY_LIST" "Ljava/util/ImmutableCollections$ListN;" (.ref w_EL) := c204.wr W205
  obtain ⟨v222, _, ⟨T222, L222, k222, n222⟩, -, X222, ⟨Lc222, hQ222, l222, y222, z222⟩, st222⟩ := Jvm.LawKit.callS X205 hx (y := (⟨"java/time/Duration", "ofMillis", "(J)Ljava/time/Duration;"⟩ : MethodName)) hown (mvT hZ (hw _ (List.mem_of_getElem? (i := 55) rfl))) (mvT hZ (hw _ (List.mem_of_getElem? (i := 56) rfl))) (mvT hZ (hw _ (List.mem_of_getElem? (i := 26) rfl))) (mvT hZ (hw _ (List.mem_of_getElem? (i := 57) rfl))) (by decide) (backOf (W := 1) (rm_ofm l Z a0 hw []  h205 n0 Zs205 ) hZ (hw _ (List.mem_of_getElem? (i := 57) rfl)) (hw _ (List.mem_of_getElem? (i := 26) rfl)) (by decide) (by decide)) (g := (mkF m 69 #[.val (.ref a)] [(.long (1 : Int64)), (.ref a)])) rfl (by rw [hml]; rfl) (argsL := [(.long (1 : Int64))]) (rest := [(.ref a)]) (lenOf pd_2 rfl) rfl (by show 2 * 0 + _ ≤ _; exact Nat.le_of_eq rfl) (hb hby d2_69) (fun _ _ => ⟨rfl, e205, (by decide : 3 + 1 ≤ _), (by decide : 6 + 2 ≤ _)⟩)
  dsimp only [Pt.U, Pt.locs, Pt.cells, Pt.slots] at X222 l222 y222 z222 st222 hQ222
  subst l222 y222 z222
  obtain ⟨⟨r222, hv222⟩, N222q, M222⟩ := hQ222
  have N222 := Fr.app N205 N222q
  subst hv222
  have K223 := Keep.ext K205 M222
  have Zs223 := Nat.le_trans Zs205 (M222).1
  have c224 : Exa Z T222.heap a "com/example/keelreach/keelreach/RedisOptions" := c206.ext M222
  have c225 : Fld Z T222.heap a "com/example/keelreach/keelreach/RedisOptions" "preferredProtocolVersion" "Lcom/example/keelreach/keelreach/ProtocolVersion;" (.ref w_RESP3) := c207.ext M222
  have c226 : Fld Z T222.heap a "com/example/keelreach/keelreach/RedisOptions" "maxPoolSize" "I" (.int (6 : Int32)) := c208.ext M222
  have c227 : Fld Z T222.heap a "com/example/keelreach/keelreach/RedisOptions" "maxPoolWaiting" "I" (.int (24 : Int32)) := c209.ext M222
  have c228 : Fld Z T222.heap a "com/example/keelreach/keelreach/RedisOptions" "poolCleanerInterval" "Ljava/time/Duration;" (.ref r82) := c210.ext M222
  have c229 : Fld Z T222.heap a "com/example/keelreach/keelreach/RedisOptions" "poolRecycleTimeout" "Ljava/time/Duration;" (.ref r117) := c211.ext M222
  have c230 : Fld Z T222.heap a "com/example/keelreach/keelreach/RedisOptions" "connectTimeout" "Ljava/time/Duration;" (.ref r152) := c212.ext M222
  have c231 : Fld Z T222.heap a "com/example/keelreach/keelreach/RedisOptions" "commandTimeout" "Ljava/time/Duration;" (.ref w_ZERO) := c213.ext M222
  have c232 : Fld Z T222.heap a "com/example/keelreach/keelreach/RedisOptions" "maxCommandsInFlight" "I" (.int (10000 : Int32)) := c214.ext M222
  have c233 : Fld Z T222.heap a "com/example/keelreach/keelreach/RedisOptions" "autoPipeliningInterval" "Ljava/time/Duration;" o_autoPipeliningInterval := c215.ext M222
  have c234 : Fld Z T222.heap a "com/example/keelreach/keelreach/RedisOptions" "autoPipeliningThreshold" "I" o_autoPipeliningThreshold := c216.ext M222
  have c235 : Fld Z T222.heap a "com/example/keelreach/keelreach/RedisOptions" "trustedCertificates" "Ljava/util/List;" o_trustedCertificates := c217.ext M222
  have c236 : Fld Z T222.heap a "com/example/keelreach/keelreach/RedisOptions" "verifyHostName" "Z" o_verifyHostName := c218.ext M222
  have c237 : Sta Z T222.heap "com/example/keelreach/keelreach/ProtocolVersion" "RESP3" "Lcom/example/keelreach/keelreach/ProtocolVersion;" (.ref w_RESP3) := c219.ext M222
  have c238 : Sta Z T222.heap "java/time/Duration" "ZERO" "Ljava/time/Duration;" (.ref w_ZERO) := c220.ext M222
  have c239 : Sta Z T222.heap "java/util/ImmutableCollections" "EMPTY_LIST" "Ljava/util/ImmutableCollections$ListN;" (.ref w_EL) := c221.ext M222
  obtain ⟨T240, h240, X240, e240, W240, st240⟩ := putF X222 hx hZ hown (host := "") (Or.inl (hw _ (List.mem_of_getElem? (i := 60) rfl))) Via.refl rfl c233 c224 (Or.inl (hw _ (List.mem_of_getElem? (i := 61) rfl))) (hw _ (List.mem_of_getElem? (i := 6) rfl)) (ty := (.object "java/time/Duration")) (by decide) rfl rfl (g := (mkF m 72 #[.val (.ref a)] [(.ref r222), (.ref a)])) rfl rfl (hb hby d2_72)
  have N240 := Fr.snoc X240 N222 gg_a
  have K240 := Keep.wr K223 W240 (Or.inl (List.mem_of_getElem? (i := 0) rfl))
  have Zs240 := Nat.le_trans Zs223 (Keep.of_wr W240).1
  have c241 : Exa Z h240 a "com/example/keelreach/keelreach/RedisOptions" := c224.wr W240
  have c242 : Fld Z h240 a "com/example/keelreach/keelreach/RedisOptions" "preferredProtocolVersion" "Lcom/example/keelreach/keelreach/ProtocolVersion;" (.ref w_RESP3) := c225.other W240 (Or.inr (slot_ne (Or.inl (hw _ (List.mem_of_getElem? (i := 18) rfl))) (Or.inl (hw _ (List.mem_of_getElem? (i := 61) rfl))) (by decide) (t := (.object "com/example/keelreach/keelreach/ProtocolVersion")) (t' := (.object "java/time/Duration")) (by decide) (by decide)))
  have c243 : Fld Z h240 a "com/example/keelreach/keelreach/RedisOptions" "maxPoolSize" "I" (.int (6 : Int32)) := c226.other W240 (Or.inr (slot_ne (Or.inl (hw _ (List.mem_of_getElem? (i := 20) rfl))) (Or.inl (hw _ (List.mem_of_getElem? (i := 61) rfl))) (by decide) (t := .int) (t' := (.object "java/time/Duration")) (by decide) (by decide)))
  have c244 : Fld Z h240 a "com/example/keelreach/keelreach/RedisOptions" "maxPoolWaiting" "I" (.int (24 : Int32)) := c227.other W240 (Or.inr (slot_ne (Or.inl (hw _ (List.mem_of_getElem? (i := 22) rfl))) (Or.inl (hw _ (List.mem_of_getElem? (i := 61) rfl))) (by decide) (t := .int) (t' := (.object "java/time/Duration")) (by decide) (by decide)))
  have c245 : Fld Z h240 a "com/example/keelreach/keelreach/RedisOptions" "poolCleanerInterval" "Ljava/time/Duration;" (.ref r82) := c228.other W240 (Or.inr (slot_ne (Or.inl (hw _ (List.mem_of_getElem? (i := 43) rfl))) (Or.inl (hw _ (List.mem_of_getElem? (i := 61) rfl))) (by decide) (t := (.object "java/time/Duration")) (t' := (.object "java/time/Duration")) (by decide) (by decide)))
  have c246 : Fld Z h240 a "com/example/keelreach/keelreach/RedisOptions" "poolRecycleTimeout" "Ljava/time/Duration;" (.ref r117) := c229.other W240 (Or.inr (slot_ne (Or.inl (hw _ (List.mem_of_getElem? (i := 46) rfl))) (Or.inl (hw _ (List.mem_of_getElem? (i := 61) rfl))) (by decide) (t := (.object "java/time/Duration")) (t' := (.object "java/time/Duration")) (by decide) (by decide)))
  have c247 : Fld Z h240 a "com/example/keelreach/keelreach/RedisOptions" "connectTimeout" "Ljava/time/Duration;" (.ref r152) := c230.other W240 (Or.inr (slot_ne (Or.inl (hw _ (List.mem_of_getElem? (i := 49) rfl))) (Or.inl (hw _ (List.mem_of_getElem? (i := 61) rfl))) (by decide) (t := (.object "java/time/Duration")) (t' := (.object "java/time/Duration")) (by decide) (by decide)))
  have c248 : Fld Z h240 a "com/example/keelreach/keelreach/RedisOptions" "commandTimeout" "Ljava/time/Duration;" (.ref w_ZERO) := c231.other W240 (Or.inr (slot_ne (Or.inl (hw _ (List.mem_of_getElem? (i := 52) rfl))) (Or.inl (hw _ (List.mem_of_getElem? (i := 61) rfl))) (by decide) (t := (.object "java/time/Duration")) (t' := (.object "java/time/Duration")) (by decide) (by decide)))
  have c249 : Fld Z h240 a "com/example/keelreach/keelreach/RedisOptions" "maxCommandsInFlight" "I" (.int (10000 : Int32)) := c232.other W240 (Or.inr (slot_ne (Or.inl (hw _ (List.mem_of_getElem? (i := 54) rfl))) (Or.inl (hw _ (List.mem_of_getElem? (i := 61) rfl))) (by decide) (t := .int) (t' := (.object "java/time/Duration")) (by decide) (by decide)))
  have c250 : Fld Z h240 a "com/example/keelreach/keelreach/RedisOptions" "autoPipeliningInterval" "Ljava/time/Duration;" (.ref r222) := c233.same W240
  have c251 : Fld Z h240 a "com/example/keelreach/keelreach/RedisOptions" "autoPipeliningThreshold" "I" o_autoPipeliningThreshold := c234.other W240 (Or.inr (slot_ne (Or.inl (hw _ (List.mem_of_getElem? (i := 63) rfl))) (Or.inl (hw _ (List.mem_of_getElem? (i := 61) rfl))) (by decide) (t := .int) (t' := (.object "java/time/Duration")) (by decide) (by decide)))
  have c252 : Fld Z h240 a "com/example/keelreach/keelreach/RedisOptions" "trustedCertificates" "Ljava/util/List;" o_trustedCertificates := c235.other W240 (Or.inr (slot_ne (Or.inl (hw _ (List.mem_of_getElem? (i := 71) rfl))) (Or.inl (hw _ (List.mem_of_getElem? (i := 61) rfl))) (by decide) (t := (.object "java/util/List")) (t' := (.object "java/time/Duration")) (by decide) (by decide)))
  have c253 : Fld Z h240 a "com/example/keelreach/keelreach/RedisOptions" "verifyHostName" "Z" o_verifyHostName := c236.other W240 (Or.inr (slot_ne (Or.inl (hw _ (List.mem_of_getElem? (i := 73) rfl))) (Or.inl (hw _ (List.mem_of_getElem? (i := 61) rfl))) (by decide) (t := .boolean) (t' := (.object "java/time/Duration")) (by decide) (by decide)))
  have c254 : Sta Z h240 "com/example/keelreach/keelreach/ProtocolVersion" "RESP3" "Lcom/example/keelreach/keelreach/ProtocolVersion;" (.ref w_RESP3) := c237.wr W240
  have c255 : Sta Z h240 "java/time/Duration" "ZERO" "Ljava/time/Duration;" (.ref w_ZERO) := c238.wr W240
  have c256 : Sta Z h240 "java/util/ImmutableCollections" "EMPTY_LIST" "Ljava/util/ImmutableCollections$ListN;" (.ref w_EL) := c239.wr W240
  obtain ⟨T257, h257, X257, e257, W257, st257⟩ := putF X240 hx hZ hown (host := "") (Or.inl (hw _ (List.mem_of_getElem? (i := 62) rfl))) Via.refl e240 c251 c241 (Or.inl (hw _ (List.mem_of_getElem? (i := 63) rfl))) (hw _ (List.mem_of_getElem? (i := 6) rfl)) (ty := .int) (by decide) rfl rfl (g := (mkF m 79 #[.val (.ref a)] [(.int (128 : Int32)), (.ref a)])) rfl rfl (hb hby d2_79)
  have N257 := Fr.snoc X257 N240 gg_a
  have K257 := Keep.wr K240 W257 (Or.inl (List.mem_of_getElem? (i := 0) rfl))
  have Zs257 := Nat.le_trans Zs240 (Keep.of_wr W257).1
  have c258 : Exa Z h257 a "com/example/keelreach/keelreach/RedisOptions" := c241.wr W257
  have c259 : Fld Z h257 a "com/example/keelreach/keelreach/RedisOptions" "preferredProtocolVersion" "Lcom/example/keelreach/keelreach/ProtocolVersion;" (.ref w_RESP3) := c242.other W257 (Or.inr (slot_ne (Or.inl (hw _ (List.mem_of_getElem? (i := 18) rfl))) (Or.inl (hw _ (List.mem_of_getElem? (i := 63) rfl))) (by decide) (t := (.object "com/example/keelreach/keelreach/ProtocolVersion")) (t' := .int) (by decide) (by decide)))
  have c260 : Fld Z h257 a "com/example/keelreach/keelreach/RedisOptions" "maxPoolSize" "I" (.int (6 : Int32)) := c243.other W257 (Or.inr (slot_ne (Or.inl (hw _ (List.mem_of_getElem? (i := 20) rfl))) (Or.inl (hw _ (List.mem_of_getElem? (i := 63) rfl))) (by decide) (t := .int) (t' := .int) (by decide) (by decide)))
  have c261 : Fld Z h257 a "com/example/keelreach/keelreach/RedisOptions" "maxPoolWaiting" "I" (.int (24 : Int32)) := c244.other W257 (Or.inr (slot_ne (Or.inl (hw _ (List.mem_of_getElem? (i := 22) rfl))) (Or.inl (hw _ (List.mem_of_getElem? (i := 63) rfl))) (by decide) (t := .int) (t' := .int) (by decide) (by decide)))
  have c262 : Fld Z h257 a "com/example/keelreach/keelreach/RedisOptions" "poolCleanerInterval" "Ljava/time/Duration;" (.ref r82) := c245.other W257 (Or.inr (slot_ne (Or.inl (hw _ (List.mem_of_getElem? (i := 43) rfl))) (Or.inl (hw _ (List.mem_of_getElem? (i := 63) rfl))) (by decide) (t := (.object "java/time/Duration")) (t' := .int) (by decide) (by decide)))
  have c263 : Fld Z h257 a "com/example/keelreach/keelreach/RedisOptions" "poolRecycleTimeout" "Ljava/time/Duration;" (.ref r117) := c246.other W257 (Or.inr (slot_ne (Or.inl (hw _ (List.mem_of_getElem? (i := 46) rfl))) (Or.inl (hw _ (List.mem_of_getElem? (i := 63) rfl))) (by decide) (t := (.object "java/time/Duration")) (t' := .int) (by decide) (by decide)))
  have c264 : Fld Z h257 a "com/example/keelreach/keelreach/RedisOptions" "connectTimeout" "Ljava/time/Duration;" (.ref r152) := c247.other W257 (Or.inr (slot_ne (Or.inl (hw _ (List.mem_of_getElem? (i := 49) rfl))) (Or.inl (hw _ (List.mem_of_getElem? (i := 63) rfl))) (by decide) (t := (.object "java/time/Duration")) (t' := .int) (by decide) (by decide)))
  have c265 : Fld Z h257 a "com/example/keelreach/keelreach/RedisOptions" "commandTimeout" "Ljava/time/Duration;" (.ref w_ZERO) := c248.other W257 (Or.inr (slot_ne (Or.inl (hw _ (List.mem_of_getElem? (i := 52) rfl))) (Or.inl (hw _ (List.mem_of_getElem? (i := 63) rfl))) (by decide) (t := (.object "java/time/Duration")) (t' := .int) (by decide) (by decide)))
  have c266 : Fld Z h257 a "com/example/keelreach/keelreach/RedisOptions" "maxCommandsInFlight" "I" (.int (10000 : Int32)) := c249.other W257 (Or.inr (slot_ne (Or.inl (hw _ (List.mem_of_getElem? (i := 54) rfl))) (Or.inl (hw _ (List.mem_of_getElem? (i := 63) rfl))) (by decide) (t := .int) (t' := .int) (by decide) (by decide)))
  have c267 : Fld Z h257 a "com/example/keelreach/keelreach/RedisOptions" "autoPipeliningInterval" "Ljava/time/Duration;" (.ref r222) := c250.other W257 (Or.inr (slot_ne (Or.inl (hw _ (List.mem_of_getElem? (i := 61) rfl))) (Or.inl (hw _ (List.mem_of_getElem? (i := 63) rfl))) (by decide) (t := (.object "java/time/Duration")) (t' := .int) (by decide) (by decide)))
  have c268 : Fld Z h257 a "com/example/keelreach/keelreach/RedisOptions" "autoPipeliningThreshold" "I" (.int (128 : Int32)) := c251.same W257
  have c269 : Fld Z h257 a "com/example/keelreach/keelreach/RedisOptions" "trustedCertificates" "Ljava/util/List;" o_trustedCertificates := c252.other W257 (Or.inr (slot_ne (Or.inl (hw _ (List.mem_of_getElem? (i := 71) rfl))) (Or.inl (hw _ (List.mem_of_getElem? (i := 63) rfl))) (by decide) (t := (.object "java/util/List")) (t' := .int) (by decide) (by decide)))
  have c270 : Fld Z h257 a "com/example/keelreach/keelreach/RedisOptions" "verifyHostName" "Z" o_verifyHostName := c253.other W257 (Or.inr (slot_ne (Or.inl (hw _ (List.mem_of_getElem? (i := 73) rfl))) (Or.inl (hw _ (List.mem_of_getElem? (i := 63) rfl))) (by decide) (t := .boolean) (t' := .int) (by decide) (by decide)))
  have c271 : Sta Z h257 "com/example/keelreach/keelreach/ProtocolVersion" "RESP3" "Lcom/example/keelreach/keelreach/ProtocolVersion;" (.ref w_RESP3) := c254.wr W257
  have c272 : Sta Z h257 "java/time/Duration" "ZERO" "Ljava/time/Duration;" (.ref w_ZERO) := c255.wr W257
  have c273 : Sta Z h257 "java/util/ImmutableCollections" "EMPTY_LIST" "Ljava/util/ImmutableCollections$ListN;" (.ref w_EL) := c256.wr W257
  obtain ⟨v274, _, ⟨T274, L274, k274, n274⟩, -, X274, ⟨Lc274, hQ274, l274, y274, z274⟩, st274⟩ := Jvm.LawKit.callS X257 hx (y := (⟨"java/util/List", "of", "()Ljava/util/List;"⟩ : MethodName)) hown (mvT hZ (hw _ (List.mem_of_getElem? (i := 64) rfl))) (mvT hZ (hw _ (List.mem_of_getElem? (i := 65) rfl))) (mvT hZ (hw _ (List.mem_of_getElem? (i := 66) rfl))) (mvT hZ (hw _ (List.mem_of_getElem? (i := 67) rfl))) (by decide) (backOf (W := 1) (rm_listof l Z a0 hw [] w_EL h257 n0 Zs257 c273) hZ (hw _ (List.mem_of_getElem? (i := 67) rfl)) (hw _ (List.mem_of_getElem? (i := 66) rfl)) (by decide) (by decide)) (g := (mkF m 83 #[.val (.ref a)] [(.ref a)])) rfl (by rw [hml]; rfl) (argsL := []) (rest := [(.ref a)]) (lenOf pd_3 rfl) rfl (by show 2 * 0 + _ ≤ _; exact Nat.le_of_eq rfl) (hb hby d2_83) (fun _ _ => ⟨rfl, e257, (by decide : 4 + 0 ≤ _), (by decide : 8 + 0 ≤ _)⟩)
  dsimp only [Pt.U, Pt.locs, Pt.cells, Pt.slots] at X274 l274 y274 z274 st274 hQ274
  subst l274 y274 z274
  obtain ⟨hv274, N274q, e274⟩ := hQ274
  have N274 := Fr.app N257 N274q
  subst hv274
  obtain ⟨T275, h275, X275, e275, W275, st275⟩ := putF X274 hx hZ hown (host := "") (Or.inl (hw _ (List.mem_of_getElem? (i := 70) rfl))) Via.refl e274 c269 c258 (Or.inl (hw _ (List.mem_of_getElem? (i := 71) rfl))) (hw _ (List.mem_of_getElem? (i := 6) rfl)) (ty := (.object "java/util/List")) (by decide) rfl rfl (g := (mkF m 86 #[.val (.ref a)] [(.ref w_EL), (.ref a)])) rfl rfl (hb hby d2_86)
  have N275 := Fr.snoc X275 N274 gg_a
  have K275 := Keep.wr K257 W275 (Or.inl (List.mem_of_getElem? (i := 0) rfl))
  have Zs275 := Nat.le_trans Zs257 (Keep.of_wr W275).1
  have c276 : Exa Z h275 a "com/example/keelreach/keelreach/RedisOptions" := c258.wr W275
  have c277 : Fld Z h275 a "com/example/keelreach/keelreach/RedisOptions" "preferredProtocolVersion" "Lcom/example/keelreach/keelreach/ProtocolVersion;" (.ref w_RESP3) := c259.other W275 (Or.inr (slot_ne (Or.inl (hw _ (List.mem_of_getElem? (i := 18) rfl))) (Or.inl (hw _ (List.mem_of_getElem? (i := 71) rfl))) (by decide) (t := (.object "com/example/keelreach/keelreach/ProtocolVersion")) (t' := (.object "java/util/List")) (by decide) (by decide)))
  have c278 : Fld Z h275 a "com/example/keelreach/keelreach/RedisOptions" "maxPoolSize" "I" (.int (6 : Int32)) := c260.other W275 (Or.inr (slot_ne (Or.inl (hw _ (List.mem_of_getElem? (i := 20) rfl))) (Or.inl (hw _ (List.mem_of_getElem? (i := 71) rfl))) (by decide) (t := .int) (t' := (.object "java/util/List")) (by decide) (by decide)))
  have c279 : Fld Z h275 a "com/example/keelreach/keelreach/RedisOptions" "maxPoolWaiting" "I" (.int (24 : Int32)) := c261.other W275 (Or.inr (slot_ne (Or.inl (hw _ (List.mem_of_getElem? (i := 22) rfl))) (Or.inl (hw _ (List.mem_of_getElem? (i := 71) rfl))) (by decide) (t := .int) (t' := (.object "java/util/List")) (by decide) (by decide)))
  have c280 : Fld Z h275 a "com/example/keelreach/keelreach/RedisOptions" "poolCleanerInterval" "Ljava/time/Duration;" (.ref r82) := c262.other W275 (Or.inr (slot_ne (Or.inl (hw _ (List.mem_of_getElem? (i := 43) rfl))) (Or.inl (hw _ (List.mem_of_getElem? (i := 71) rfl))) (by decide) (t := (.object "java/time/Duration")) (t' := (.object "java/util/List")) (by decide) (by decide)))
  have c281 : Fld Z h275 a "com/example/keelreach/keelreach/RedisOptions" "poolRecycleTimeout" "Ljava/time/Duration;" (.ref r117) := c263.other W275 (Or.inr (slot_ne (Or.inl (hw _ (List.mem_of_getElem? (i := 46) rfl))) (Or.inl (hw _ (List.mem_of_getElem? (i := 71) rfl))) (by decide) (t := (.object "java/time/Duration")) (t' := (.object "java/util/List")) (by decide) (by decide)))
  have c282 : Fld Z h275 a "com/example/keelreach/keelreach/RedisOptions" "connectTimeout" "Ljava/time/Duration;" (.ref r152) := c264.other W275 (Or.inr (slot_ne (Or.inl (hw _ (List.mem_of_getElem? (i := 49) rfl))) (Or.inl (hw _ (List.mem_of_getElem? (i := 71) rfl))) (by decide) (t := (.object "java/time/Duration")) (t' := (.object "java/util/List")) (by decide) (by decide)))
  have c283 : Fld Z h275 a "com/example/keelreach/keelreach/RedisOptions" "commandTimeout" "Ljava/time/Duration;" (.ref w_ZERO) := c265.other W275 (Or.inr (slot_ne (Or.inl (hw _ (List.mem_of_getElem? (i := 52) rfl))) (Or.inl (hw _ (List.mem_of_getElem? (i := 71) rfl))) (by decide) (t := (.object "java/time/Duration")) (t' := (.object "java/util/List")) (by decide) (by decide)))
  have c284 : Fld Z h275 a "com/example/keelreach/keelreach/RedisOptions" "maxCommandsInFlight" "I" (.int (10000 : Int32)) := c266.other W275 (Or.inr (slot_ne (Or.inl (hw _ (List.mem_of_getElem? (i := 54) rfl))) (Or.inl (hw _ (List.mem_of_getElem? (i := 71) rfl))) (by decide) (t := .int) (t' := (.object "java/util/List")) (by decide) (by decide)))
  have c285 : Fld Z h275 a "com/example/keelreach/keelreach/RedisOptions" "autoPipeliningInterval" "Ljava/time/Duration;" (.ref r222) := c267.other W275 (Or.inr (slot_ne (Or.inl (hw _ (List.mem_of_getElem? (i := 61) rfl))) (Or.inl (hw _ (List.mem_of_getElem? (i := 71) rfl))) (by decide) (t := (.object "java/time/Duration")) (t' := (.object "java/util/List")) (by decide) (by decide)))
  have c286 : Fld Z h275 a "com/example/keelreach/keelreach/RedisOptions" "autoPipeliningThreshold" "I" (.int (128 : Int32)) := c268.other W275 (Or.inr (slot_ne (Or.inl (hw _ (List.mem_of_getElem? (i := 63) rfl))) (Or.inl (hw _ (List.mem_of_getElem? (i := 71) rfl))) (by decide) (t := .int) (t' := (.object "java/util/List")) (by decide) (by decide)))
  have c287 : Fld Z h275 a "com/example/keelreach/keelreach/RedisOptions" "trustedCertificates" "Ljava/util/List;" (.ref w_EL) := c269.same W275
  have c288 : Fld Z h275 a "com/example/keelreach/keelreach/RedisOptions" "verifyHostName" "Z" o_verifyHostName := c270.other W275 (Or.inr (slot_ne (Or.inl (hw _ (List.mem_of_getElem? (i := 73) rfl))) (Or.inl (hw _ (List.mem_of_getElem? (i := 71) rfl))) (by decide) (t := .boolean) (t' := (.object "java/util/List")) (by decide) (by decide)))
  have c289 : Sta Z h275 "com/example/keelreach/keelreach/ProtocolVersion" "RESP3" "Lcom/example/keelreach/keelreach/ProtocolVersion;" (.ref w_RESP3) := c271.wr W275
  have c290 : Sta Z h275 "java/time/Duration" "ZERO" "Ljava/time/Duration;" (.ref w_ZERO) := c272.wr W275
  have c291 : Sta Z h275 "java/util/ImmutableCollections" "EMPTY_LIST" "Ljava/util/ImmutableCollections$ListN;" (.ref w_EL) := c273.wr W275
  obtain ⟨T292, h292, X292, e292, W292, st292⟩ := putFN X275 hx hZ hown (hw _ (List.mem_of_getElem? (i := 72) rfl)) Via.refl e275 c288 c276 (Or.inl (hw _ (List.mem_of_getElem? (i := 73) rfl))) (hw _ (List.mem_of_getElem? (i := 6) rfl)) (ty := .boolean) (v' := (.int (1 : Int32))) (by decide) rfl (by decide) (g := (mkF m 91 #[.val (.ref a)] [(.int (1 : Int32)), (.ref a)])) rfl rfl (hb hby d2_91)
  have N292 := Fr.snoc X292 N275 gg_a
  have K292 := Keep.wr K275 W292 (Or.inl (List.mem_of_getElem? (i := 0) rfl))
  have Zs292 := Nat.le_trans Zs275 (Keep.of_wr W292).1
  have c293 : Exa Z h292 a "com/example/keelreach/keelreach/RedisOptions" := c276.wr W292
  have c294 : Fld Z h292 a "com/example/keelreach/keelreach/RedisOptions" "preferredProtocolVersion" "Lcom/example/keelreach/keelreach/ProtocolVersion;" (.ref w_RESP3) := c277.other W292 (Or.inr (slot_ne (Or.inl (hw _ (List.mem_of_getElem? (i := 18) rfl))) (Or.inl (hw _ (List.mem_of_getElem? (i := 73) rfl))) (by decide) (t := (.object "com/example/keelreach/keelreach/ProtocolVersion")) (t' := .boolean) (by decide) (by decide)))
  have c295 : Fld Z h292 a "com/example/keelreach/keelreach/RedisOptions" "maxPoolSize" "I" (.int (6 : Int32)) := c278.other W292 (Or.inr (slot_ne (Or.inl (hw _ (List.mem_of_getElem? (i := 20) rfl))) (Or.inl (hw _ (List.mem_of_getElem? (i := 73) rfl))) (by decide) (t := .int) (t' := .boolean) (by decide) (by decide)))
  have c296 : Fld Z h292 a "com/example/keelreach/keelreach/RedisOptions" "maxPoolWaiting" "I" (.int (24 : Int32)) := c279.other W292 (Or.inr (slot_ne (Or.inl (hw _ (List.mem_of_getElem? (i := 22) rfl))) (Or.inl (hw _ (List.mem_of_getElem? (i := 73) rfl))) (by decide) (t := .int) (t' := .boolean) (by decide) (by decide)))
  have c297 : Fld Z h292 a "com/example/keelreach/keelreach/RedisOptions" "poolCleanerInterval" "Ljava/time/Duration;" (.ref r82) := c280.other W292 (Or.inr (slot_ne (Or.inl (hw _ (List.mem_of_getElem? (i := 43) rfl))) (Or.inl (hw _ (List.mem_of_getElem? (i := 73) rfl))) (by decide) (t := (.object "java/time/Duration")) (t' := .boolean) (by decide) (by decide)))
  have c298 : Fld Z h292 a "com/example/keelreach/keelreach/RedisOptions" "poolRecycleTimeout" "Ljava/time/Duration;" (.ref r117) := c281.other W292 (Or.inr (slot_ne (Or.inl (hw _ (List.mem_of_getElem? (i := 46) rfl))) (Or.inl (hw _ (List.mem_of_getElem? (i := 73) rfl))) (by decide) (t := (.object "java/time/Duration")) (t' := .boolean) (by decide) (by decide)))
  have c299 : Fld Z h292 a "com/example/keelreach/keelreach/RedisOptions" "connectTimeout" "Ljava/time/Duration;" (.ref r152) := c282.other W292 (Or.inr (slot_ne (Or.inl (hw _ (List.mem_of_getElem? (i := 49) rfl))) (Or.inl (hw _ (List.mem_of_getElem? (i := 73) rfl))) (by decide) (t := (.object "java/time/Duration")) (t' := .boolean) (by decide) (by decide)))
  have c300 : Fld Z h292 a "com/example/keelreach/keelreach/RedisOptions" "commandTimeout" "Ljava/time/Duration;" (.ref w_ZERO) := c283.other W292 (Or.inr (slot_ne (Or.inl (hw _ (List.mem_of_getElem? (i := 52) rfl))) (Or.inl (hw _ (List.mem_of_getElem? (i := 73) rfl))) (by decide) (t := (.object "java/time/Duration")) (t' := .boolean) (by decide) (by decide)))
  have c301 : Fld Z h292 a "com/example/keelreach/keelreach/RedisOptions" "maxCommandsInFlight" "I" (.int (10000 : Int32)) := c284.other W292 (Or.inr (slot_ne (Or.inl (hw _ (List.mem_of_getElem? (i := 54) rfl))) (Or.inl (hw _ (List.mem_of_getElem? (i := 73) rfl))) (by decide) (t := .int) (t' := .boolean) (by decide) (by decide)))
  have c302 : Fld Z h292 a "com/example/keelreach/keelreach/RedisOptions" "autoPipeliningInterval" "Ljava/time/Duration;" (.ref r222) := c285.other W292 (Or.inr (slot_ne (Or.inl (hw _ (List.mem_of_getElem? (i := 61) rfl))) (Or.inl (hw _ (List.mem_of_getElem? (i := 73) rfl))) (by decide) (t := (.object "java/time/Duration")) (t' := .boolean) (by decide) (by decide)))
  have c303 : Fld Z h292 a "com/example/keelreach/keelreach/RedisOptions" "autoPipeliningThreshold" "I" (.int (128 : Int32)) := c286.other W292 (Or.inr (slot_ne (Or.inl (hw _ (List.mem_of_getElem? (i := 63) rfl))) (Or.inl (hw _ (List.mem_of_getElem? (i := 73) rfl))) (by decide) (t := .int) (t' := .boolean) (by decide) (by decide)))
  have c304 : Fld Z h292 a "com/example/keelreach/keelreach/RedisOptions" "trustedCertificates" "Ljava/util/List;" (.ref w_EL) := c287.other W292 (Or.inr (slot_ne (Or.inl (hw _ (List.mem_of_getElem? (i := 71) rfl))) (Or.inl (hw _ (List.mem_of_getElem? (i := 73) rfl))) (by decide) (t := (.object "java/util/List")) (t' := .boolean) (by decide) (by decide)))
  have c305 : Fld Z h292 a "com/example/keelreach/keelreach/RedisOptions" "verifyHostName" "Z" (.int (1 : Int32)) := c288.same W292
  have c306 : Sta Z h292 "com/example/keelreach/keelreach/ProtocolVersion" "RESP3" "Lcom/example/keelreach/keelreach/ProtocolVersion;" (.ref w_RESP3) := c289.wr W292
  have c307 : Sta Z h292 "java/time/Duration" "ZERO" "Ljava/time/Duration;" (.ref w_ZERO) := c290.wr W292
  have c308 : Sta Z h292 "java/util/ImmutableCollections" "EMPTY_LIST" "Ljava/util/ImmutableCollections$ListN;" (.ref w_EL) := c291.wr W292
  have pre309 : ∀ t_, Steps p.tables e below (T292.setTop (mkF m 94 #[.val (.ref a)] [])) t_ → Steps p.tables e below (s₁.setTop (entryFrame m #[(.ref a)] 1)) t_ := fun t_ k_ => pre0 t_ (by
    show Steps p.tables e below (s₁.setTop (mkF m 0 #[.val (.ref a)] [])) _
    refine XS.aloadN X0.here hx rfl (hb hby d2_0) rfl rfl ?_
    show Steps p.tables e below (s₁.setTop (mkF m 1 #[.val (.ref a)] [(.ref a)])) _
    refine st29 _ ?_
    show Steps p.tables e below (T29.setTop (mkF m 4 #[.val (.ref a)] [])) _
    refine XS.aloadN X29.here hx rfl (hb hby d2_4) rfl rfl ?_
    show Steps p.tables e below (T29.setTop (mkF m 5 #[.val (.ref a)] [(.ref a)])) _
    refine st30 _ ?_
    show Steps p.tables e below (T30.setTop (mkF m 8 #[.val (.ref a)] [(.ref w_RESP3), (.ref a)])) _
    refine st31 _ ?_
    show Steps p.tables e below (T31.setTop (mkF m 11 #[.val (.ref a)] [])) _
    refine XS.aloadN X31.here hx rfl (hb hby d2_11) rfl rfl ?_
    show Steps p.tables e below (T31.setTop (mkF m 12 #[.val (.ref a)] [(.ref a)])) _
    refine XS.bipush X31.here hx rfl (hb hby d2_12) ?_
    show Steps p.tables e below (T31.setTop (mkF m 14 #[.val (.ref a)] [(.int (6 : Int32)), (.ref a)])) _
    refine st48 _ ?_
    show Steps p.tables e below (T48.setTop (mkF m 17 #[.val (.ref a)] [])) _
    refine XS.aloadN X48.here hx rfl (hb hby d2_17) rfl rfl ?_
    show Steps p.tables e below (T48.setTop (mkF m 18 #[.val (.ref a)] [(.ref a)])) _
    refine XS.bipush X48.here hx rfl (hb hby d2_18) ?_
    show Steps p.tables e below (T48.setTop (mkF m 20 #[.val (.ref a)] [(.int (24 : Int32)), (.ref a)])) _
    refine st65 _ ?_
    show Steps p.tables e below (T65.setTop (mkF m 23 #[.val (.ref a)] [])) _
    refine XS.aloadN X65.here hx rfl (hb hby d2_23) rfl rfl ?_
    show Steps p.tables e below (T65.setTop (mkF m 24 #[.val (.ref a)] [(.ref a)])) _
    refine X65.ldc2Long hx hown (mvT hZ (hw _ (List.mem_of_getElem? (i := 23) rfl))) (g := (mkF m 24 #[.val (.ref a)] [(.ref a)])) rfl (hb hby d2_24) _ ?_
    show Steps p.tables e below (T65.setTop (mkF m 27 #[.val (.ref a)] [(.long (30 : Int64)), (.ref a)])) _
    refine st82 _ ?_
    show Steps p.tables e below (T82.setTop (mkF m 30 #[.val (.ref a)] [(.ref r82), (.ref a)])) _
    refine st100 _ ?_
    show Steps p.tables e below (T100.setTop (mkF m 33 #[.val (.ref a)] [])) _
    refine XS.aloadN X100.here hx rfl (hb hby d2_33) rfl rfl ?_
    show Steps p.tables e below (T100.setTop (mkF m 34 #[.val (.ref a)] [(.ref a)])) _
    refine X100.ldc2Long hx hown (mvT hZ (hw _ (List.mem_of_getElem? (i := 44) rfl))) (g := (mkF m 34 #[.val (.ref a)] [(.ref a)])) rfl (hb hby d2_34) _ ?_
    show Steps p.tables e below (T100.setTop (mkF m 37 #[.val (.ref a)] [(.long (180 : Int64)), (.ref a)])) _
    refine st117 _ ?_
    show Steps p.tables e below (T117.setTop (mkF m 40 #[.val (.ref a)] [(.ref r117), (.ref a)])) _
    refine st135 _ ?_
    show Steps p.tables e below (T135.setTop (mkF m 43 #[.val (.ref a)] [])) _
    refine XS.aloadN X135.here hx rfl (hb hby d2_43) rfl rfl ?_
    show Steps p.tables e below (T135.setTop (mkF m 44 #[.val (.ref a)] [(.ref a)])) _
    refine X135.ldc2Long hx hown (mvT hZ (hw _ (List.mem_of_getElem? (i := 47) rfl))) (g := (mkF m 44 #[.val (.ref a)] [(.ref a)])) rfl (hb hby d2_44) _ ?_
    show Steps p.tables e below (T135.setTop (mkF m 47 #[.val (.ref a)] [(.long (10 : Int64)), (.ref a)])) _
    refine st152 _ ?_
    show Steps p.tables e below (T152.setTop (mkF m 50 #[.val (.ref a)] [(.ref r152), (.ref a)])) _
    refine st170 _ ?_
    show Steps p.tables e below (T170.setTop (mkF m 53 #[.val (.ref a)] [])) _
    refine XS.aloadN X170.here hx rfl (hb hby d2_53) rfl rfl ?_
    show Steps p.tables e below (T170.setTop (mkF m 54 #[.val (.ref a)] [(.ref a)])) _
    refine st187 _ ?_
    show Steps p.tables e below (T187.setTop (mkF m 57 #[.val (.ref a)] [(.ref w_ZERO), (.ref a)])) _
    refine st188 _ ?_
    show Steps p.tables e below (T188.setTop (mkF m 60 #[.val (.ref a)] [])) _
    refine XS.aloadN X188.here hx rfl (hb hby d2_60) rfl rfl ?_
    show Steps p.tables e below (T188.setTop (mkF m 61 #[.val (.ref a)] [(.ref a)])) _
    refine XS.sipush X188.here hx rfl (hb hby d2_61) ?_
    show Steps p.tables e below (T188.setTop (mkF m 64 #[.val (.ref a)] [(.int (10000 : Int32)), (.ref a)])) _
    refine st205 _ ?_
    show Steps p.tables e below (T205.setTop (mkF m 67 #[.val (.ref a)] [])) _
    refine XS.aloadN X205.here hx rfl (hb hby d2_67) rfl rfl ?_
    show Steps p.tables e below (T205.setTop (mkF m 68 #[.val (.ref a)] [(.ref a)])) _
    refine XS.lconst X205.here hx rfl (hb hby d2_68) ?_
    show Steps p.tables e below (T205.setTop (mkF m 69 #[.val (.ref a)] [(.long (1 : Int64)), (.ref a)])) _
    refine st222 _ ?_
    show Steps p.tables e below (T222.setTop (mkF m 72 #[.val (.ref a)] [(.ref r222), (.ref a)])) _
    refine st240 _ ?_
    show Steps p.tables e below (T240.setTop (mkF m 75 #[.val (.ref a)] [])) _
    refine XS.aloadN X240.here hx rfl (hb hby d2_75) rfl rfl ?_
    show Steps p.tables e below (T240.setTop (mkF m 76 #[.val (.ref a)] [(.ref a)])) _
    refine XS.sipush X240.here hx rfl (hb hby d2_76) ?_
    show Steps p.tables e below (T240.setTop (mkF m 79 #[.val (.ref a)] [(.int (128 : Int32)), (.ref a)])) _
    refine st257 _ ?_
    show Steps p.tables e below (T257.setTop (mkF m 82 #[.val (.ref a)] [])) _
    refine XS.aloadN X257.here hx rfl (hb hby d2_82) rfl rfl ?_
    show Steps p.tables e below (T257.setTop (mkF m 83 #[.val (.ref a)] [(.ref a)])) _
    refine st274 _ ?_
    show Steps p.tables e below (T274.setTop (mkF m 86 #[.val (.ref a)] [(.ref w_EL), (.ref a)])) _
    refine st275 _ ?_
    show Steps p.tables e below (T275.setTop (mkF m 89 #[.val (.ref a)] [])) _
    refine XS.aloadN X275.here hx rfl (hb hby d2_89) rfl rfl ?_
    show Steps p.tables e below (T275.setTop (mkF m 90 #[.val (.ref a)] [(.ref a)])) _
    refine XS.iconst X275.here hx rfl (hb hby d2_90) ?_
    show Steps p.tables e below (T275.setTop (mkF m 91 #[.val (.ref a)] [(.int (1 : Int32)), (.ref a)])) _
    refine st292 _ ?_
    show Steps p.tables e below (T292.setTop (mkF m 94 #[.val (.ref a)] [])) _
    exact k_)
  obtain ⟨fs, hr, hrun, hended, hW, hsame⟩ := X292.leave (v := none) (fun _ => rfl)
  refine ⟨_, _, pre309 _ ?_, hrun, hended, _, _, rfl, ?_, ⟨_, rfl⟩, hW, hsame.mono (by decide) (by decide)⟩
  · show Steps p.tables e below (T292.setTop (mkF m 94 #[.val (.ref a)] [])) _
    exact X292.returnOut hx Bd.returns (hb hby d2_94) hr
  · show Q_rinit Z a o_preferredProtocolVersion o_maxPoolSize o_maxPoolWaiting o_poolCleanerInterval o_poolRecycleTimeout o_connectTimeout o_commandTimeout o_maxCommandsInFlight o_autoPipeliningInterval o_autoPipeliningThreshold o_trustedCertificates o_verifyHostName w_RESP3 w_ZERO w_EL h0 n0 _ T292.heap _
    rw [e292]
    exact ⟨rfl, N292, K292, c293, c295, c296, c301, c303⟩
theorem ef_setMaxPoolSize (m : MethodId) (a : Addr) (n : Int32) : entryFrame m #[(.ref a), (.int n)] 2 = mkF m 0 #[.val (.ref a), .val (.int n)] [] := by first | (simp [entryFrame, mkF, argsToLocals, Value.category]; done) | rfl
def Q_setMaxPoolSize (Z : State) (a : Addr) (n : Int32) (o_maxPoolSize : Value) (o_maxPoolWaiting : Value) (o_maxCommandsInFlight : Value) (o_autoPipeliningThreshold : Value) (h0 : Heap) (n0 : Nat) (v : Option Value) (h : Heap) (L : List Loc) : Prop := v = some (.ref a) ∧ Fr n0 L ∧ Keep h0 h [a] ∧ Exa Z h a "com/example/keelreach/keelreach/RedisOptions" ∧ Fld Z h a "com/example/keelreach/keelreach/RedisOptions" "maxPoolSize" "I" (.int n) ∧ Fld Z h a "com/example/keelreach/keelreach/RedisOptions" "maxPoolWaiting" "I" o_maxPoolWaiting ∧ Fld Z h a "com/example/keelreach/keelreach/RedisOptions" "maxCommandsInFlight" "I" o_maxCommandsInFlight ∧ Fld Z h a "com/example/keelreach/keelreach/RedisOptions" "autoPipeliningThreshold" "I" o_autoPipeliningThreshold
theorem d10_0 : decode prog_6_method_7_code 0 = .ok (.iload_n 1, 1) := by decide +kernel
theorem d10_1 : decode prog_6_method_7_code 1 = .ok (.iconst 1, 1) := by decide +kernel
theorem d10_2 : decode prog_6_method_7_code 2 = .ok (.if_icmp .ge 17, 3) := by decide +kernel
theorem d10_19 : decode prog_6_method_7_code 19 = .ok (.aload_n 0, 1) := by decide +kernel
theorem d10_20 : decode prog_6_method_7_code 20 = .ok (.iload_n 1, 1) := by decide +kernel
theorem d10_21 : decode prog_6_method_7_code 21 = .ok (.putfield 18, 3) := by decide +kernel
theorem d10_24 : decode prog_6_method_7_code 24 = .ok (.aload_n 0, 1) := by decide +kernel
theorem d10_25 : decode prog_6_method_7_code 25 = .ok (.areturn, 1) := by decide +kernel
set_option maxRecDepth 65536 in
set_option maxHeartbeats 40000000 in
theorem rm_setMaxPoolSize (l : Launch) (Z : State) (a0 : Array Value) (hw : ∀ d ∈ tables_1, d.before a0 Z = true) (ws : List Jvm.Cond) (a : Addr) (n : Int32) (o_maxPoolSize : Value) (o_maxPoolWaiting : Value) (o_maxCommandsInFlight : Value) (o_autoPipeliningThreshold : Value) (h0 : Heap) (n0 : Nat) (Z0 : n0 ≤ h0.size) (E_a : Exa Z h0 a "com/example/keelreach/keelreach/RedisOptions") (gg_a : n0 ≤ a) (F_maxPoolSize : Fld Z h0 a "com/example/keelreach/keelreach/RedisOptions" "maxPoolSize" "I" o_maxPoolSize) (F_maxPoolWaiting : Fld Z h0 a "com/example/keelreach/keelreach/RedisOptions" "maxPoolWaiting" "I" o_maxPoolWaiting) (F_maxCommandsInFlight : Fld Z h0 a "com/example/keelreach/keelreach/RedisOptions" "maxCommandsInFlight" "I" o_maxCommandsInFlight) (F_autoPipeliningThreshold : Fld Z h0 a "com/example/keelreach/keelreach/RedisOptions" "autoPipeliningThreshold" "I" o_autoPipeliningThreshold) (hn : ¬ (n < (1 : Int32))) :
    MetFree l (⟨"com/example/keelreach/keelreach/RedisOptions", "setMaxPoolSize", "(I)Lcom/example/keelreach/keelreach/RedisOptions;"⟩ : MethodName) (head1 (Jvm.Cond.code (⟨"com/example/keelreach/keelreach/RedisOptions", "setMaxPoolSize", "(I)Lcom/example/keelreach/keelreach/RedisOptions;"⟩ : MethodName) prog_6_method_7_code 2 (some (.object "com/example/keelreach/keelreach/RedisOptions")) :: ws) ({ frames := 0, cells := 0, slots := 0, locals := 0 } : Room)) (fun a_ U_ => a_ = #[(.ref a), (.int n)] ∧ Z.Warmed39 U_.vm ∧ U_.heap = h0) (fun _ _ _ _ _ => True) (fun _ U_ o_ V_ => ∃ v_ L_, o_ = .returned v_ ∧ Q_setMaxPoolSize Z a n o_maxPoolSize o_maxPoolWaiting o_maxCommandsInFlight o_autoPipeliningThreshold h0 n0 v_ V_.heap L_ ∧ FrameEnd U_ o_ V_ L_ ({ frames := 0, cells := 0, slots := 0, locals := 0 } : Room).cells ({ frames := 0, cells := 0, slots := 0, locals := 0 } : Room).slots) := by
  refine MetFree.of_bodySF (plainFor_of_name pn_2) hisR ?_
  intro p e s m args below meth c s₁ Bd hml0 hP hK
  obtain ⟨rfl, hZ, hh⟩ := hP
  have hx := Bd.exec
  have hby := Bd.bytes
  have hml : c.maxLocals = 2 := hml0
  have hown : s.vm.findClass "com/example/keelreach/keelreach/RedisOptions" = some m.cls := findClass_of_methodNamed Bd.named
  have hnm := (name_of_methodNamed Bd.named Bd.method).1
  have X0 : Stand p l e ({ frames := 0, cells := 0, slots := 0, locals := 0 } : Room) s m #[(.ref a), (.int n)] below meth c s₁ [] 0 0 := Stand.of_body Bd
  have e0 : s₁.heap = h0 := by rw [← hh, Bd.state]; rfl
  have N0 := Fr.nil n0
  have pre0 : ∀ t_, Steps p.tables e below (s₁.setTop (mkF m 0 #[.val (.ref a), .val (.int n)] [])) t_ → Steps p.tables e below (s₁.setTop (entryFrame m #[(.ref a), (.int n)] 2)) t_ := fun t_ k_ => castTop (ef_setMaxPoolSize m a n) k_
  have O0 := own_ext_refl h0
  have K0 := Keep.refl h0 [a]
  obtain ⟨T310, h310, X310, e310, W310, st310⟩ := putF X0 hx hZ hown (host := "") (Or.inl (hw _ (List.mem_of_getElem? (i := 19) rfl))) Via.refl e0 F_maxPoolSize E_a (Or.inl (hw _ (List.mem_of_getElem? (i := 20) rfl))) (hw _ (List.mem_of_getElem? (i := 6) rfl)) (ty := .int) (by decide) rfl rfl (g := (mkF m 21 #[.val (.ref a), .val (.int n)] [(.int n), (.ref a)])) rfl rfl (hb hby d10_21)
  have N310 := Fr.snoc X310 N0 gg_a
  have K310 := Keep.wr K0 W310 (Or.inl (List.mem_of_getElem? (i := 0) rfl))
  have Zs310 := Nat.le_trans Z0 (Keep.of_wr W310).1
  have c311 : Exa Z h310 a "com/example/keelreach/keelreach/RedisOptions" := E_a.wr W310
  have c312 : Fld Z h310 a "com/example/keelreach/keelreach/RedisOptions" "maxPoolSize" "I" (.int n) := F_maxPoolSize.same W310
  have c313 : Fld Z h310 a "com/example/keelreach/keelreach/RedisOptions" "maxPoolWaiting" "I" o_maxPoolWaiting := F_maxPoolWaiting.other W310 (Or.inr (slot_ne (Or.inl (hw _ (List.mem_of_getElem? (i := 22) rfl))) (Or.inl (hw _ (List.mem_of_getElem? (i := 20) rfl))) (by decide) (t := .int) (t' := .int) (by decide) (by decide)))
  have c314 : Fld Z h310 a "com/example/keelreach/keelreach/RedisOptions" "maxCommandsInFlight" "I" o_maxCommandsInFlight := F_maxCommandsInFlight.other W310 (Or.inr (slot_ne (Or.inl (hw _ (List.mem_of_getElem? (i := 54) rfl))) (Or.inl (hw _ (List.mem_of_getElem? (i := 20) rfl))) (by decide) (t := .int) (t' := .int) (by decide) (by decide)))
  have c315 : Fld Z h310 a "com/example/keelreach/keelreach/RedisOptions" "autoPipeliningThreshold" "I" o_autoPipeliningThreshold := F_autoPipeliningThreshold.other W310 (Or.inr (slot_ne (Or.inl (hw _ (List.mem_of_getElem? (i := 63) rfl))) (Or.inl (hw _ (List.mem_of_getElem? (i := 20) rfl))) (by decide) (t := .int) (t' := .int) (by decide) (by decide)))
  have pre316 : ∀ t_, Steps p.tables e below (T310.setTop (mkF m 25 #[.val (.ref a), .val (.int n)] [(.ref a)])) t_ → Steps p.tables e below (s₁.setTop (entryFrame m #[(.ref a), (.int n)] 2)) t_ := fun t_ k_ => pre0 t_ (by
    show Steps p.tables e below (s₁.setTop (mkF m 0 #[.val (.ref a), .val (.int n)] [])) _
    refine XS.iloadN X0.here hx rfl (hb hby d10_0) rfl ?_
    show Steps p.tables e below (s₁.setTop (mkF m 1 #[.val (.ref a), .val (.int n)] [(.int n)])) _
    refine XS.iconst X0.here hx rfl (hb hby d10_1) ?_
    show Steps p.tables e below (s₁.setTop (mkF m 2 #[.val (.ref a), .val (.int n)] [(.int (1 : Int32)), (.int n)])) _
    refine XS.icmpYes X0.here hx rfl (pc0 := 2) (pc' := 19) rfl (hb hby d10_2) rfl (flt hn).2.1 (by decide) (by decide) ?_
    show Steps p.tables e below (s₁.setTop (mkF m 19 #[.val (.ref a), .val (.int n)] [])) _
    refine XS.aloadN X0.here hx rfl (hb hby d10_19) rfl rfl ?_
    show Steps p.tables e below (s₁.setTop (mkF m 20 #[.val (.ref a), .val (.int n)] [(.ref a)])) _
    refine XS.iloadN X0.here hx rfl (hb hby d10_20) rfl ?_
    show Steps p.tables e below (s₁.setTop (mkF m 21 #[.val (.ref a), .val (.int n)] [(.int n), (.ref a)])) _
    refine st310 _ ?_
    show Steps p.tables e below (T310.setTop (mkF m 24 #[.val (.ref a), .val (.int n)] [])) _
    refine XS.aloadN X310.here hx rfl (hb hby d10_24) rfl rfl ?_
    show Steps p.tables e below (T310.setTop (mkF m 25 #[.val (.ref a), .val (.int n)] [(.ref a)])) _
    exact k_)
  obtain ⟨fs, hr, hrun, hended, hW, hsame⟩ := X310.leave (v := some (.ref a)) (fun h => by rw [Bd.returns] at h; cases h)
  refine ⟨_, _, pre316 _ ?_, hrun, hended, _, _, rfl, ?_, ⟨_, rfl⟩, hW, hsame.mono (by decide) (by decide)⟩
  · show Steps p.tables e below (T310.setTop (mkF m 25 #[.val (.ref a), .val (.int n)] [(.ref a)])) _
    exact retA X310 hx Bd.returns rfl rfl rfl (hb hby d10_25) hr
  · show Q_setMaxPoolSize Z a n o_maxPoolSize o_maxPoolWaiting o_maxCommandsInFlight o_autoPipeliningThreshold h0 n0 _ T310.heap _
    rw [e310]
    exact ⟨rfl, N310, K310, c311, c312, c313, c314, c315⟩
theorem ef_getMaxPoolSize (m : MethodId) (a : Addr) : entryFrame m #[(.ref a)] 1 = mkF m 0 #[.val (.ref a)] [] := by first | (simp [entryFrame, mkF, argsToLocals, Value.category]; done) | rfl
def Q_getMaxPoolSize (Z : State) (a : Addr) (t : Int32) (h0 : Heap) (n0 : Nat) (v : Option Value) (h : Heap) (L : List Loc) : Prop := v = some (.int t) ∧ Fr n0 L ∧ h = h0
theorem d9_0 : decode prog_6_method_6_code 0 = .ok (.aload_n 0, 1) := by decide +kernel
theorem d9_1 : decode prog_6_method_6_code 1 = .ok (.getfield 18, 3) := by decide +kernel
theorem d9_4 : decode prog_6_method_6_code 4 = .ok (.ireturn, 1) := by decide +kernel
set_option maxRecDepth 65536 in
set_option maxHeartbeats 40000000 in
theorem rm_getMaxPoolSize (l : Launch) (Z : State) (a0 : Array Value) (hw : ∀ d ∈ tables_1, d.before a0 Z = true) (ws : List Jvm.Cond) (a : Addr) (t : Int32) (h0 : Heap) (n0 : Nat) (Z0 : n0 ≤ h0.size) (Ft : Fld Z h0 a "com/example/keelreach/keelreach/RedisOptions" "maxPoolSize" "I" (.int t)) :
    MetFree l (⟨"com/example/keelreach/keelreach/RedisOptions", "getMaxPoolSize", "()I"⟩ : MethodName) (head1 (Jvm.Cond.code (⟨"com/example/keelreach/keelreach/RedisOptions", "getMaxPoolSize", "()I"⟩ : MethodName) prog_6_method_6_code 1 (some .int) :: ws) ({ frames := 0, cells := 0, slots := 0, locals := 0 } : Room)) (fun a_ U_ => a_ = #[(.ref a)] ∧ Z.Warmed39 U_.vm ∧ U_.heap = h0) (fun _ _ _ _ _ => True) (fun _ U_ o_ V_ => ∃ v_ L_, o_ = .returned v_ ∧ Q_getMaxPoolSize Z a t h0 n0 v_ V_.heap L_ ∧ FrameEnd U_ o_ V_ L_ ({ frames := 0, cells := 0, slots := 0, locals := 0 } : Room).cells ({ frames := 0, cells := 0, slots := 0, locals := 0 } : Room).slots) := by
  refine MetFree.of_bodySF (plainFor_of_name pn_2) hisR ?_
  intro p e s m args below meth c s₁ Bd hml0 hP hK
  obtain ⟨rfl, hZ, hh⟩ := hP
  have hx := Bd.exec
  have hby := Bd.bytes
  have hml : c.maxLocals = 1 := hml0
  have hown : s.vm.findClass "com/example/keelreach/keelreach/RedisOptions" = some m.cls := findClass_of_methodNamed Bd.named
  have hnm := (name_of_methodNamed Bd.named Bd.method).1
  have X0 : Stand p l e ({ frames := 0, cells := 0, slots := 0, locals := 0 } : Room) s m #[(.ref a)] below meth c s₁ [] 0 0 := Stand.of_body Bd
  have e0 : s₁.heap = h0 := by rw [← hh, Bd.state]; rfl
  have N0 := Fr.nil n0
  have pre0 : ∀ t_, Steps p.tables e below (s₁.setTop (mkF m 0 #[.val (.ref a)] [])) t_ → Steps p.tables e below (s₁.setTop (entryFrame m #[(.ref a)] 1)) t_ := fun t_ k_ => castTop (ef_getMaxPoolSize m a) k_
  obtain ⟨T317, X317, e317, st317⟩ := getF X0 hx hZ hown (host := "") (Or.inl (hw _ (List.mem_of_getElem? (i := 19) rfl))) Via.refl e0 Ft (g := (mkF m 1 #[.val (.ref a)] [(.ref a)])) rfl rfl (hb hby d9_1)
  have pre318 : ∀ t_, Steps p.tables e below (T317.setTop (mkF m 4 #[.val (.ref a)] [(.int t)])) t_ → Steps p.tables e below (s₁.setTop (entryFrame m #[(.ref a)] 1)) t_ := fun t_ k_ => pre0 t_ (by
    show Steps p.tables e below (s₁.setTop (mkF m 0 #[.val (.ref a)] [])) _
    refine XS.aloadN X0.here hx rfl (hb hby d9_0) rfl rfl ?_
    show Steps p.tables e below (s₁.setTop (mkF m 1 #[.val (.ref a)] [(.ref a)])) _
    refine st317 _ ?_
    show Steps p.tables e below (T317.setTop (mkF m 4 #[.val (.ref a)] [(.int t)])) _
    exact k_)
  obtain ⟨fs, hr, hrun, hended, hW, hsame⟩ := X317.leave (v := some (.int t)) (fun h => by rw [Bd.returns] at h; cases h)
  refine ⟨_, _, pre318 _ ?_, hrun, hended, _, _, rfl, ?_, ⟨_, rfl⟩, hW, hsame.mono (by decide) (by decide)⟩
  · show Steps p.tables e below (T317.setTop (mkF m 4 #[.val (.ref a)] [(.int t)])) _
    exact retI X317 hx Bd.returns (hb hby d9_4) hr
  · show Q_getMaxPoolSize Z a t h0 n0 _ T317.heap _
    rw [e317]
    exact ⟨rfl, N0, rfl⟩
theorem ef_getMaxPoolWaiting (m : MethodId) (a : Addr) : entryFrame m #[(.ref a)] 1 = mkF m 0 #[.val (.ref a)] [] := by first | (simp [entryFrame, mkF, argsToLocals, Value.category]; done) | rfl
def Q_getMaxPoolWaiting (Z : State) (a : Addr) (t : Int32) (h0 : Heap) (n0 : Nat) (v : Option Value) (h : Heap) (L : List Loc) : Prop := v = some (.int t) ∧ Fr n0 L ∧ h = h0
theorem d11_0 : decode prog_6_method_8_code 0 = .ok (.aload_n 0, 1) := by decide +kernel
theorem d11_1 : decode prog_6_method_8_code 1 = .ok (.getfield 22, 3) := by decide +kernel
theorem d11_4 : decode prog_6_method_8_code 4 = .ok (.ireturn, 1) := by decide +kernel
set_option maxRecDepth 65536 in
set_option maxHeartbeats 40000000 in
theorem rm_getMaxPoolWaiting (l : Launch) (Z : State) (a0 : Array Value) (hw : ∀ d ∈ tables_1, d.before a0 Z = true) (ws : List Jvm.Cond) (a : Addr) (t : Int32) (h0 : Heap) (n0 : Nat) (Z0 : n0 ≤ h0.size) (Ft : Fld Z h0 a "com/example/keelreach/keelreach/RedisOptions" "maxPoolWaiting" "I" (.int t)) :
    MetFree l (⟨"com/example/keelreach/keelreach/RedisOptions", "getMaxPoolWaiting", "()I"⟩ : MethodName) (head1 (Jvm.Cond.code (⟨"com/example/keelreach/keelreach/RedisOptions", "getMaxPoolWaiting", "()I"⟩ : MethodName) prog_6_method_8_code 1 (some .int) :: ws) ({ frames := 0, cells := 0, slots := 0, locals := 0 } : Room)) (fun a_ U_ => a_ = #[(.ref a)] ∧ Z.Warmed39 U_.vm ∧ U_.heap = h0) (fun _ _ _ _ _ => True) (fun _ U_ o_ V_ => ∃ v_ L_, o_ = .returned v_ ∧ Q_getMaxPoolWaiting Z a t h0 n0 v_ V_.heap L_ ∧ FrameEnd U_ o_ V_ L_ ({ frames := 0, cells := 0, slots := 0, locals := 0 } : Room).cells ({ frames := 0, cells := 0, slots := 0, locals := 0 } : Room).slots) := by
  refine MetFree.of_bodySF (plainFor_of_name pn_2) hisR ?_
  intro p e s m args below meth c s₁ Bd hml0 hP hK
  obtain ⟨rfl, hZ, hh⟩ := hP
  have hx := Bd.exec
  have hby := Bd.bytes
  have hml : c.maxLocals = 1 := hml0
  have hown : s.vm.findClass "com/example/keelreach/keelreach/RedisOptions" = some m.cls := findClass_of_methodNamed Bd.named
  have hnm := (name_of_methodNamed Bd.named Bd.method).1
  have X0 : Stand p l e ({ frames := 0, cells := 0, slots := 0, locals := 0 } : Room) s m #[(.ref a)] below meth c s₁ [] 0 0 := Stand.of_body Bd
  have e0 : s₁.heap = h0 := by rw [← hh, Bd.state]; rfl
  have N0 := Fr.nil n0
  have pre0 : ∀ t_, Steps p.tables e below (s₁.setTop (mkF m 0 #[.val (.ref a)] [])) t_ → Steps p.tables e below (s₁.setTop (entryFrame m #[(.ref a)] 1)) t_ := fun t_ k_ => castTop (ef_getMaxPoolWaiting m a) k_
  obtain ⟨T319, X319, e319, st319⟩ := getF X0 hx hZ hown (host := "") (Or.inl (hw _ (List.mem_of_getElem? (i := 21) rfl))) Via.refl e0 Ft (g := (mkF m 1 #[.val (.ref a)] [(.ref a)])) rfl rfl (hb hby d11_1)
  have pre320 : ∀ t_, Steps p.tables e below (T319.setTop (mkF m 4 #[.val (.ref a)] [(.int t)])) t_ → Steps p.tables e below (s₁.setTop (entryFrame m #[(.ref a)] 1)) t_ := fun t_ k_ => pre0 t_ (by
    show Steps p.tables e below (s₁.setTop (mkF m 0 #[.val (.ref a)] [])) _
    refine XS.aloadN X0.here hx rfl (hb hby d11_0) rfl rfl ?_
    show Steps p.tables e below (s₁.setTop (mkF m 1 #[.val (.ref a)] [(.ref a)])) _
    refine st319 _ ?_
    show Steps p.tables e below (T319.setTop (mkF m 4 #[.val (.ref a)] [(.int t)])) _
    exact k_)
  obtain ⟨fs, hr, hrun, hended, hW, hsame⟩ := X319.leave (v := some (.int t)) (fun h => by rw [Bd.returns] at h; cases h)
  refine ⟨_, _, pre320 _ ?_, hrun, hended, _, _, rfl, ?_, ⟨_, rfl⟩, hW, hsame.mono (by decide) (by decide)⟩
  · show Steps p.tables e below (T319.setTop (mkF m 4 #[.val (.ref a)] [(.int t)])) _
    exact retI X319 hx Bd.returns (hb hby d11_4) hr
  · show Q_getMaxPoolWaiting Z a t h0 n0 _ T319.heap _
    rw [e319]
    exact ⟨rfl, N0, rfl⟩
theorem ef_getMaxCommandsInFlight (m : MethodId) (a : Addr) : entryFrame m #[(.ref a)] 1 = mkF m 0 #[.val (.ref a)] [] := by first | (simp [entryFrame, mkF, argsToLocals, Value.category]; done) | rfl
def Q_getMaxCommandsInFlight (Z : State) (a : Addr) (t : Int32) (h0 : Heap) (n0 : Nat) (v : Option Value) (h : Heap) (L : List Loc) : Prop := v = some (.int t) ∧ Fr n0 L ∧ h = h0
theorem d12_0 : decode prog_6_method_18_code 0 = .ok (.aload_n 0, 1) := by decide +kernel
theorem d12_1 : decode prog_6_method_18_code 1 = .ok (.getfield 53, 3) := by decide +kernel
theorem d12_4 : decode prog_6_method_18_code 4 = .ok (.ireturn, 1) := by decide +kernel
set_option maxRecDepth 65536 in
set_option maxHeartbeats 40000000 in
theorem rm_getMaxCommandsInFlight (l : Launch) (Z : State) (a0 : Array Value) (hw : ∀ d ∈ tables_1, d.before a0 Z = true) (ws : List Jvm.Cond) (a : Addr) (t : Int32) (h0 : Heap) (n0 : Nat) (Z0 : n0 ≤ h0.size) (Ft : Fld Z h0 a "com/example/keelreach/keelreach/RedisOptions" "maxCommandsInFlight" "I" (.int t)) :
    MetFree l (⟨"com/example/keelreach/keelreach/RedisOptions", "getMaxCommandsInFlight", "()I"⟩ : MethodName) (head1 (Jvm.Cond.code (⟨"com/example/keelreach/keelreach/RedisOptions", "getMaxCommandsInFlight", "()I"⟩ : MethodName) prog_6_method_18_code 1 (some .int) :: ws) ({ frames := 0, cells := 0, slots := 0, locals := 0 } : Room)) (fun a_ U_ => a_ = #[(.ref a)] ∧ Z.Warmed39 U_.vm ∧ U_.heap = h0) (fun _ _ _ _ _ => True) (fun _ U_ o_ V_ => ∃ v_ L_, o_ = .returned v_ ∧ Q_getMaxCommandsInFlight Z a t h0 n0 v_ V_.heap L_ ∧ FrameEnd U_ o_ V_ L_ ({ frames := 0, cells := 0, slots := 0, locals := 0 } : Room).cells ({ frames := 0, cells := 0, slots := 0, locals := 0 } : Room).slots) := by
  refine MetFree.of_bodySF (plainFor_of_name pn_2) hisR ?_
  intro p e s m args below meth c s₁ Bd hml0 hP hK
  obtain ⟨rfl, hZ, hh⟩ := hP
  have hx := Bd.exec
  have hby := Bd.bytes
  have hml : c.maxLocals = 1 := hml0
  have hown : s.vm.findClass "com/example/keelreach/keelreach/RedisOptions" = some m.cls := findClass_of_methodNamed Bd.named
  have hnm := (name_of_methodNamed Bd.named Bd.method).1
  have X0 : Stand p l e ({ frames := 0, cells := 0, slots := 0, locals := 0 } : Room) s m #[(.ref a)] below meth c s₁ [] 0 0 := Stand.of_body Bd
  have e0 : s₁.heap = h0 := by rw [← hh, Bd.state]; rfl
  have N0 := Fr.nil n0
  have pre0 : ∀ t_, Steps p.tables e below (s₁.setTop (mkF m 0 #[.val (.ref a)] [])) t_ → Steps p.tables e below (s₁.setTop (entryFrame m #[(.ref a)] 1)) t_ := fun t_ k_ => castTop (ef_getMaxCommandsInFlight m a) k_
  obtain ⟨T321, X321, e321, st321⟩ := getF X0 hx hZ hown (host := "") (Or.inl (hw _ (List.mem_of_getElem? (i := 53) rfl))) Via.refl e0 Ft (g := (mkF m 1 #[.val (.ref a)] [(.ref a)])) rfl rfl (hb hby d12_1)
  have pre322 : ∀ t_, Steps p.tables e below (T321.setTop (mkF m 4 #[.val (.ref a)] [(.int t)])) t_ → Steps p.tables e below (s₁.setTop (entryFrame m #[(.ref a)] 1)) t_ := fun t_ k_ => pre0 t_ (by
    show Steps p.tables e below (s₁.setTop (mkF m 0 #[.val (.ref a)] [])) _
    refine XS.aloadN X0.here hx rfl (hb hby d12_0) rfl rfl ?_
    show Steps p.tables e below (s₁.setTop (mkF m 1 #[.val (.ref a)] [(.ref a)])) _
    refine st321 _ ?_
    show Steps p.tables e below (T321.setTop (mkF m 4 #[.val (.ref a)] [(.int t)])) _
    exact k_)
  obtain ⟨fs, hr, hrun, hended, hW, hsame⟩ := X321.leave (v := some (.int t)) (fun h => by rw [Bd.returns] at h; cases h)
  refine ⟨_, _, pre322 _ ?_, hrun, hended, _, _, rfl, ?_, ⟨_, rfl⟩, hW, hsame.mono (by decide) (by decide)⟩
  · show Steps p.tables e below (T321.setTop (mkF m 4 #[.val (.ref a)] [(.int t)])) _
    exact retI X321 hx Bd.returns (hb hby d12_4) hr
  · show Q_getMaxCommandsInFlight Z a t h0 n0 _ T321.heap _
    rw [e321]
    exact ⟨rfl, N0, rfl⟩
theorem ef_getAutoPipeliningThreshold (m : MethodId) (a : Addr) : entryFrame m #[(.ref a)] 1 = mkF m 0 #[.val (.ref a)] [] := by first | (simp [entryFrame, mkF, argsToLocals, Value.category]; done) | rfl
def Q_getAutoPipeliningThreshold (Z : State) (a : Addr) (t : Int32) (h0 : Heap) (n0 : Nat) (v : Option Value) (h : Heap) (L : List Loc) : Prop := v = some (.int t) ∧ Fr n0 L ∧ h = h0
theorem d13_0 : decode prog_6_method_24_code 0 = .ok (.aload_n 0, 1) := by decide +kernel
theorem d13_1 : decode prog_6_method_24_code 1 = .ok (.getfield 62, 3) := by decide +kernel
theorem d13_4 : decode prog_6_method_24_code 4 = .ok (.ireturn, 1) := by decide +kernel
set_option maxRecDepth 65536 in
set_option maxHeartbeats 40000000 in
theorem rm_getAutoPipeliningThreshold (l : Launch) (Z : State) (a0 : Array Value) (hw : ∀ d ∈ tables_1, d.before a0 Z = true) (ws : List Jvm.Cond) (a : Addr) (t : Int32) (h0 : Heap) (n0 : Nat) (Z0 : n0 ≤ h0.size) (Ft : Fld Z h0 a "com/example/keelreach/keelreach/RedisOptions" "autoPipeliningThreshold" "I" (.int t)) :
    MetFree l (⟨"com/example/keelreach/keelreach/RedisOptions", "getAutoPipeliningThreshold", "()I"⟩ : MethodName) (head1 (Jvm.Cond.code (⟨"com/example/keelreach/keelreach/RedisOptions", "getAutoPipeliningThreshold", "()I"⟩ : MethodName) prog_6_method_24_code 1 (some .int) :: ws) ({ frames := 0, cells := 0, slots := 0, locals := 0 } : Room)) (fun a_ U_ => a_ = #[(.ref a)] ∧ Z.Warmed39 U_.vm ∧ U_.heap = h0) (fun _ _ _ _ _ => True) (fun _ U_ o_ V_ => ∃ v_ L_, o_ = .returned v_ ∧ Q_getAutoPipeliningThreshold Z a t h0 n0 v_ V_.heap L_ ∧ FrameEnd U_ o_ V_ L_ ({ frames := 0, cells := 0, slots := 0, locals := 0 } : Room).cells ({ frames := 0, cells := 0, slots := 0, locals := 0 } : Room).slots) := by
  refine MetFree.of_bodySF (plainFor_of_name pn_2) hisR ?_
  intro p e s m args below meth c s₁ Bd hml0 hP hK
  obtain ⟨rfl, hZ, hh⟩ := hP
  have hx := Bd.exec
  have hby := Bd.bytes
  have hml : c.maxLocals = 1 := hml0
  have hown : s.vm.findClass "com/example/keelreach/keelreach/RedisOptions" = some m.cls := findClass_of_methodNamed Bd.named
  have hnm := (name_of_methodNamed Bd.named Bd.method).1
  have X0 : Stand p l e ({ frames := 0, cells := 0, slots := 0, locals := 0 } : Room) s m #[(.ref a)] below meth c s₁ [] 0 0 := Stand.of_body Bd
  have e0 : s₁.heap = h0 := by rw [← hh, Bd.state]; rfl
  have N0 := Fr.nil n0
  have pre0 : ∀ t_, Steps p.tables e below (s₁.setTop (mkF m 0 #[.val (.ref a)] [])) t_ → Steps p.tables e below (s₁.setTop (entryFrame m #[(.ref a)] 1)) t_ := fun t_ k_ => castTop (ef_getAutoPipeliningThreshold m a) k_
  obtain ⟨T323, X323, e323, st323⟩ := getF X0 hx hZ hown (host := "") (Or.inl (hw _ (List.mem_of_getElem? (i := 62) rfl))) Via.refl e0 Ft (g := (mkF m 1 #[.val (.ref a)] [(.ref a)])) rfl rfl (hb hby d13_1)
  have pre324 : ∀ t_, Steps p.tables e below (T323.setTop (mkF m 4 #[.val (.ref a)] [(.int t)])) t_ → Steps p.tables e below (s₁.setTop (entryFrame m #[(.ref a)] 1)) t_ := fun t_ k_ => pre0 t_ (by
    show Steps p.tables e below (s₁.setTop (mkF m 0 #[.val (.ref a)] [])) _
    refine XS.aloadN X0.here hx rfl (hb hby d13_0) rfl rfl ?_
    show Steps p.tables e below (s₁.setTop (mkF m 1 #[.val (.ref a)] [(.ref a)])) _
    refine st323 _ ?_
    show Steps p.tables e below (T323.setTop (mkF m 4 #[.val (.ref a)] [(.int t)])) _
    exact k_)
  obtain ⟨fs, hr, hrun, hended, hW, hsame⟩ := X323.leave (v := some (.int t)) (fun h => by rw [Bd.returns] at h; cases h)
  refine ⟨_, _, pre324 _ ?_, hrun, hended, _, _, rfl, ?_, ⟨_, rfl⟩, hW, hsame.mono (by decide) (by decide)⟩
  · show Steps p.tables e below (T323.setTop (mkF m 4 #[.val (.ref a)] [(.int t)])) _
    exact retI X323 hx Bd.returns (hb hby d13_4) hr
  · show Q_getAutoPipeliningThreshold Z a t h0 n0 _ T323.heap _
    rw [e323]
    exact ⟨rfl, N0, rfl⟩
theorem ef_0 (m : MethodId) (k0 : Int32) (k1 : Int32) (k2 : Int32) : entryFrame m #[(.int k0), (.int k1), (.int k2)] maxLocals = mkF m 0 #[.val (.int k0), .val (.int k1), .val (.int k2), .unset, .unset, .unset, .unset, .unset, .unset] [] := by first | (simp [entryFrame, mkF, argsToLocals, Value.category, maxLocals]; done) | rfl
def Q_0 (Z : State) (k0 : Int32) (k1 : Int32) (k2 : Int32) (w_RESP3 : Addr) (w_ZERO : Addr) (w_EL : Addr) (h0 : Heap) (n0 : Nat) (v : Option Value) (h : Heap) (L : List Loc) : Prop := v = some (.int (1 : Int32)) ∧ Fr n0 L
theorem pn_3 : plainName "com/example/keelreach/keelreach/RedisOptionsSetMaxPoolSizePinLaw" = true := by first | (simp [plainName, overriddenIn]; done) | decide +kernel
theorem pd_4 : parseMethodDescriptor "(II)I" = some ⟨[.int, .int], some .int⟩ := by decide +kernel
theorem pd_5 : parseMethodDescriptor "()V" = some ⟨[], none⟩ := by decide +kernel
theorem pd_6 : parseMethodDescriptor "()I" = some ⟨[], some .int⟩ := by decide +kernel
theorem pd_7 : parseMethodDescriptor "(I)Lcom/example/keelreach/keelreach/RedisOptions;" = some ⟨[.int], some (.object "com/example/keelreach/keelreach/RedisOptions")⟩ := by decide +kernel
set_option maxRecDepth 65536 in
set_option maxHeartbeats 40000000 in
theorem rm_0 (l : Launch) (Z : State) (a0 : Array Value) (hw : ∀ d ∈ tables_1, d.before a0 Z = true) (ws : List Jvm.Cond) (k0 : Int32) (k1 : Int32) (k2 : Int32) (w_RESP3 : Addr) (w_ZERO : Addr) (w_EL : Addr) (h0 : Heap) (n0 : Nat) (Z0 : n0 ≤ h0.size) (S_RESP3 : Sta Z h0 "com/example/keelreach/keelreach/ProtocolVersion" "RESP3" "Lcom/example/keelreach/keelreach/ProtocolVersion;" (.ref w_RESP3)) (S_ZERO : Sta Z h0 "java/time/Duration" "ZERO" "Ljava/time/Duration;" (.ref w_ZERO)) (S_EL : Sta Z h0 "java/util/ImmutableCollections" "EMPTY_LIST" "Ljava/util/ImmutableCollections$ListN;" (.ref w_EL)) :
    MetFree l x (head1 (Jvm.Cond.code x code maxLocals ret :: ws) room_1) (fun a_ U_ => a_ = #[(.int k0), (.int k1), (.int k2)] ∧ Z.Warmed39 U_.vm ∧ U_.heap = h0) (fun _ _ _ _ _ => True) (fun _ U_ o_ V_ => ∃ v_ L_, o_ = .returned v_ ∧ Q_0 Z k0 k1 k2 w_RESP3 w_ZERO w_EL h0 n0 v_ V_.heap L_ ∧ FrameEnd U_ o_ V_ L_ room_1.cells room_1.slots) := by
  refine MetFree.of_bodySF (plainFor_of_name pn_3) hisR ?_
  intro p e s m args below meth c s₁ Bd hml0 hP hK
  obtain ⟨rfl, hZ, hh⟩ := hP
  have hx := Bd.exec
  have hby := Bd.bytes
  have hml : c.maxLocals = 9 := hml0
  have hown : s.vm.findClass "com/example/keelreach/keelreach/RedisOptionsSetMaxPoolSizePinLaw" = some m.cls := findClass_of_methodNamed Bd.named
  have hnm := (name_of_methodNamed Bd.named Bd.method).1
  have X0 : Stand p l e room_1 s m #[(.int k0), (.int k1), (.int k2)] below meth c s₁ [] 0 0 := Stand.of_body Bd
  have e0 : s₁.heap = h0 := by rw [← hh, Bd.state]; rfl
  have N0 := Fr.nil n0
  have pre0 : ∀ t_, Steps p.tables e below (s₁.setTop (mkF m 0 #[.val (.int k0), .val (.int k1), .val (.int k2), .unset, .unset, .unset, .unset, .unset, .unset] [])) t_ → Steps p.tables e below (s₁.setTop (entryFrame m #[(.int k0), (.int k1), (.int k2)] maxLocals)) t_ := fun t_ k_ => castTop (ef_0 m k0 k1 k2) k_
  have O0 := own_ext_refl h0
  obtain ⟨v325, _, ⟨T325, L325, k325, n325⟩, -, X325, ⟨Lc325, hQ325, l325, y325, z325⟩, st325⟩ := Jvm.LawKit.callS X0 hx (y := (⟨"java/lang/Math", "max", "(II)I"⟩ : MethodName)) hown (mvT hZ (hw _ (List.mem_of_getElem? (i := 1) rfl))) (mvT hZ (hw _ (List.mem_of_getElem? (i := 2) rfl))) (mvT hZ (hw _ (List.mem_of_getElem? (i := 3) rfl))) (mvT hZ (hw _ (List.mem_of_getElem? (i := 4) rfl))) (by decide) (backOf (W := 0) (rm_max l Z a0 hw [] (1 : Int32) (k0 &&& (2147483647 : Int32)) h0 n0 Z0 ) hZ (hw _ (List.mem_of_getElem? (i := 4) rfl)) (hw _ (List.mem_of_getElem? (i := 3) rfl)) (by decide) (by decide)) (g := (mkF m 5 #[.val (.int k0), .val (.int k1), .val (.int k2), .unset, .unset, .unset, .unset, .unset, .unset] [(.int (k0 &&& (2147483647 : Int32))), (.int (1 : Int32))])) rfl (by rw [hml]; rfl) (argsL := [(.int (1 : Int32)), (.int (k0 &&& (2147483647 : Int32)))]) (rest := []) (lenOf pd_4 rfl) rfl (by show 2 * 0 + _ ≤ _; exact Nat.le_of_eq rfl) (hb hby at_5) (fun _ _ => ⟨rfl, e0, (by decide : 0 + 0 ≤ _), (by decide : 0 + 0 ≤ _)⟩)
  dsimp only [Pt.U, Pt.locs, Pt.cells, Pt.slots] at X325 l325 y325 z325 st325 hQ325
  subst l325 y325 z325
  obtain ⟨hv325, N325q, e325⟩ := hQ325
  have N325 := Fr.app N0 N325q
  subst hv325
  obtain ⟨v326, _, ⟨T326, L326, k326, n326⟩, -, X326, ⟨Lc326, hQ326, l326, y326, z326⟩, st326⟩ := Jvm.LawKit.callS X325 hx (y := (⟨"java/lang/Math", "max", "(II)I"⟩ : MethodName)) hown (mvT hZ (hw _ (List.mem_of_getElem? (i := 1) rfl))) (mvT hZ (hw _ (List.mem_of_getElem? (i := 2) rfl))) (mvT hZ (hw _ (List.mem_of_getElem? (i := 3) rfl))) (mvT hZ (hw _ (List.mem_of_getElem? (i := 4) rfl))) (by decide) (backOf (W := 0) (rm_max l Z a0 hw [] (1 : Int32) (k1 &&& (2147483647 : Int32)) h0 n0 Z0 ) hZ (hw _ (List.mem_of_getElem? (i := 4) rfl)) (hw _ (List.mem_of_getElem? (i := 3) rfl)) (by decide) (by decide)) (g := (mkF m 14 #[.val (.int k0), .val (.int k1), .val (.int k2), .val (.int (own_max (1 : Int32) (k0 &&& (2147483647 : Int32)))), .unset, .unset, .unset, .unset, .unset] [(.int (k1 &&& (2147483647 : Int32))), (.int (1 : Int32))])) rfl (by rw [hml]; rfl) (argsL := [(.int (1 : Int32)), (.int (k1 &&& (2147483647 : Int32)))]) (rest := []) (lenOf pd_4 rfl) rfl (by show 2 * 0 + _ ≤ _; exact Nat.le_of_eq rfl) (hb hby at_14) (fun _ _ => ⟨rfl, e325, (by decide : 0 + 0 ≤ _), (by decide : 0 + 0 ≤ _)⟩)
  dsimp only [Pt.U, Pt.locs, Pt.cells, Pt.slots] at X326 l326 y326 z326 st326 hQ326
  subst l326 y326 z326
  obtain ⟨hv326, N326q, e326⟩ := hQ326
  have N326 := Fr.app N325 N326q
  subst hv326
  have pre327 : ∀ t_, Steps p.tables e below (T326.setTop (mkF m 22 #[.val (.int k0), .val (.int k1), .val (.int k2), .val (.int (own_max (1 : Int32) (k0 &&& (2147483647 : Int32)))), .val (.int (own_max (1 : Int32) (k1 &&& (2147483647 : Int32)))), .unset, .unset, .unset, .unset] [(.int (k2 &&& (1 : Int32)))])) t_ → Steps p.tables e below (s₁.setTop (entryFrame m #[(.int k0), (.int k1), (.int k2)] maxLocals)) t_ := fun t_ k_ => pre0 t_ (by
    show Steps p.tables e below (s₁.setTop (mkF m 0 #[.val (.int k0), .val (.int k1), .val (.int k2), .unset, .unset, .unset, .unset, .unset, .unset] [])) _
    refine XS.iconst X0.here hx rfl (hb hby at_0) ?_
    show Steps p.tables e below (s₁.setTop (mkF m 1 #[.val (.int k0), .val (.int k1), .val (.int k2), .unset, .unset, .unset, .unset, .unset, .unset] [(.int (1 : Int32))])) _
    refine XS.iloadN X0.here hx rfl (hb hby at_1) rfl ?_
    show Steps p.tables e below (s₁.setTop (mkF m 2 #[.val (.int k0), .val (.int k1), .val (.int k2), .unset, .unset, .unset, .unset, .unset, .unset] [(.int k0), (.int (1 : Int32))])) _
    refine X0.ldcInt hx hown (mvT hZ (hw _ (List.mem_of_getElem? (i := 0) rfl))) (g := (mkF m 2 #[.val (.int k0), .val (.int k1), .val (.int k2), .unset, .unset, .unset, .unset, .unset, .unset] [(.int k0), (.int (1 : Int32))])) rfl (hb hby at_2) _ ?_
    show Steps p.tables e below (s₁.setTop (mkF m 4 #[.val (.int k0), .val (.int k1), .val (.int k2), .unset, .unset, .unset, .unset, .unset, .unset] [(.int (2147483647 : Int32)), (.int k0), (.int (1 : Int32))])) _
    refine XS.iand X0.here hx rfl (hb hby at_4) rfl ?_
    show Steps p.tables e below (s₁.setTop (mkF m 5 #[.val (.int k0), .val (.int k1), .val (.int k2), .unset, .unset, .unset, .unset, .unset, .unset] [(.int (k0 &&& (2147483647 : Int32))), (.int (1 : Int32))])) _
    refine st325 _ ?_
    show Steps p.tables e below (T325.setTop (mkF m 8 #[.val (.int k0), .val (.int k1), .val (.int k2), .unset, .unset, .unset, .unset, .unset, .unset] [(.int (own_max (1 : Int32) (k0 &&& (2147483647 : Int32))))])) _
    refine XS.istoreN X325.here hx rfl (hb hby at_8) rfl (l' := #[.val (.int k0), .val (.int k1), .val (.int k2), .val (.int (own_max (1 : Int32) (k0 &&& (2147483647 : Int32)))), .unset, .unset, .unset, .unset, .unset]) rfl ?_
    show Steps p.tables e below (T325.setTop (mkF m 9 #[.val (.int k0), .val (.int k1), .val (.int k2), .val (.int (own_max (1 : Int32) (k0 &&& (2147483647 : Int32)))), .unset, .unset, .unset, .unset, .unset] [])) _
    refine XS.iconst X325.here hx rfl (hb hby at_9) ?_
    show Steps p.tables e below (T325.setTop (mkF m 10 #[.val (.int k0), .val (.int k1), .val (.int k2), .val (.int (own_max (1 : Int32) (k0 &&& (2147483647 : Int32)))), .unset, .unset, .unset, .unset, .unset] [(.int (1 : Int32))])) _
    refine XS.iloadN X325.here hx rfl (hb hby at_10) rfl ?_
    show Steps p.tables e below (T325.setTop (mkF m 11 #[.val (.int k0), .val (.int k1), .val (.int k2), .val (.int (own_max (1 : Int32) (k0 &&& (2147483647 : Int32)))), .unset, .unset, .unset, .unset, .unset] [(.int k1), (.int (1 : Int32))])) _
    refine X325.ldcInt hx hown (mvT hZ (hw _ (List.mem_of_getElem? (i := 0) rfl))) (g := (mkF m 11 #[.val (.int k0), .val (.int k1), .val (.int k2), .val (.int (own_max (1 : Int32) (k0 &&& (2147483647 : Int32)))), .unset, .unset, .unset, .unset, .unset] [(.int k1), (.int (1 : Int32))])) rfl (hb hby at_11) _ ?_
    show Steps p.tables e below (T325.setTop (mkF m 13 #[.val (.int k0), .val (.int k1), .val (.int k2), .val (.int (own_max (1 : Int32) (k0 &&& (2147483647 : Int32)))), .unset, .unset, .unset, .unset, .unset] [(.int (2147483647 : Int32)), (.int k1), (.int (1 : Int32))])) _
    refine XS.iand X325.here hx rfl (hb hby at_13) rfl ?_
    show Steps p.tables e below (T325.setTop (mkF m 14 #[.val (.int k0), .val (.int k1), .val (.int k2), .val (.int (own_max (1 : Int32) (k0 &&& (2147483647 : Int32)))), .unset, .unset, .unset, .unset, .unset] [(.int (k1 &&& (2147483647 : Int32))), (.int (1 : Int32))])) _
    refine st326 _ ?_
    show Steps p.tables e below (T326.setTop (mkF m 17 #[.val (.int k0), .val (.int k1), .val (.int k2), .val (.int (own_max (1 : Int32) (k0 &&& (2147483647 : Int32)))), .unset, .unset, .unset, .unset, .unset] [(.int (own_max (1 : Int32) (k1 &&& (2147483647 : Int32))))])) _
    refine XS.istore X326.here hx rfl (hb hby at_17) rfl (l' := #[.val (.int k0), .val (.int k1), .val (.int k2), .val (.int (own_max (1 : Int32) (k0 &&& (2147483647 : Int32)))), .val (.int (own_max (1 : Int32) (k1 &&& (2147483647 : Int32)))), .unset, .unset, .unset, .unset]) rfl ?_
    show Steps p.tables e below (T326.setTop (mkF m 19 #[.val (.int k0), .val (.int k1), .val (.int k2), .val (.int (own_max (1 : Int32) (k0 &&& (2147483647 : Int32)))), .val (.int (own_max (1 : Int32) (k1 &&& (2147483647 : Int32)))), .unset, .unset, .unset, .unset] [])) _
    refine XS.iloadN X326.here hx rfl (hb hby at_19) rfl ?_
    show Steps p.tables e below (T326.setTop (mkF m 20 #[.val (.int k0), .val (.int k1), .val (.int k2), .val (.int (own_max (1 : Int32) (k0 &&& (2147483647 : Int32)))), .val (.int (own_max (1 : Int32) (k1 &&& (2147483647 : Int32)))), .unset, .unset, .unset, .unset] [(.int k2)])) _
    refine XS.iconst X326.here hx rfl (hb hby at_20) ?_
    show Steps p.tables e below (T326.setTop (mkF m 21 #[.val (.int k0), .val (.int k1), .val (.int k2), .val (.int (own_max (1 : Int32) (k0 &&& (2147483647 : Int32)))), .val (.int (own_max (1 : Int32) (k1 &&& (2147483647 : Int32)))), .unset, .unset, .unset, .unset] [(.int (1 : Int32)), (.int k2)])) _
    refine XS.iand X326.here hx rfl (hb hby at_21) rfl ?_
    show Steps p.tables e below (T326.setTop (mkF m 22 #[.val (.int k0), .val (.int k1), .val (.int k2), .val (.int (own_max (1 : Int32) (k0 &&& (2147483647 : Int32)))), .val (.int (own_max (1 : Int32) (k1 &&& (2147483647 : Int32)))), .unset, .unset, .unset, .unset] [(.int (k2 &&& (1 : Int32)))])) _
    exact k_)
  by_cases hc22_328 : (k2 &&& (1 : Int32)) = (0 : Int32)
  · obtain ⟨T329, h329, X329, e329, E329, A329, D329, -, st329⟩ := newO X326 hx hZ hown (hw _ (List.mem_of_getElem? (i := 5) rfl)) (hw _ (List.mem_of_getElem? (i := 6) rfl)) (hw _ (List.mem_of_getElem? (i := 7) rfl)) e326 (g := (mkF m 32 #[.val (.int k0), .val (.int k1), .val (.int k2), .val (.int (own_max (1 : Int32) (k0 &&& (2147483647 : Int32)))), .val (.int (own_max (1 : Int32) (k1 &&& (2147483647 : Int32)))), .val (.int (0 : Int32)), .unset, .unset, .unset] [])) rfl (hb hby at_32) (by decide) (by decide)
    obtain ⟨b329, g329⟩ : ∃ z, z = h0.size := ⟨_, rfl⟩
    rw [← g329] at A329 D329 st329
    have gg_b329 : n0 ≤ b329 := Nat.le_trans Z0 (Nat.le_of_eq g329.symm)
    have sz_b329 : h0.size ≤ b329 := Nat.le_trans O0.1 (Nat.le_of_eq g329.symm)
    have O330 := own_ext_trans O0 E329
    have Zs330 := Nat.le_trans Z0 (E329).1
    have c331 : Sta Z h329 "com/example/keelreach/keelreach/ProtocolVersion" "RESP3" "Lcom/example/keelreach/keelreach/ProtocolVersion;" (.ref w_RESP3) := S_RESP3.ext E329
    have c332 : Sta Z h329 "java/time/Duration" "ZERO" "Ljava/time/Duration;" (.ref w_ZERO) := S_ZERO.ext E329
    have c333 : Sta Z h329 "java/util/ImmutableCollections" "EMPTY_LIST" "Ljava/util/ImmutableCollections$ListN;" (.ref w_EL) := S_EL.ext E329
    have F329_preferredProtocolVersion : Fld Z h329 b329 "com/example/keelreach/keelreach/RedisOptions" "preferredProtocolVersion" "Lcom/example/keelreach/keelreach/ProtocolVersion;" .null := D329 (Or.inl (hw _ (List.mem_of_getElem? (i := 18) rfl))) (ty := (.object "com/example/keelreach/keelreach/ProtocolVersion")) (by decide)
    have F329_maxPoolSize : Fld Z h329 b329 "com/example/keelreach/keelreach/RedisOptions" "maxPoolSize" "I" (.int (0 : Int32)) := D329 (Or.inl (hw _ (List.mem_of_getElem? (i := 20) rfl))) (ty := .int) (by decide)
    have F329_maxPoolWaiting : Fld Z h329 b329 "com/example/keelreach/keelreach/RedisOptions" "maxPoolWaiting" "I" (.int (0 : Int32)) := D329 (Or.inl (hw _ (List.mem_of_getElem? (i := 22) rfl))) (ty := .int) (by decide)
    have F329_poolCleanerInterval : Fld Z h329 b329 "com/example/keelreach/keelreach/RedisOptions" "poolCleanerInterval" "Ljava/time/Duration;" .null := D329 (Or.inl (hw _ (List.mem_of_getElem? (i := 43) rfl))) (ty := (.object "java/time/Duration")) (by decide)
    have F329_poolRecycleTimeout : Fld Z h329 b329 "com/example/keelreach/keelreach/RedisOptions" "poolRecycleTimeout" "Ljava/time/Duration;" .null := D329 (Or.inl (hw _ (List.mem_of_getElem? (i := 46) rfl))) (ty := (.object "java/time/Duration")) (by decide)
    have F329_connectTimeout : Fld Z h329 b329 "com/example/keelreach/keelreach/RedisOptions" "connectTimeout" "Ljava/time/Duration;" .null := D329 (Or.inl (hw _ (List.mem_of_getElem? (i := 49) rfl))) (ty := (.object "java/time/Duration")) (by decide)
    have F329_commandTimeout : Fld Z h329 b329 "com/example/keelreach/keelreach/RedisOptions" "commandTimeout" "Ljava/time/Duration;" .null := D329 (Or.inl (hw _ (List.mem_of_getElem? (i := 52) rfl))) (ty := (.object "java/time/Duration")) (by decide)
    have F329_maxCommandsInFlight : Fld Z h329 b329 "com/example/keelreach/keelreach/RedisOptions" "maxCommandsInFlight" "I" (.int (0 : Int32)) := D329 (Or.inl (hw _ (List.mem_of_getElem? (i := 54) rfl))) (ty := .int) (by decide)
    have F329_autoPipeliningInterval : Fld Z h329 b329 "com/example/keelreach/keelreach/RedisOptions" "autoPipeliningInterval" "Ljava/time/Duration;" .null := D329 (Or.inl (hw _ (List.mem_of_getElem? (i := 61) rfl))) (ty := (.object "java/time/Duration")) (by decide)
    have F329_autoPipeliningThreshold : Fld Z h329 b329 "com/example/keelreach/keelreach/RedisOptions" "autoPipeliningThreshold" "I" (.int (0 : Int32)) := D329 (Or.inl (hw _ (List.mem_of_getElem? (i := 63) rfl))) (ty := .int) (by decide)
    have F329_trustedCertificates : Fld Z h329 b329 "com/example/keelreach/keelreach/RedisOptions" "trustedCertificates" "Ljava/util/List;" .null := D329 (Or.inl (hw _ (List.mem_of_getElem? (i := 71) rfl))) (ty := (.object "java/util/List")) (by decide)
    have F329_verifyHostName : Fld Z h329 b329 "com/example/keelreach/keelreach/RedisOptions" "verifyHostName" "Z" (.int (0 : Int32)) := D329 (Or.inl (hw _ (List.mem_of_getElem? (i := 73) rfl))) (ty := .boolean) (by decide)
    obtain ⟨v334, _, ⟨T334, L334, k334, n334⟩, -, X334, ⟨Lc334, hQ334, l334, y334, z334⟩, st334⟩ := X329.specialBack hx (y := (⟨"com/example/keelreach/keelreach/RedisOptions", "<init>", "()V"⟩ : MethodName)) rfl hown (mvT hZ (hw _ (List.mem_of_getElem? (i := 8) rfl))) (mvT hZ (hw _ (List.mem_of_getElem? (i := 9) rfl))) (mvT hZ (hw _ (List.mem_of_getElem? (i := 10) rfl))) (by decide) (backOf (W := 1) (rm_rinit l Z a0 hw [] b329 .null (.int (0 : Int32)) (.int (0 : Int32)) .null .null .null .null (.int (0 : Int32)) .null (.int (0 : Int32)) .null (.int (0 : Int32)) w_RESP3 w_ZERO w_EL h329 n0 Zs330 A329 gg_b329 F329_preferredProtocolVersion F329_maxPoolSize F329_maxPoolWaiting F329_poolCleanerInterval F329_poolRecycleTimeout F329_connectTimeout F329_commandTimeout F329_maxCommandsInFlight F329_autoPipeliningInterval F329_autoPipeliningThreshold F329_trustedCertificates F329_verifyHostName c331 c332 c333) hZ (hw _ (List.mem_of_getElem? (i := 10) rfl)) (hw _ (List.mem_of_getElem? (i := 7) rfl)) (by decide) (by decide)) (g := (mkF m 36 #[.val (.int k0), .val (.int k1), .val (.int k2), .val (.int (own_max (1 : Int32) (k0 &&& (2147483647 : Int32)))), .val (.int (own_max (1 : Int32) (k1 &&& (2147483647 : Int32)))), .val (.int (0 : Int32)), .unset, .unset, .unset] [(.ref b329), (.ref b329)])) rfl (by rw [hml]; rfl) (Steps.refl _) (a := b329) (argsL := []) (rest := [(.ref b329)]) (lenOf pd_5 rfl) rfl (by show 2 * 0 + _ ≤ _; exact Nat.le_of_eq rfl) (hb hby at_36) (fun _ _ => ⟨rfl, e329, (by decide : 1 + 4 ≤ _), (by decide : 16 + 8 ≤ _)⟩)
    dsimp only [Pt.U, Pt.locs, Pt.cells, Pt.slots] at X334 l334 y334 z334 st334 hQ334
    subst l334 y334 z334
    obtain ⟨hv334, N334q, M334⟩ := hQ334
    have N334 := Fr.app N326 N334q
    subst hv334
    obtain ⟨K334k, E334x, F334_maxPoolSize, F334_maxPoolWaiting, F334_maxCommandsInFlight, F334_autoPipeliningThreshold⟩ := M334
    have O335 := own_ext_keep O330 K334k (allS sz_b329 all0)
    have Zs335 := Nat.le_trans Zs330 K334k.1
    have c336 : Exa Z T334.heap b329 "com/example/keelreach/keelreach/RedisOptions" := A329.keep K334k
    obtain ⟨cq337, kq337, q337a, q337b, q337c⟩ := isOf hZ rfl E334x
    obtain ⟨v337, _, ⟨T337, L337, k337, n337⟩, -, X337, ⟨Lc337, hQ337, l337, y337, z337⟩, st337⟩ := X334.virtualBack hx (y := (⟨"com/example/keelreach/keelreach/RedisOptions", "getMaxPoolSize", "()I"⟩ : MethodName)) (z := (⟨"com/example/keelreach/keelreach/RedisOptions", "getMaxPoolSize", "()I"⟩ : MethodName)) hown (mvT hZ (hw _ (List.mem_of_getElem? (i := 74) rfl))) (mvT hZ (hw _ (List.mem_of_getElem? (i := 75) rfl))) (notFace_of_selects (args := #[]) (mvT hZ (hw _ (List.mem_of_getElem? (i := 77) rfl)))) (mvT hZ (hw _ (List.mem_of_getElem? (i := 77) rfl))) (mvT hZ (hw _ (List.mem_of_getElem? (i := 76) rfl))) (by decide) (backOf (W := 0) (rm_getMaxPoolSize l Z a0 hw [] b329 (6 : Int32) T334.heap n0 Zs335 F334_maxPoolSize) hZ (hw _ (List.mem_of_getElem? (i := 78) rfl)) (hw _ (List.mem_of_getElem? (i := 7) rfl)) (by decide) (by decide)) q337a q337c (g := (mkF m 43 #[.val (.int k0), .val (.int k1), .val (.int k2), .val (.int (own_max (1 : Int32) (k0 &&& (2147483647 : Int32)))), .val (.int (own_max (1 : Int32) (k1 &&& (2147483647 : Int32)))), .val (.int (0 : Int32)), .val (.ref b329), .unset, .unset] [(.ref b329)])) rfl (by rw [hml]; rfl) (Steps.refl _) (argsL := []) (rest := []) (lenOf pd_6 rfl) rfl (by show 2 * 0 + _ ≤ _; exact Nat.le_of_eq rfl) (hb hby at_43) (fun _ _ => ⟨rfl, rfl, (by decide : 5 + 0 ≤ _), (by decide : 24 + 0 ≤ _)⟩)
    dsimp only [Pt.U, Pt.locs, Pt.cells, Pt.slots] at X337 l337 y337 z337 st337 hQ337
    subst l337 y337 z337
    obtain ⟨hv337, N337q, e337⟩ := hQ337
    have N337 := Fr.app N334 N337q
    subst hv337
    obtain ⟨cq338, kq338, q338a, q338b, q338c⟩ := isOf hZ e337 E334x
    obtain ⟨v338, _, ⟨T338, L338, k338, n338⟩, -, X338, ⟨Lc338, hQ338, l338, y338, z338⟩, st338⟩ := X337.virtualBack hx (y := (⟨"com/example/keelreach/keelreach/RedisOptions", "setMaxPoolSize", "(I)Lcom/example/keelreach/keelreach/RedisOptions;"⟩ : MethodName)) (z := (⟨"com/example/keelreach/keelreach/RedisOptions", "setMaxPoolSize", "(I)Lcom/example/keelreach/keelreach/RedisOptions;"⟩ : MethodName)) hown (mvT hZ (hw _ (List.mem_of_getElem? (i := 79) rfl))) (mvT hZ (hw _ (List.mem_of_getElem? (i := 80) rfl))) (notFace_of_selects (args := #[]) (mvT hZ (hw _ (List.mem_of_getElem? (i := 82) rfl)))) (mvT hZ (hw _ (List.mem_of_getElem? (i := 82) rfl))) (mvT hZ (hw _ (List.mem_of_getElem? (i := 81) rfl))) (by decide) (backOf (W := 0) (rm_setMaxPoolSize l Z a0 hw [] b329 (own_max (1 : Int32) (k1 &&& (2147483647 : Int32))) (.int (6 : Int32)) (.int (24 : Int32)) (.int (10000 : Int32)) (.int (128 : Int32)) T334.heap n0 Zs335 E334x gg_b329 F334_maxPoolSize F334_maxPoolWaiting F334_maxCommandsInFlight F334_autoPipeliningThreshold (own_max_ge (k1 &&& (2147483647 : Int32)))) hZ (hw _ (List.mem_of_getElem? (i := 83) rfl)) (hw _ (List.mem_of_getElem? (i := 7) rfl)) (by decide) (by decide)) q338a q338c (g := (mkF m 103 #[.val (.int k0), .val (.int k1), .val (.int k2), .val (.int (own_max (1 : Int32) (k0 &&& (2147483647 : Int32)))), .val (.int (own_max (1 : Int32) (k1 &&& (2147483647 : Int32)))), .val (.int (0 : Int32)), .val (.ref b329), .val (.int (1 : Int32)), .unset] [(.int (own_max (1 : Int32) (k1 &&& (2147483647 : Int32)))), (.ref b329)])) rfl (by rw [hml]; rfl) (Steps.refl _) (argsL := [(.int (own_max (1 : Int32) (k1 &&& (2147483647 : Int32))))]) (rest := []) (lenOf pd_7 rfl) rfl (by show 2 * 0 + _ ≤ _; exact Nat.le_of_eq rfl) (hb hby at_103) (fun _ _ => ⟨rfl, e337, (by decide : 5 + 0 ≤ _), (by decide : 24 + 0 ≤ _)⟩)
    dsimp only [Pt.U, Pt.locs, Pt.cells, Pt.slots] at X338 l338 y338 z338 st338 hQ338
    subst l338 y338 z338
    obtain ⟨hv338, N338q, M338⟩ := hQ338
    have N338 := Fr.app N337 N338q
    subst hv338
    obtain ⟨K338k, E338x, F338_maxPoolSize, F338_maxPoolWaiting, F338_maxCommandsInFlight, F338_autoPipeliningThreshold⟩ := M338
    have O339 := own_ext_keep O335 K338k (allS sz_b329 all0)
    have Zs339 := Nat.le_trans Zs335 K338k.1
    have c340 : Exa Z T338.heap b329 "com/example/keelreach/keelreach/RedisOptions" := E334x.keep K338k
    obtain ⟨cq341, kq341, q341a, q341b, q341c⟩ := isOf hZ rfl E338x
    obtain ⟨v341, _, ⟨T341, L341, k341, n341⟩, -, X341, ⟨Lc341, hQ341, l341, y341, z341⟩, st341⟩ := X338.virtualBack hx (y := (⟨"com/example/keelreach/keelreach/RedisOptions", "getMaxPoolSize", "()I"⟩ : MethodName)) (z := (⟨"com/example/keelreach/keelreach/RedisOptions", "getMaxPoolSize", "()I"⟩ : MethodName)) hown (mvT hZ (hw _ (List.mem_of_getElem? (i := 74) rfl))) (mvT hZ (hw _ (List.mem_of_getElem? (i := 75) rfl))) (notFace_of_selects (args := #[]) (mvT hZ (hw _ (List.mem_of_getElem? (i := 77) rfl)))) (mvT hZ (hw _ (List.mem_of_getElem? (i := 77) rfl))) (mvT hZ (hw _ (List.mem_of_getElem? (i := 76) rfl))) (by decide) (backOf (W := 0) (rm_getMaxPoolSize l Z a0 hw [] b329 (own_max (1 : Int32) (k1 &&& (2147483647 : Int32))) T338.heap n0 Zs339 F338_maxPoolSize) hZ (hw _ (List.mem_of_getElem? (i := 78) rfl)) (hw _ (List.mem_of_getElem? (i := 7) rfl)) (by decide) (by decide)) q341a q341c (g := (mkF m 122 #[.val (.int k0), .val (.int k1), .val (.int k2), .val (.int (own_max (1 : Int32) (k0 &&& (2147483647 : Int32)))), .val (.int (own_max (1 : Int32) (k1 &&& (2147483647 : Int32)))), .val (.int (0 : Int32)), .val (.ref b329), .val (.int (1 : Int32)), .val (.ref b329)] [(.ref b329)])) rfl (by rw [hml]; rfl) (Steps.refl _) (argsL := []) (rest := []) (lenOf pd_6 rfl) rfl (by show 2 * 0 + _ ≤ _; exact Nat.le_of_eq rfl) (hb hby at_122) (fun _ _ => ⟨rfl, rfl, (by decide : 5 + 0 ≤ _), (by decide : 24 + 0 ≤ _)⟩)
    dsimp only [Pt.U, Pt.locs, Pt.cells, Pt.slots] at X341 l341 y341 z341 st341 hQ341
    subst l341 y341 z341
    obtain ⟨hv341, N341q, e341⟩ := hQ341
    have N341 := Fr.app N338 N341q
    subst hv341
    obtain ⟨cq342, kq342, q342a, q342b, q342c⟩ := isOf hZ e341 E338x
    obtain ⟨v342, _, ⟨T342, L342, k342, n342⟩, -, X342, ⟨Lc342, hQ342, l342, y342, z342⟩, st342⟩ := X341.virtualBack hx (y := (⟨"com/example/keelreach/keelreach/RedisOptions", "getMaxPoolWaiting", "()I"⟩ : MethodName)) (z := (⟨"com/example/keelreach/keelreach/RedisOptions", "getMaxPoolWaiting", "()I"⟩ : MethodName)) hown (mvT hZ (hw _ (List.mem_of_getElem? (i := 84) rfl))) (mvT hZ (hw _ (List.mem_of_getElem? (i := 85) rfl))) (notFace_of_selects (args := #[]) (mvT hZ (hw _ (List.mem_of_getElem? (i := 87) rfl)))) (mvT hZ (hw _ (List.mem_of_getElem? (i := 87) rfl))) (mvT hZ (hw _ (List.mem_of_getElem? (i := 86) rfl))) (by decide) (backOf (W := 0) (rm_getMaxPoolWaiting l Z a0 hw [] b329 (24 : Int32) T338.heap n0 Zs339 F338_maxPoolWaiting) hZ (hw _ (List.mem_of_getElem? (i := 88) rfl)) (hw _ (List.mem_of_getElem? (i := 7) rfl)) (by decide) (by decide)) q342a q342c (g := (mkF m 144 #[.val (.int k0), .val (.int k1), .val (.int k2), .val (.int (own_max (1 : Int32) (k0 &&& (2147483647 : Int32)))), .val (.int (own_max (1 : Int32) (k1 &&& (2147483647 : Int32)))), .val (.int (0 : Int32)), .val (.ref b329), .val (.int (1 : Int32)), .val (.ref b329)] [(.ref b329)])) rfl (by rw [hml]; rfl) (Steps.refl _) (argsL := []) (rest := []) (lenOf pd_6 rfl) rfl (by show 2 * 0 + _ ≤ _; exact Nat.le_of_eq rfl) (hb hby at_144) (fun _ _ => ⟨rfl, e341, (by decide : 5 + 0 ≤ _), (by decide : 24 + 0 ≤ _)⟩)
    dsimp only [Pt.U, Pt.locs, Pt.cells, Pt.slots] at X342 l342 y342 z342 st342 hQ342
    subst l342 y342 z342
    obtain ⟨hv342, N342q, e342⟩ := hQ342
    have N342 := Fr.app N341 N342q
    subst hv342
    obtain ⟨cq343, kq343, q343a, q343b, q343c⟩ := isOf hZ e342 E338x
    obtain ⟨v343, _, ⟨T343, L343, k343, n343⟩, -, X343, ⟨Lc343, hQ343, l343, y343, z343⟩, st343⟩ := X342.virtualBack hx (y := (⟨"com/example/keelreach/keelreach/RedisOptions", "getMaxCommandsInFlight", "()I"⟩ : MethodName)) (z := (⟨"com/example/keelreach/keelreach/RedisOptions", "getMaxCommandsInFlight", "()I"⟩ : MethodName)) hown (mvT hZ (hw _ (List.mem_of_getElem? (i := 89) rfl))) (mvT hZ (hw _ (List.mem_of_getElem? (i := 90) rfl))) (notFace_of_selects (args := #[]) (mvT hZ (hw _ (List.mem_of_getElem? (i := 92) rfl)))) (mvT hZ (hw _ (List.mem_of_getElem? (i := 92) rfl))) (mvT hZ (hw _ (List.mem_of_getElem? (i := 91) rfl))) (by decide) (backOf (W := 0) (rm_getMaxCommandsInFlight l Z a0 hw [] b329 (10000 : Int32) T338.heap n0 Zs339 F338_maxCommandsInFlight) hZ (hw _ (List.mem_of_getElem? (i := 93) rfl)) (hw _ (List.mem_of_getElem? (i := 7) rfl)) (by decide) (by decide)) q343a q343c (g := (mkF m 166 #[.val (.int k0), .val (.int k1), .val (.int k2), .val (.int (own_max (1 : Int32) (k0 &&& (2147483647 : Int32)))), .val (.int (own_max (1 : Int32) (k1 &&& (2147483647 : Int32)))), .val (.int (0 : Int32)), .val (.ref b329), .val (.int (1 : Int32)), .val (.ref b329)] [(.ref b329)])) rfl (by rw [hml]; rfl) (Steps.refl _) (argsL := []) (rest := []) (lenOf pd_6 rfl) rfl (by show 2 * 0 + _ ≤ _; exact Nat.le_of_eq rfl) (hb hby at_166) (fun _ _ => ⟨rfl, e342, (by decide : 5 + 0 ≤ _), (by decide : 24 + 0 ≤ _)⟩)
    dsimp only [Pt.U, Pt.locs, Pt.cells, Pt.slots] at X343 l343 y343 z343 st343 hQ343
    subst l343 y343 z343
    obtain ⟨hv343, N343q, e343⟩ := hQ343
    have N343 := Fr.app N342 N343q
    subst hv343
    obtain ⟨cq344, kq344, q344a, q344b, q344c⟩ := isOf hZ e343 E338x
    obtain ⟨v344, _, ⟨T344, L344, k344, n344⟩, -, X344, ⟨Lc344, hQ344, l344, y344, z344⟩, st344⟩ := X343.virtualBack hx (y := (⟨"com/example/keelreach/keelreach/RedisOptions", "getAutoPipeliningThreshold", "()I"⟩ : MethodName)) (z := (⟨"com/example/keelreach/keelreach/RedisOptions", "getAutoPipeliningThreshold", "()I"⟩ : MethodName)) hown (mvT hZ (hw _ (List.mem_of_getElem? (i := 94) rfl))) (mvT hZ (hw _ (List.mem_of_getElem? (i := 95) rfl))) (notFace_of_selects (args := #[]) (mvT hZ (hw _ (List.mem_of_getElem? (i := 97) rfl)))) (mvT hZ (hw _ (List.mem_of_getElem? (i := 97) rfl))) (mvT hZ (hw _ (List.mem_of_getElem? (i := 96) rfl))) (by decide) (backOf (W := 0) (rm_getAutoPipeliningThreshold l Z a0 hw [] b329 (128 : Int32) T338.heap n0 Zs339 F338_autoPipeliningThreshold) hZ (hw _ (List.mem_of_getElem? (i := 98) rfl)) (hw _ (List.mem_of_getElem? (i := 7) rfl)) (by decide) (by decide)) q344a q344c (g := (mkF m 189 #[.val (.int k0), .val (.int k1), .val (.int k2), .val (.int (own_max (1 : Int32) (k0 &&& (2147483647 : Int32)))), .val (.int (own_max (1 : Int32) (k1 &&& (2147483647 : Int32)))), .val (.int (0 : Int32)), .val (.ref b329), .val (.int (1 : Int32)), .val (.ref b329)] [(.ref b329)])) rfl (by rw [hml]; rfl) (Steps.refl _) (argsL := []) (rest := []) (lenOf pd_6 rfl) rfl (by show 2 * 0 + _ ≤ _; exact Nat.le_of_eq rfl) (hb hby at_189) (fun _ _ => ⟨rfl, e343, (by decide : 5 + 0 ≤ _), (by decide : 24 + 0 ≤ _)⟩)
    dsimp only [Pt.U, Pt.locs, Pt.cells, Pt.slots] at X344 l344 y344 z344 st344 hQ344
    subst l344 y344 z344
    obtain ⟨hv344, N344q, e344⟩ := hQ344
    have N344 := Fr.app N343 N344q
    subst hv344
    have pre345 : ∀ t_, Steps p.tables e below (T344.setTop (mkF m 207 #[.val (.int k0), .val (.int k1), .val (.int k2), .val (.int (own_max (1 : Int32) (k0 &&& (2147483647 : Int32)))), .val (.int (own_max (1 : Int32) (k1 &&& (2147483647 : Int32)))), .val (.int (0 : Int32)), .val (.ref b329), .val (.int (1 : Int32)), .val (.ref b329)] [(.int (1 : Int32))])) t_ → Steps p.tables e below (s₁.setTop (entryFrame m #[(.int k0), (.int k1), (.int k2)] maxLocals)) t_ := fun t_ k_ => pre327 t_ (by
      show Steps p.tables e below (T326.setTop (mkF m 22 #[.val (.int k0), .val (.int k1), .val (.int k2), .val (.int (own_max (1 : Int32) (k0 &&& (2147483647 : Int32)))), .val (.int (own_max (1 : Int32) (k1 &&& (2147483647 : Int32)))), .unset, .unset, .unset, .unset] [(.int (k2 &&& (1 : Int32)))])) _
      refine XS.ifYes X326.here hx rfl (pc0 := 22) (pc' := 29) rfl (hb hby at_22) rfl ((if0 _ _).trans (teq hc22_328).1) (by decide) (by decide) ?_
      show Steps p.tables e below (T326.setTop (mkF m 29 #[.val (.int k0), .val (.int k1), .val (.int k2), .val (.int (own_max (1 : Int32) (k0 &&& (2147483647 : Int32)))), .val (.int (own_max (1 : Int32) (k1 &&& (2147483647 : Int32)))), .unset, .unset, .unset, .unset] [])) _
      refine XS.iconst X326.here hx rfl (hb hby at_29) ?_
      show Steps p.tables e below (T326.setTop (mkF m 30 #[.val (.int k0), .val (.int k1), .val (.int k2), .val (.int (own_max (1 : Int32) (k0 &&& (2147483647 : Int32)))), .val (.int (own_max (1 : Int32) (k1 &&& (2147483647 : Int32)))), .unset, .unset, .unset, .unset] [(.int (0 : Int32))])) _
      refine XS.istore X326.here hx rfl (hb hby at_30) rfl (l' := #[.val (.int k0), .val (.int k1), .val (.int k2), .val (.int (own_max (1 : Int32) (k0 &&& (2147483647 : Int32)))), .val (.int (own_max (1 : Int32) (k1 &&& (2147483647 : Int32)))), .val (.int (0 : Int32)), .unset, .unset, .unset]) rfl ?_
      show Steps p.tables e below (T326.setTop (mkF m 32 #[.val (.int k0), .val (.int k1), .val (.int k2), .val (.int (own_max (1 : Int32) (k0 &&& (2147483647 : Int32)))), .val (.int (own_max (1 : Int32) (k1 &&& (2147483647 : Int32)))), .val (.int (0 : Int32)), .unset, .unset, .unset] [])) _
      refine st329 _ ?_
      show Steps p.tables e below (T329.setTop (mkF m 35 #[.val (.int k0), .val (.int k1), .val (.int k2), .val (.int (own_max (1 : Int32) (k0 &&& (2147483647 : Int32)))), .val (.int (own_max (1 : Int32) (k1 &&& (2147483647 : Int32)))), .val (.int (0 : Int32)), .unset, .unset, .unset] [(.ref b329)])) _
      refine XS.dup X329.here hx rfl (hb hby at_35) rfl rfl ?_
      show Steps p.tables e below (T329.setTop (mkF m 36 #[.val (.int k0), .val (.int k1), .val (.int k2), .val (.int (own_max (1 : Int32) (k0 &&& (2147483647 : Int32)))), .val (.int (own_max (1 : Int32) (k1 &&& (2147483647 : Int32)))), .val (.int (0 : Int32)), .unset, .unset, .unset] [(.ref b329), (.ref b329)])) _
      refine st334.trans ?_
      show Steps p.tables e below (T334.setTop (mkF m 39 #[.val (.int k0), .val (.int k1), .val (.int k2), .val (.int (own_max (1 : Int32) (k0 &&& (2147483647 : Int32)))), .val (.int (own_max (1 : Int32) (k1 &&& (2147483647 : Int32)))), .val (.int (0 : Int32)), .unset, .unset, .unset] [(.ref b329)])) _
      refine XS.astore X334.here hx rfl (hb hby at_39) rfl rfl (l' := #[.val (.int k0), .val (.int k1), .val (.int k2), .val (.int (own_max (1 : Int32) (k0 &&& (2147483647 : Int32)))), .val (.int (own_max (1 : Int32) (k1 &&& (2147483647 : Int32)))), .val (.int (0 : Int32)), .val (.ref b329), .unset, .unset]) rfl ?_
      show Steps p.tables e below (T334.setTop (mkF m 41 #[.val (.int k0), .val (.int k1), .val (.int k2), .val (.int (own_max (1 : Int32) (k0 &&& (2147483647 : Int32)))), .val (.int (own_max (1 : Int32) (k1 &&& (2147483647 : Int32)))), .val (.int (0 : Int32)), .val (.ref b329), .unset, .unset] [])) _
      refine XS.aload X334.here hx rfl (hb hby at_41) rfl rfl ?_
      show Steps p.tables e below (T334.setTop (mkF m 43 #[.val (.int k0), .val (.int k1), .val (.int k2), .val (.int (own_max (1 : Int32) (k0 &&& (2147483647 : Int32)))), .val (.int (own_max (1 : Int32) (k1 &&& (2147483647 : Int32)))), .val (.int (0 : Int32)), .val (.ref b329), .unset, .unset] [(.ref b329)])) _
      refine st337.trans ?_
      show Steps p.tables e below (T337.setTop (mkF m 46 #[.val (.int k0), .val (.int k1), .val (.int k2), .val (.int (own_max (1 : Int32) (k0 &&& (2147483647 : Int32)))), .val (.int (own_max (1 : Int32) (k1 &&& (2147483647 : Int32)))), .val (.int (0 : Int32)), .val (.ref b329), .unset, .unset] [(.int (6 : Int32))])) _
      refine XS.bipush X337.here hx rfl (hb hby at_46) ?_
      show Steps p.tables e below (T337.setTop (mkF m 48 #[.val (.int k0), .val (.int k1), .val (.int k2), .val (.int (own_max (1 : Int32) (k0 &&& (2147483647 : Int32)))), .val (.int (own_max (1 : Int32) (k1 &&& (2147483647 : Int32)))), .val (.int (0 : Int32)), .val (.ref b329), .unset, .unset] [(.int (6 : Int32)), (.int (6 : Int32))])) _
      refine XS.icmpNo X337.here hx rfl (hb hby at_48) rfl (teq (rfl : (6 : Int32) = (6 : Int32))).2 ?_
      show Steps p.tables e below (T337.setTop (mkF m 51 #[.val (.int k0), .val (.int k1), .val (.int k2), .val (.int (own_max (1 : Int32) (k0 &&& (2147483647 : Int32)))), .val (.int (own_max (1 : Int32) (k1 &&& (2147483647 : Int32)))), .val (.int (0 : Int32)), .val (.ref b329), .unset, .unset] [])) _
      refine XS.iconst X337.here hx rfl (hb hby at_51) ?_
      show Steps p.tables e below (T337.setTop (mkF m 52 #[.val (.int k0), .val (.int k1), .val (.int k2), .val (.int (own_max (1 : Int32) (k0 &&& (2147483647 : Int32)))), .val (.int (own_max (1 : Int32) (k1 &&& (2147483647 : Int32)))), .val (.int (0 : Int32)), .val (.ref b329), .unset, .unset] [(.int (1 : Int32))])) _
      refine XS.goto X337.here hx rfl (pc0 := 52) (pc' := 56) rfl (hb hby at_52) (by decide) (by decide) ?_
      show Steps p.tables e below (T337.setTop (mkF m 56 #[.val (.int k0), .val (.int k1), .val (.int k2), .val (.int (own_max (1 : Int32) (k0 &&& (2147483647 : Int32)))), .val (.int (own_max (1 : Int32) (k1 &&& (2147483647 : Int32)))), .val (.int (0 : Int32)), .val (.ref b329), .unset, .unset] [(.int (1 : Int32))])) _
      refine XS.istore X337.here hx rfl (hb hby at_56) rfl (l' := #[.val (.int k0), .val (.int k1), .val (.int k2), .val (.int (own_max (1 : Int32) (k0 &&& (2147483647 : Int32)))), .val (.int (own_max (1 : Int32) (k1 &&& (2147483647 : Int32)))), .val (.int (0 : Int32)), .val (.ref b329), .val (.int (1 : Int32)), .unset]) rfl ?_
      show Steps p.tables e below (T337.setTop (mkF m 58 #[.val (.int k0), .val (.int k1), .val (.int k2), .val (.int (own_max (1 : Int32) (k0 &&& (2147483647 : Int32)))), .val (.int (own_max (1 : Int32) (k1 &&& (2147483647 : Int32)))), .val (.int (0 : Int32)), .val (.ref b329), .val (.int (1 : Int32)), .unset] [])) _
      refine XS.iload X337.here hx rfl (hb hby at_58) rfl ?_
      show Steps p.tables e below (T337.setTop (mkF m 60 #[.val (.int k0), .val (.int k1), .val (.int k2), .val (.int (own_max (1 : Int32) (k0 &&& (2147483647 : Int32)))), .val (.int (own_max (1 : Int32) (k1 &&& (2147483647 : Int32)))), .val (.int (0 : Int32)), .val (.ref b329), .val (.int (1 : Int32)), .unset] [(.int (0 : Int32))])) _
      refine XS.ifYes X337.here hx rfl (pc0 := 60) (pc' := 99) rfl (hb hby at_60) rfl ((if0 _ _).trans (teq (rfl : (0 : Int32) = (0 : Int32))).1) (by decide) (by decide) ?_
      show Steps p.tables e below (T337.setTop (mkF m 99 #[.val (.int k0), .val (.int k1), .val (.int k2), .val (.int (own_max (1 : Int32) (k0 &&& (2147483647 : Int32)))), .val (.int (own_max (1 : Int32) (k1 &&& (2147483647 : Int32)))), .val (.int (0 : Int32)), .val (.ref b329), .val (.int (1 : Int32)), .unset] [])) _
      refine XS.aload X337.here hx rfl (hb hby at_99) rfl rfl ?_
      show Steps p.tables e below (T337.setTop (mkF m 101 #[.val (.int k0), .val (.int k1), .val (.int k2), .val (.int (own_max (1 : Int32) (k0 &&& (2147483647 : Int32)))), .val (.int (own_max (1 : Int32) (k1 &&& (2147483647 : Int32)))), .val (.int (0 : Int32)), .val (.ref b329), .val (.int (1 : Int32)), .unset] [(.ref b329)])) _
      refine XS.iload X337.here hx rfl (hb hby at_101) rfl ?_
      show Steps p.tables e below (T337.setTop (mkF m 103 #[.val (.int k0), .val (.int k1), .val (.int k2), .val (.int (own_max (1 : Int32) (k0 &&& (2147483647 : Int32)))), .val (.int (own_max (1 : Int32) (k1 &&& (2147483647 : Int32)))), .val (.int (0 : Int32)), .val (.ref b329), .val (.int (1 : Int32)), .unset] [(.int (own_max (1 : Int32) (k1 &&& (2147483647 : Int32)))), (.ref b329)])) _
      refine st338.trans ?_
      show Steps p.tables e below (T338.setTop (mkF m 106 #[.val (.int k0), .val (.int k1), .val (.int k2), .val (.int (own_max (1 : Int32) (k0 &&& (2147483647 : Int32)))), .val (.int (own_max (1 : Int32) (k1 &&& (2147483647 : Int32)))), .val (.int (0 : Int32)), .val (.ref b329), .val (.int (1 : Int32)), .unset] [(.ref b329)])) _
      refine XS.astore X338.here hx rfl (hb hby at_106) rfl rfl (l' := #[.val (.int k0), .val (.int k1), .val (.int k2), .val (.int (own_max (1 : Int32) (k0 &&& (2147483647 : Int32)))), .val (.int (own_max (1 : Int32) (k1 &&& (2147483647 : Int32)))), .val (.int (0 : Int32)), .val (.ref b329), .val (.int (1 : Int32)), .val (.ref b329)]) rfl ?_
      show Steps p.tables e below (T338.setTop (mkF m 108 #[.val (.int k0), .val (.int k1), .val (.int k2), .val (.int (own_max (1 : Int32) (k0 &&& (2147483647 : Int32)))), .val (.int (own_max (1 : Int32) (k1 &&& (2147483647 : Int32)))), .val (.int (0 : Int32)), .val (.ref b329), .val (.int (1 : Int32)), .val (.ref b329)] [])) _
      refine XS.iload X338.here hx rfl (hb hby at_108) rfl ?_
      show Steps p.tables e below (T338.setTop (mkF m 110 #[.val (.int k0), .val (.int k1), .val (.int k2), .val (.int (own_max (1 : Int32) (k0 &&& (2147483647 : Int32)))), .val (.int (own_max (1 : Int32) (k1 &&& (2147483647 : Int32)))), .val (.int (0 : Int32)), .val (.ref b329), .val (.int (1 : Int32)), .val (.ref b329)] [(.int (1 : Int32))])) _
      refine XS.ifNo X338.here hx rfl (hb hby at_110) rfl ((if0 _ _).trans (feq (by decide : ¬ ((1 : Int32) = (0 : Int32)))).1) ?_
      show Steps p.tables e below (T338.setTop (mkF m 113 #[.val (.int k0), .val (.int k1), .val (.int k2), .val (.int (own_max (1 : Int32) (k0 &&& (2147483647 : Int32)))), .val (.int (own_max (1 : Int32) (k1 &&& (2147483647 : Int32)))), .val (.int (0 : Int32)), .val (.ref b329), .val (.int (1 : Int32)), .val (.ref b329)] [])) _
      refine XS.aload X338.here hx rfl (hb hby at_113) rfl rfl ?_
      show Steps p.tables e below (T338.setTop (mkF m 115 #[.val (.int k0), .val (.int k1), .val (.int k2), .val (.int (own_max (1 : Int32) (k0 &&& (2147483647 : Int32)))), .val (.int (own_max (1 : Int32) (k1 &&& (2147483647 : Int32)))), .val (.int (0 : Int32)), .val (.ref b329), .val (.int (1 : Int32)), .val (.ref b329)] [(.ref b329)])) _
      refine XS.aload X338.here hx rfl (hb hby at_115) rfl rfl ?_
      show Steps p.tables e below (T338.setTop (mkF m 117 #[.val (.int k0), .val (.int k1), .val (.int k2), .val (.int (own_max (1 : Int32) (k0 &&& (2147483647 : Int32)))), .val (.int (own_max (1 : Int32) (k1 &&& (2147483647 : Int32)))), .val (.int (0 : Int32)), .val (.ref b329), .val (.int (1 : Int32)), .val (.ref b329)] [(.ref b329), (.ref b329)])) _
      refine Jvm.RoadKit.acmp (g := (mkF m 117 #[.val (.int k0), .val (.int k1), .val (.int k2), .val (.int (own_max (1 : Int32) (k0 &&& (2147483647 : Int32)))), .val (.int (own_max (1 : Int32) (k1 &&& (2147483647 : Int32)))), .val (.int (0 : Int32)), .val (.ref b329), .val (.int (1 : Int32)), .val (.ref b329)] [(.ref b329), (.ref b329)])) X338 hx rfl rfl rfl (pc0 := 117) (pc' := 120) (same := true) rfl (hb hby at_117) rfl (decide_eq_true rfl) (by decide) (by decide) ?_
      show Steps p.tables e below (T338.setTop (mkF m 120 #[.val (.int k0), .val (.int k1), .val (.int k2), .val (.int (own_max (1 : Int32) (k0 &&& (2147483647 : Int32)))), .val (.int (own_max (1 : Int32) (k1 &&& (2147483647 : Int32)))), .val (.int (0 : Int32)), .val (.ref b329), .val (.int (1 : Int32)), .val (.ref b329)] [])) _
      refine XS.aload X338.here hx rfl (hb hby at_120) rfl rfl ?_
      show Steps p.tables e below (T338.setTop (mkF m 122 #[.val (.int k0), .val (.int k1), .val (.int k2), .val (.int (own_max (1 : Int32) (k0 &&& (2147483647 : Int32)))), .val (.int (own_max (1 : Int32) (k1 &&& (2147483647 : Int32)))), .val (.int (0 : Int32)), .val (.ref b329), .val (.int (1 : Int32)), .val (.ref b329)] [(.ref b329)])) _
      refine st341.trans ?_
      show Steps p.tables e below (T341.setTop (mkF m 125 #[.val (.int k0), .val (.int k1), .val (.int k2), .val (.int (own_max (1 : Int32) (k0 &&& (2147483647 : Int32)))), .val (.int (own_max (1 : Int32) (k1 &&& (2147483647 : Int32)))), .val (.int (0 : Int32)), .val (.ref b329), .val (.int (1 : Int32)), .val (.ref b329)] [(.int (own_max (1 : Int32) (k1 &&& (2147483647 : Int32))))])) _
      refine XS.iload X341.here hx rfl (hb hby at_125) rfl ?_
      show Steps p.tables e below (T341.setTop (mkF m 127 #[.val (.int k0), .val (.int k1), .val (.int k2), .val (.int (own_max (1 : Int32) (k0 &&& (2147483647 : Int32)))), .val (.int (own_max (1 : Int32) (k1 &&& (2147483647 : Int32)))), .val (.int (0 : Int32)), .val (.ref b329), .val (.int (1 : Int32)), .val (.ref b329)] [(.int (own_max (1 : Int32) (k1 &&& (2147483647 : Int32)))), (.int (own_max (1 : Int32) (k1 &&& (2147483647 : Int32))))])) _
      refine XS.icmpNo X341.here hx rfl (hb hby at_127) rfl (teq (rfl : (own_max (1 : Int32) (k1 &&& (2147483647 : Int32))) = (own_max (1 : Int32) (k1 &&& (2147483647 : Int32))))).2 ?_
      show Steps p.tables e below (T341.setTop (mkF m 130 #[.val (.int k0), .val (.int k1), .val (.int k2), .val (.int (own_max (1 : Int32) (k0 &&& (2147483647 : Int32)))), .val (.int (own_max (1 : Int32) (k1 &&& (2147483647 : Int32)))), .val (.int (0 : Int32)), .val (.ref b329), .val (.int (1 : Int32)), .val (.ref b329)] [])) _
      refine XS.iconst X341.here hx rfl (hb hby at_130) ?_
      show Steps p.tables e below (T341.setTop (mkF m 131 #[.val (.int k0), .val (.int k1), .val (.int k2), .val (.int (own_max (1 : Int32) (k0 &&& (2147483647 : Int32)))), .val (.int (own_max (1 : Int32) (k1 &&& (2147483647 : Int32)))), .val (.int (0 : Int32)), .val (.ref b329), .val (.int (1 : Int32)), .val (.ref b329)] [(.int (1 : Int32))])) _
      refine XS.goto X341.here hx rfl (pc0 := 131) (pc' := 135) rfl (hb hby at_131) (by decide) (by decide) ?_
      show Steps p.tables e below (T341.setTop (mkF m 135 #[.val (.int k0), .val (.int k1), .val (.int k2), .val (.int (own_max (1 : Int32) (k0 &&& (2147483647 : Int32)))), .val (.int (own_max (1 : Int32) (k1 &&& (2147483647 : Int32)))), .val (.int (0 : Int32)), .val (.ref b329), .val (.int (1 : Int32)), .val (.ref b329)] [(.int (1 : Int32))])) _
      refine XS.istore X341.here hx rfl (hb hby at_135) rfl (l' := #[.val (.int k0), .val (.int k1), .val (.int k2), .val (.int (own_max (1 : Int32) (k0 &&& (2147483647 : Int32)))), .val (.int (own_max (1 : Int32) (k1 &&& (2147483647 : Int32)))), .val (.int (0 : Int32)), .val (.ref b329), .val (.int (1 : Int32)), .val (.ref b329)]) rfl ?_
      show Steps p.tables e below (T341.setTop (mkF m 137 #[.val (.int k0), .val (.int k1), .val (.int k2), .val (.int (own_max (1 : Int32) (k0 &&& (2147483647 : Int32)))), .val (.int (own_max (1 : Int32) (k1 &&& (2147483647 : Int32)))), .val (.int (0 : Int32)), .val (.ref b329), .val (.int (1 : Int32)), .val (.ref b329)] [])) _
      refine XS.iload X341.here hx rfl (hb hby at_137) rfl ?_
      show Steps p.tables e below (T341.setTop (mkF m 139 #[.val (.int k0), .val (.int k1), .val (.int k2), .val (.int (own_max (1 : Int32) (k0 &&& (2147483647 : Int32)))), .val (.int (own_max (1 : Int32) (k1 &&& (2147483647 : Int32)))), .val (.int (0 : Int32)), .val (.ref b329), .val (.int (1 : Int32)), .val (.ref b329)] [(.int (1 : Int32))])) _
      refine XS.ifNo X341.here hx rfl (hb hby at_139) rfl ((if0 _ _).trans (feq (by decide : ¬ ((1 : Int32) = (0 : Int32)))).1) ?_
      show Steps p.tables e below (T341.setTop (mkF m 142 #[.val (.int k0), .val (.int k1), .val (.int k2), .val (.int (own_max (1 : Int32) (k0 &&& (2147483647 : Int32)))), .val (.int (own_max (1 : Int32) (k1 &&& (2147483647 : Int32)))), .val (.int (0 : Int32)), .val (.ref b329), .val (.int (1 : Int32)), .val (.ref b329)] [])) _
      refine XS.aload X341.here hx rfl (hb hby at_142) rfl rfl ?_
      show Steps p.tables e below (T341.setTop (mkF m 144 #[.val (.int k0), .val (.int k1), .val (.int k2), .val (.int (own_max (1 : Int32) (k0 &&& (2147483647 : Int32)))), .val (.int (own_max (1 : Int32) (k1 &&& (2147483647 : Int32)))), .val (.int (0 : Int32)), .val (.ref b329), .val (.int (1 : Int32)), .val (.ref b329)] [(.ref b329)])) _
      refine st342.trans ?_
      show Steps p.tables e below (T342.setTop (mkF m 147 #[.val (.int k0), .val (.int k1), .val (.int k2), .val (.int (own_max (1 : Int32) (k0 &&& (2147483647 : Int32)))), .val (.int (own_max (1 : Int32) (k1 &&& (2147483647 : Int32)))), .val (.int (0 : Int32)), .val (.ref b329), .val (.int (1 : Int32)), .val (.ref b329)] [(.int (24 : Int32))])) _
      refine XS.bipush X342.here hx rfl (hb hby at_147) ?_
      show Steps p.tables e below (T342.setTop (mkF m 149 #[.val (.int k0), .val (.int k1), .val (.int k2), .val (.int (own_max (1 : Int32) (k0 &&& (2147483647 : Int32)))), .val (.int (own_max (1 : Int32) (k1 &&& (2147483647 : Int32)))), .val (.int (0 : Int32)), .val (.ref b329), .val (.int (1 : Int32)), .val (.ref b329)] [(.int (24 : Int32)), (.int (24 : Int32))])) _
      refine XS.icmpNo X342.here hx rfl (hb hby at_149) rfl (teq (rfl : (24 : Int32) = (24 : Int32))).2 ?_
      show Steps p.tables e below (T342.setTop (mkF m 152 #[.val (.int k0), .val (.int k1), .val (.int k2), .val (.int (own_max (1 : Int32) (k0 &&& (2147483647 : Int32)))), .val (.int (own_max (1 : Int32) (k1 &&& (2147483647 : Int32)))), .val (.int (0 : Int32)), .val (.ref b329), .val (.int (1 : Int32)), .val (.ref b329)] [])) _
      refine XS.iconst X342.here hx rfl (hb hby at_152) ?_
      show Steps p.tables e below (T342.setTop (mkF m 153 #[.val (.int k0), .val (.int k1), .val (.int k2), .val (.int (own_max (1 : Int32) (k0 &&& (2147483647 : Int32)))), .val (.int (own_max (1 : Int32) (k1 &&& (2147483647 : Int32)))), .val (.int (0 : Int32)), .val (.ref b329), .val (.int (1 : Int32)), .val (.ref b329)] [(.int (1 : Int32))])) _
      refine XS.goto X342.here hx rfl (pc0 := 153) (pc' := 157) rfl (hb hby at_153) (by decide) (by decide) ?_
      show Steps p.tables e below (T342.setTop (mkF m 157 #[.val (.int k0), .val (.int k1), .val (.int k2), .val (.int (own_max (1 : Int32) (k0 &&& (2147483647 : Int32)))), .val (.int (own_max (1 : Int32) (k1 &&& (2147483647 : Int32)))), .val (.int (0 : Int32)), .val (.ref b329), .val (.int (1 : Int32)), .val (.ref b329)] [(.int (1 : Int32))])) _
      refine XS.istore X342.here hx rfl (hb hby at_157) rfl (l' := #[.val (.int k0), .val (.int k1), .val (.int k2), .val (.int (own_max (1 : Int32) (k0 &&& (2147483647 : Int32)))), .val (.int (own_max (1 : Int32) (k1 &&& (2147483647 : Int32)))), .val (.int (0 : Int32)), .val (.ref b329), .val (.int (1 : Int32)), .val (.ref b329)]) rfl ?_
      show Steps p.tables e below (T342.setTop (mkF m 159 #[.val (.int k0), .val (.int k1), .val (.int k2), .val (.int (own_max (1 : Int32) (k0 &&& (2147483647 : Int32)))), .val (.int (own_max (1 : Int32) (k1 &&& (2147483647 : Int32)))), .val (.int (0 : Int32)), .val (.ref b329), .val (.int (1 : Int32)), .val (.ref b329)] [])) _
      refine XS.iload X342.here hx rfl (hb hby at_159) rfl ?_
      show Steps p.tables e below (T342.setTop (mkF m 161 #[.val (.int k0), .val (.int k1), .val (.int k2), .val (.int (own_max (1 : Int32) (k0 &&& (2147483647 : Int32)))), .val (.int (own_max (1 : Int32) (k1 &&& (2147483647 : Int32)))), .val (.int (0 : Int32)), .val (.ref b329), .val (.int (1 : Int32)), .val (.ref b329)] [(.int (1 : Int32))])) _
      refine XS.ifNo X342.here hx rfl (hb hby at_161) rfl ((if0 _ _).trans (feq (by decide : ¬ ((1 : Int32) = (0 : Int32)))).1) ?_
      show Steps p.tables e below (T342.setTop (mkF m 164 #[.val (.int k0), .val (.int k1), .val (.int k2), .val (.int (own_max (1 : Int32) (k0 &&& (2147483647 : Int32)))), .val (.int (own_max (1 : Int32) (k1 &&& (2147483647 : Int32)))), .val (.int (0 : Int32)), .val (.ref b329), .val (.int (1 : Int32)), .val (.ref b329)] [])) _
      refine XS.aload X342.here hx rfl (hb hby at_164) rfl rfl ?_
      show Steps p.tables e below (T342.setTop (mkF m 166 #[.val (.int k0), .val (.int k1), .val (.int k2), .val (.int (own_max (1 : Int32) (k0 &&& (2147483647 : Int32)))), .val (.int (own_max (1 : Int32) (k1 &&& (2147483647 : Int32)))), .val (.int (0 : Int32)), .val (.ref b329), .val (.int (1 : Int32)), .val (.ref b329)] [(.ref b329)])) _
      refine st343.trans ?_
      show Steps p.tables e below (T343.setTop (mkF m 169 #[.val (.int k0), .val (.int k1), .val (.int k2), .val (.int (own_max (1 : Int32) (k0 &&& (2147483647 : Int32)))), .val (.int (own_max (1 : Int32) (k1 &&& (2147483647 : Int32)))), .val (.int (0 : Int32)), .val (.ref b329), .val (.int (1 : Int32)), .val (.ref b329)] [(.int (10000 : Int32))])) _
      refine XS.sipush X343.here hx rfl (hb hby at_169) ?_
      show Steps p.tables e below (T343.setTop (mkF m 172 #[.val (.int k0), .val (.int k1), .val (.int k2), .val (.int (own_max (1 : Int32) (k0 &&& (2147483647 : Int32)))), .val (.int (own_max (1 : Int32) (k1 &&& (2147483647 : Int32)))), .val (.int (0 : Int32)), .val (.ref b329), .val (.int (1 : Int32)), .val (.ref b329)] [(.int (10000 : Int32)), (.int (10000 : Int32))])) _
      refine XS.icmpNo X343.here hx rfl (hb hby at_172) rfl (teq (rfl : (10000 : Int32) = (10000 : Int32))).2 ?_
      show Steps p.tables e below (T343.setTop (mkF m 175 #[.val (.int k0), .val (.int k1), .val (.int k2), .val (.int (own_max (1 : Int32) (k0 &&& (2147483647 : Int32)))), .val (.int (own_max (1 : Int32) (k1 &&& (2147483647 : Int32)))), .val (.int (0 : Int32)), .val (.ref b329), .val (.int (1 : Int32)), .val (.ref b329)] [])) _
      refine XS.iconst X343.here hx rfl (hb hby at_175) ?_
      show Steps p.tables e below (T343.setTop (mkF m 176 #[.val (.int k0), .val (.int k1), .val (.int k2), .val (.int (own_max (1 : Int32) (k0 &&& (2147483647 : Int32)))), .val (.int (own_max (1 : Int32) (k1 &&& (2147483647 : Int32)))), .val (.int (0 : Int32)), .val (.ref b329), .val (.int (1 : Int32)), .val (.ref b329)] [(.int (1 : Int32))])) _
      refine XS.goto X343.here hx rfl (pc0 := 176) (pc' := 180) rfl (hb hby at_176) (by decide) (by decide) ?_
      show Steps p.tables e below (T343.setTop (mkF m 180 #[.val (.int k0), .val (.int k1), .val (.int k2), .val (.int (own_max (1 : Int32) (k0 &&& (2147483647 : Int32)))), .val (.int (own_max (1 : Int32) (k1 &&& (2147483647 : Int32)))), .val (.int (0 : Int32)), .val (.ref b329), .val (.int (1 : Int32)), .val (.ref b329)] [(.int (1 : Int32))])) _
      refine XS.istore X343.here hx rfl (hb hby at_180) rfl (l' := #[.val (.int k0), .val (.int k1), .val (.int k2), .val (.int (own_max (1 : Int32) (k0 &&& (2147483647 : Int32)))), .val (.int (own_max (1 : Int32) (k1 &&& (2147483647 : Int32)))), .val (.int (0 : Int32)), .val (.ref b329), .val (.int (1 : Int32)), .val (.ref b329)]) rfl ?_
      show Steps p.tables e below (T343.setTop (mkF m 182 #[.val (.int k0), .val (.int k1), .val (.int k2), .val (.int (own_max (1 : Int32) (k0 &&& (2147483647 : Int32)))), .val (.int (own_max (1 : Int32) (k1 &&& (2147483647 : Int32)))), .val (.int (0 : Int32)), .val (.ref b329), .val (.int (1 : Int32)), .val (.ref b329)] [])) _
      refine XS.iload X343.here hx rfl (hb hby at_182) rfl ?_
      show Steps p.tables e below (T343.setTop (mkF m 184 #[.val (.int k0), .val (.int k1), .val (.int k2), .val (.int (own_max (1 : Int32) (k0 &&& (2147483647 : Int32)))), .val (.int (own_max (1 : Int32) (k1 &&& (2147483647 : Int32)))), .val (.int (0 : Int32)), .val (.ref b329), .val (.int (1 : Int32)), .val (.ref b329)] [(.int (1 : Int32))])) _
      refine XS.ifNo X343.here hx rfl (hb hby at_184) rfl ((if0 _ _).trans (feq (by decide : ¬ ((1 : Int32) = (0 : Int32)))).1) ?_
      show Steps p.tables e below (T343.setTop (mkF m 187 #[.val (.int k0), .val (.int k1), .val (.int k2), .val (.int (own_max (1 : Int32) (k0 &&& (2147483647 : Int32)))), .val (.int (own_max (1 : Int32) (k1 &&& (2147483647 : Int32)))), .val (.int (0 : Int32)), .val (.ref b329), .val (.int (1 : Int32)), .val (.ref b329)] [])) _
      refine XS.aload X343.here hx rfl (hb hby at_187) rfl rfl ?_
      show Steps p.tables e below (T343.setTop (mkF m 189 #[.val (.int k0), .val (.int k1), .val (.int k2), .val (.int (own_max (1 : Int32) (k0 &&& (2147483647 : Int32)))), .val (.int (own_max (1 : Int32) (k1 &&& (2147483647 : Int32)))), .val (.int (0 : Int32)), .val (.ref b329), .val (.int (1 : Int32)), .val (.ref b329)] [(.ref b329)])) _
      refine st344.trans ?_
      show Steps p.tables e below (T344.setTop (mkF m 192 #[.val (.int k0), .val (.int k1), .val (.int k2), .val (.int (own_max (1 : Int32) (k0 &&& (2147483647 : Int32)))), .val (.int (own_max (1 : Int32) (k1 &&& (2147483647 : Int32)))), .val (.int (0 : Int32)), .val (.ref b329), .val (.int (1 : Int32)), .val (.ref b329)] [(.int (128 : Int32))])) _
      refine XS.sipush X344.here hx rfl (hb hby at_192) ?_
      show Steps p.tables e below (T344.setTop (mkF m 195 #[.val (.int k0), .val (.int k1), .val (.int k2), .val (.int (own_max (1 : Int32) (k0 &&& (2147483647 : Int32)))), .val (.int (own_max (1 : Int32) (k1 &&& (2147483647 : Int32)))), .val (.int (0 : Int32)), .val (.ref b329), .val (.int (1 : Int32)), .val (.ref b329)] [(.int (128 : Int32)), (.int (128 : Int32))])) _
      refine XS.icmpNo X344.here hx rfl (hb hby at_195) rfl (teq (rfl : (128 : Int32) = (128 : Int32))).2 ?_
      show Steps p.tables e below (T344.setTop (mkF m 198 #[.val (.int k0), .val (.int k1), .val (.int k2), .val (.int (own_max (1 : Int32) (k0 &&& (2147483647 : Int32)))), .val (.int (own_max (1 : Int32) (k1 &&& (2147483647 : Int32)))), .val (.int (0 : Int32)), .val (.ref b329), .val (.int (1 : Int32)), .val (.ref b329)] [])) _
      refine XS.iconst X344.here hx rfl (hb hby at_198) ?_
      show Steps p.tables e below (T344.setTop (mkF m 199 #[.val (.int k0), .val (.int k1), .val (.int k2), .val (.int (own_max (1 : Int32) (k0 &&& (2147483647 : Int32)))), .val (.int (own_max (1 : Int32) (k1 &&& (2147483647 : Int32)))), .val (.int (0 : Int32)), .val (.ref b329), .val (.int (1 : Int32)), .val (.ref b329)] [(.int (1 : Int32))])) _
      refine XS.goto X344.here hx rfl (pc0 := 199) (pc' := 203) rfl (hb hby at_199) (by decide) (by decide) ?_
      show Steps p.tables e below (T344.setTop (mkF m 203 #[.val (.int k0), .val (.int k1), .val (.int k2), .val (.int (own_max (1 : Int32) (k0 &&& (2147483647 : Int32)))), .val (.int (own_max (1 : Int32) (k1 &&& (2147483647 : Int32)))), .val (.int (0 : Int32)), .val (.ref b329), .val (.int (1 : Int32)), .val (.ref b329)] [(.int (1 : Int32))])) _
      refine XS.istore X344.here hx rfl (hb hby at_203) rfl (l' := #[.val (.int k0), .val (.int k1), .val (.int k2), .val (.int (own_max (1 : Int32) (k0 &&& (2147483647 : Int32)))), .val (.int (own_max (1 : Int32) (k1 &&& (2147483647 : Int32)))), .val (.int (0 : Int32)), .val (.ref b329), .val (.int (1 : Int32)), .val (.ref b329)]) rfl ?_
      show Steps p.tables e below (T344.setTop (mkF m 205 #[.val (.int k0), .val (.int k1), .val (.int k2), .val (.int (own_max (1 : Int32) (k0 &&& (2147483647 : Int32)))), .val (.int (own_max (1 : Int32) (k1 &&& (2147483647 : Int32)))), .val (.int (0 : Int32)), .val (.ref b329), .val (.int (1 : Int32)), .val (.ref b329)] [])) _
      refine XS.iload X344.here hx rfl (hb hby at_205) rfl ?_
      show Steps p.tables e below (T344.setTop (mkF m 207 #[.val (.int k0), .val (.int k1), .val (.int k2), .val (.int (own_max (1 : Int32) (k0 &&& (2147483647 : Int32)))), .val (.int (own_max (1 : Int32) (k1 &&& (2147483647 : Int32)))), .val (.int (0 : Int32)), .val (.ref b329), .val (.int (1 : Int32)), .val (.ref b329)] [(.int (1 : Int32))])) _
      exact k_)
    obtain ⟨fs, hr, hrun, hended, hW, hsame⟩ := X344.leave (v := some (.int (1 : Int32))) (fun h => by rw [Bd.returns] at h; cases h)
    refine ⟨_, _, pre345 _ ?_, hrun, hended, _, _, rfl, ?_, ⟨_, rfl⟩, hW, hsame.mono (by decide) (by decide)⟩
    · show Steps p.tables e below (T344.setTop (mkF m 207 #[.val (.int k0), .val (.int k1), .val (.int k2), .val (.int (own_max (1 : Int32) (k0 &&& (2147483647 : Int32)))), .val (.int (own_max (1 : Int32) (k1 &&& (2147483647 : Int32)))), .val (.int (0 : Int32)), .val (.ref b329), .val (.int (1 : Int32)), .val (.ref b329)] [(.int (1 : Int32))])) _
      exact retN X344 hx (t := .boolean) Bd.returns (by simp) (hb hby at_207) hr
    · show Q_0 Z k0 k1 k2 w_RESP3 w_ZERO w_EL h0 n0 _ T344.heap _
      rw [e344]
      exact ⟨rfl, N344⟩
  · obtain ⟨T346, h346, X346, e346, E346, A346, D346, -, st346⟩ := newO X326 hx hZ hown (hw _ (List.mem_of_getElem? (i := 5) rfl)) (hw _ (List.mem_of_getElem? (i := 6) rfl)) (hw _ (List.mem_of_getElem? (i := 7) rfl)) e326 (g := (mkF m 32 #[.val (.int k0), .val (.int k1), .val (.int k2), .val (.int (own_max (1 : Int32) (k0 &&& (2147483647 : Int32)))), .val (.int (own_max (1 : Int32) (k1 &&& (2147483647 : Int32)))), .val (.int (1 : Int32)), .unset, .unset, .unset] [])) rfl (hb hby at_32) (by decide) (by decide)
    obtain ⟨b346, g346⟩ : ∃ z, z = h0.size := ⟨_, rfl⟩
    rw [← g346] at A346 D346 st346
    have gg_b346 : n0 ≤ b346 := Nat.le_trans Z0 (Nat.le_of_eq g346.symm)
    have sz_b346 : h0.size ≤ b346 := Nat.le_trans O0.1 (Nat.le_of_eq g346.symm)
    have O347 := own_ext_trans O0 E346
    have Zs347 := Nat.le_trans Z0 (E346).1
    have c348 : Sta Z h346 "com/example/keelreach/keelreach/ProtocolVersion" "RESP3" "Lcom/example/keelreach/keelreach/ProtocolVersion;" (.ref w_RESP3) := S_RESP3.ext E346
    have c349 : Sta Z h346 "java/time/Duration" "ZERO" "Ljava/time/Duration;" (.ref w_ZERO) := S_ZERO.ext E346
    have c350 : Sta Z h346 "java/util/ImmutableCollections" "EMPTY_LIST" "Ljava/util/ImmutableCollections$ListN;" (.ref w_EL) := S_EL.ext E346
    have F346_preferredProtocolVersion : Fld Z h346 b346 "com/example/keelreach/keelreach/RedisOptions" "preferredProtocolVersion" "Lcom/example/keelreach/keelreach/ProtocolVersion;" .null := D346 (Or.inl (hw _ (List.mem_of_getElem? (i := 18) rfl))) (ty := (.object "com/example/keelreach/keelreach/ProtocolVersion")) (by decide)
    have F346_maxPoolSize : Fld Z h346 b346 "com/example/keelreach/keelreach/RedisOptions" "maxPoolSize" "I" (.int (0 : Int32)) := D346 (Or.inl (hw _ (List.mem_of_getElem? (i := 20) rfl))) (ty := .int) (by decide)
    have F346_maxPoolWaiting : Fld Z h346 b346 "com/example/keelreach/keelreach/RedisOptions" "maxPoolWaiting" "I" (.int (0 : Int32)) := D346 (Or.inl (hw _ (List.mem_of_getElem? (i := 22) rfl))) (ty := .int) (by decide)
    have F346_poolCleanerInterval : Fld Z h346 b346 "com/example/keelreach/keelreach/RedisOptions" "poolCleanerInterval" "Ljava/time/Duration;" .null := D346 (Or.inl (hw _ (List.mem_of_getElem? (i := 43) rfl))) (ty := (.object "java/time/Duration")) (by decide)
    have F346_poolRecycleTimeout : Fld Z h346 b346 "com/example/keelreach/keelreach/RedisOptions" "poolRecycleTimeout" "Ljava/time/Duration;" .null := D346 (Or.inl (hw _ (List.mem_of_getElem? (i := 46) rfl))) (ty := (.object "java/time/Duration")) (by decide)
    have F346_connectTimeout : Fld Z h346 b346 "com/example/keelreach/keelreach/RedisOptions" "connectTimeout" "Ljava/time/Duration;" .null := D346 (Or.inl (hw _ (List.mem_of_getElem? (i := 49) rfl))) (ty := (.object "java/time/Duration")) (by decide)
    have F346_commandTimeout : Fld Z h346 b346 "com/example/keelreach/keelreach/RedisOptions" "commandTimeout" "Ljava/time/Duration;" .null := D346 (Or.inl (hw _ (List.mem_of_getElem? (i := 52) rfl))) (ty := (.object "java/time/Duration")) (by decide)
    have F346_maxCommandsInFlight : Fld Z h346 b346 "com/example/keelreach/keelreach/RedisOptions" "maxCommandsInFlight" "I" (.int (0 : Int32)) := D346 (Or.inl (hw _ (List.mem_of_getElem? (i := 54) rfl))) (ty := .int) (by decide)
    have F346_autoPipeliningInterval : Fld Z h346 b346 "com/example/keelreach/keelreach/RedisOptions" "autoPipeliningInterval" "Ljava/time/Duration;" .null := D346 (Or.inl (hw _ (List.mem_of_getElem? (i := 61) rfl))) (ty := (.object "java/time/Duration")) (by decide)
    have F346_autoPipeliningThreshold : Fld Z h346 b346 "com/example/keelreach/keelreach/RedisOptions" "autoPipeliningThreshold" "I" (.int (0 : Int32)) := D346 (Or.inl (hw _ (List.mem_of_getElem? (i := 63) rfl))) (ty := .int) (by decide)
    have F346_trustedCertificates : Fld Z h346 b346 "com/example/keelreach/keelreach/RedisOptions" "trustedCertificates" "Ljava/util/List;" .null := D346 (Or.inl (hw _ (List.mem_of_getElem? (i := 71) rfl))) (ty := (.object "java/util/List")) (by decide)
    have F346_verifyHostName : Fld Z h346 b346 "com/example/keelreach/keelreach/RedisOptions" "verifyHostName" "Z" (.int (0 : Int32)) := D346 (Or.inl (hw _ (List.mem_of_getElem? (i := 73) rfl))) (ty := .boolean) (by decide)
    obtain ⟨v351, _, ⟨T351, L351, k351, n351⟩, -, X351, ⟨Lc351, hQ351, l351, y351, z351⟩, st351⟩ := X346.specialBack hx (y := (⟨"com/example/keelreach/keelreach/RedisOptions", "<init>", "()V"⟩ : MethodName)) rfl hown (mvT hZ (hw _ (List.mem_of_getElem? (i := 8) rfl))) (mvT hZ (hw _ (List.mem_of_getElem? (i := 9) rfl))) (mvT hZ (hw _ (List.mem_of_getElem? (i := 10) rfl))) (by decide) (backOf (W := 1) (rm_rinit l Z a0 hw [] b346 .null (.int (0 : Int32)) (.int (0 : Int32)) .null .null .null .null (.int (0 : Int32)) .null (.int (0 : Int32)) .null (.int (0 : Int32)) w_RESP3 w_ZERO w_EL h346 n0 Zs347 A346 gg_b346 F346_preferredProtocolVersion F346_maxPoolSize F346_maxPoolWaiting F346_poolCleanerInterval F346_poolRecycleTimeout F346_connectTimeout F346_commandTimeout F346_maxCommandsInFlight F346_autoPipeliningInterval F346_autoPipeliningThreshold F346_trustedCertificates F346_verifyHostName c348 c349 c350) hZ (hw _ (List.mem_of_getElem? (i := 10) rfl)) (hw _ (List.mem_of_getElem? (i := 7) rfl)) (by decide) (by decide)) (g := (mkF m 36 #[.val (.int k0), .val (.int k1), .val (.int k2), .val (.int (own_max (1 : Int32) (k0 &&& (2147483647 : Int32)))), .val (.int (own_max (1 : Int32) (k1 &&& (2147483647 : Int32)))), .val (.int (1 : Int32)), .unset, .unset, .unset] [(.ref b346), (.ref b346)])) rfl (by rw [hml]; rfl) (Steps.refl _) (a := b346) (argsL := []) (rest := [(.ref b346)]) (lenOf pd_5 rfl) rfl (by show 2 * 0 + _ ≤ _; exact Nat.le_of_eq rfl) (hb hby at_36) (fun _ _ => ⟨rfl, e346, (by decide : 1 + 4 ≤ _), (by decide : 16 + 8 ≤ _)⟩)
    dsimp only [Pt.U, Pt.locs, Pt.cells, Pt.slots] at X351 l351 y351 z351 st351 hQ351
    subst l351 y351 z351
    obtain ⟨hv351, N351q, M351⟩ := hQ351
    have N351 := Fr.app N326 N351q
    subst hv351
    obtain ⟨K351k, E351x, F351_maxPoolSize, F351_maxPoolWaiting, F351_maxCommandsInFlight, F351_autoPipeliningThreshold⟩ := M351
    have O352 := own_ext_keep O347 K351k (allS sz_b346 all0)
    have Zs352 := Nat.le_trans Zs347 K351k.1
    have c353 : Exa Z T351.heap b346 "com/example/keelreach/keelreach/RedisOptions" := A346.keep K351k
    obtain ⟨cq354, kq354, q354a, q354b, q354c⟩ := isOf hZ rfl E351x
    obtain ⟨v354, _, ⟨T354, L354, k354, n354⟩, -, X354, ⟨Lc354, hQ354, l354, y354, z354⟩, st354⟩ := X351.virtualBack hx (y := (⟨"com/example/keelreach/keelreach/RedisOptions", "getMaxPoolSize", "()I"⟩ : MethodName)) (z := (⟨"com/example/keelreach/keelreach/RedisOptions", "getMaxPoolSize", "()I"⟩ : MethodName)) hown (mvT hZ (hw _ (List.mem_of_getElem? (i := 74) rfl))) (mvT hZ (hw _ (List.mem_of_getElem? (i := 75) rfl))) (notFace_of_selects (args := #[]) (mvT hZ (hw _ (List.mem_of_getElem? (i := 77) rfl)))) (mvT hZ (hw _ (List.mem_of_getElem? (i := 77) rfl))) (mvT hZ (hw _ (List.mem_of_getElem? (i := 76) rfl))) (by decide) (backOf (W := 0) (rm_getMaxPoolSize l Z a0 hw [] b346 (6 : Int32) T351.heap n0 Zs352 F351_maxPoolSize) hZ (hw _ (List.mem_of_getElem? (i := 78) rfl)) (hw _ (List.mem_of_getElem? (i := 7) rfl)) (by decide) (by decide)) q354a q354c (g := (mkF m 43 #[.val (.int k0), .val (.int k1), .val (.int k2), .val (.int (own_max (1 : Int32) (k0 &&& (2147483647 : Int32)))), .val (.int (own_max (1 : Int32) (k1 &&& (2147483647 : Int32)))), .val (.int (1 : Int32)), .val (.ref b346), .unset, .unset] [(.ref b346)])) rfl (by rw [hml]; rfl) (Steps.refl _) (argsL := []) (rest := []) (lenOf pd_6 rfl) rfl (by show 2 * 0 + _ ≤ _; exact Nat.le_of_eq rfl) (hb hby at_43) (fun _ _ => ⟨rfl, rfl, (by decide : 5 + 0 ≤ _), (by decide : 24 + 0 ≤ _)⟩)
    dsimp only [Pt.U, Pt.locs, Pt.cells, Pt.slots] at X354 l354 y354 z354 st354 hQ354
    subst l354 y354 z354
    obtain ⟨hv354, N354q, e354⟩ := hQ354
    have N354 := Fr.app N351 N354q
    subst hv354
    obtain ⟨cq355, kq355, q355a, q355b, q355c⟩ := isOf hZ e354 E351x
    obtain ⟨v355, _, ⟨T355, L355, k355, n355⟩, -, X355, ⟨Lc355, hQ355, l355, y355, z355⟩, st355⟩ := X354.virtualBack hx (y := (⟨"com/example/keelreach/keelreach/RedisOptions", "setMaxPoolSize", "(I)Lcom/example/keelreach/keelreach/RedisOptions;"⟩ : MethodName)) (z := (⟨"com/example/keelreach/keelreach/RedisOptions", "setMaxPoolSize", "(I)Lcom/example/keelreach/keelreach/RedisOptions;"⟩ : MethodName)) hown (mvT hZ (hw _ (List.mem_of_getElem? (i := 79) rfl))) (mvT hZ (hw _ (List.mem_of_getElem? (i := 80) rfl))) (notFace_of_selects (args := #[]) (mvT hZ (hw _ (List.mem_of_getElem? (i := 82) rfl)))) (mvT hZ (hw _ (List.mem_of_getElem? (i := 82) rfl))) (mvT hZ (hw _ (List.mem_of_getElem? (i := 81) rfl))) (by decide) (backOf (W := 0) (rm_setMaxPoolSize l Z a0 hw [] b346 (own_max (1 : Int32) (k0 &&& (2147483647 : Int32))) (.int (6 : Int32)) (.int (24 : Int32)) (.int (10000 : Int32)) (.int (128 : Int32)) T351.heap n0 Zs352 E351x gg_b346 F351_maxPoolSize F351_maxPoolWaiting F351_maxCommandsInFlight F351_autoPipeliningThreshold (own_max_ge (k0 &&& (2147483647 : Int32)))) hZ (hw _ (List.mem_of_getElem? (i := 83) rfl)) (hw _ (List.mem_of_getElem? (i := 7) rfl)) (by decide) (by decide)) q355a q355c (g := (mkF m 66 #[.val (.int k0), .val (.int k1), .val (.int k2), .val (.int (own_max (1 : Int32) (k0 &&& (2147483647 : Int32)))), .val (.int (own_max (1 : Int32) (k1 &&& (2147483647 : Int32)))), .val (.int (1 : Int32)), .val (.ref b346), .val (.int (1 : Int32)), .unset] [(.int (own_max (1 : Int32) (k0 &&& (2147483647 : Int32)))), (.ref b346)])) rfl (by rw [hml]; rfl) (Steps.refl _) (argsL := [(.int (own_max (1 : Int32) (k0 &&& (2147483647 : Int32))))]) (rest := []) (lenOf pd_7 rfl) rfl (by show 2 * 0 + _ ≤ _; exact Nat.le_of_eq rfl) (hb hby at_66) (fun _ _ => ⟨rfl, e354, (by decide : 5 + 0 ≤ _), (by decide : 24 + 0 ≤ _)⟩)
    dsimp only [Pt.U, Pt.locs, Pt.cells, Pt.slots] at X355 l355 y355 z355 st355 hQ355
    subst l355 y355 z355
    obtain ⟨hv355, N355q, M355⟩ := hQ355
    have N355 := Fr.app N354 N355q
    subst hv355
    obtain ⟨K355k, E355x, F355_maxPoolSize, F355_maxPoolWaiting, F355_maxCommandsInFlight, F355_autoPipeliningThreshold⟩ := M355
    have O356 := own_ext_keep O352 K355k (allS sz_b346 all0)
    have Zs356 := Nat.le_trans Zs352 K355k.1
    have c357 : Exa Z T355.heap b346 "com/example/keelreach/keelreach/RedisOptions" := E351x.keep K355k
    obtain ⟨cq358, kq358, q358a, q358b, q358c⟩ := isOf hZ rfl E355x
    obtain ⟨v358, _, ⟨T358, L358, k358, n358⟩, -, X358, ⟨Lc358, hQ358, l358, y358, z358⟩, st358⟩ := X355.virtualBack hx (y := (⟨"com/example/keelreach/keelreach/RedisOptions", "getMaxPoolSize", "()I"⟩ : MethodName)) (z := (⟨"com/example/keelreach/keelreach/RedisOptions", "getMaxPoolSize", "()I"⟩ : MethodName)) hown (mvT hZ (hw _ (List.mem_of_getElem? (i := 74) rfl))) (mvT hZ (hw _ (List.mem_of_getElem? (i := 75) rfl))) (notFace_of_selects (args := #[]) (mvT hZ (hw _ (List.mem_of_getElem? (i := 77) rfl)))) (mvT hZ (hw _ (List.mem_of_getElem? (i := 77) rfl))) (mvT hZ (hw _ (List.mem_of_getElem? (i := 76) rfl))) (by decide) (backOf (W := 0) (rm_getMaxPoolSize l Z a0 hw [] b346 (own_max (1 : Int32) (k0 &&& (2147483647 : Int32))) T355.heap n0 Zs356 F355_maxPoolSize) hZ (hw _ (List.mem_of_getElem? (i := 78) rfl)) (hw _ (List.mem_of_getElem? (i := 7) rfl)) (by decide) (by decide)) q358a q358c (g := (mkF m 85 #[.val (.int k0), .val (.int k1), .val (.int k2), .val (.int (own_max (1 : Int32) (k0 &&& (2147483647 : Int32)))), .val (.int (own_max (1 : Int32) (k1 &&& (2147483647 : Int32)))), .val (.int (1 : Int32)), .val (.ref b346), .val (.int (1 : Int32)), .val (.ref b346)] [(.ref b346)])) rfl (by rw [hml]; rfl) (Steps.refl _) (argsL := []) (rest := []) (lenOf pd_6 rfl) rfl (by show 2 * 0 + _ ≤ _; exact Nat.le_of_eq rfl) (hb hby at_85) (fun _ _ => ⟨rfl, rfl, (by decide : 5 + 0 ≤ _), (by decide : 24 + 0 ≤ _)⟩)
    dsimp only [Pt.U, Pt.locs, Pt.cells, Pt.slots] at X358 l358 y358 z358 st358 hQ358
    subst l358 y358 z358
    obtain ⟨hv358, N358q, e358⟩ := hQ358
    have N358 := Fr.app N355 N358q
    subst hv358
    obtain ⟨cq359, kq359, q359a, q359b, q359c⟩ := isOf hZ e358 E355x
    obtain ⟨v359, _, ⟨T359, L359, k359, n359⟩, -, X359, ⟨Lc359, hQ359, l359, y359, z359⟩, st359⟩ := X358.virtualBack hx (y := (⟨"com/example/keelreach/keelreach/RedisOptions", "setMaxPoolSize", "(I)Lcom/example/keelreach/keelreach/RedisOptions;"⟩ : MethodName)) (z := (⟨"com/example/keelreach/keelreach/RedisOptions", "setMaxPoolSize", "(I)Lcom/example/keelreach/keelreach/RedisOptions;"⟩ : MethodName)) hown (mvT hZ (hw _ (List.mem_of_getElem? (i := 79) rfl))) (mvT hZ (hw _ (List.mem_of_getElem? (i := 80) rfl))) (notFace_of_selects (args := #[]) (mvT hZ (hw _ (List.mem_of_getElem? (i := 82) rfl)))) (mvT hZ (hw _ (List.mem_of_getElem? (i := 82) rfl))) (mvT hZ (hw _ (List.mem_of_getElem? (i := 81) rfl))) (by decide) (backOf (W := 0) (rm_setMaxPoolSize l Z a0 hw [] b346 (own_max (1 : Int32) (k1 &&& (2147483647 : Int32))) (.int (own_max (1 : Int32) (k0 &&& (2147483647 : Int32)))) (.int (24 : Int32)) (.int (10000 : Int32)) (.int (128 : Int32)) T355.heap n0 Zs356 E355x gg_b346 F355_maxPoolSize F355_maxPoolWaiting F355_maxCommandsInFlight F355_autoPipeliningThreshold (own_max_ge (k1 &&& (2147483647 : Int32)))) hZ (hw _ (List.mem_of_getElem? (i := 83) rfl)) (hw _ (List.mem_of_getElem? (i := 7) rfl)) (by decide) (by decide)) q359a q359c (g := (mkF m 103 #[.val (.int k0), .val (.int k1), .val (.int k2), .val (.int (own_max (1 : Int32) (k0 &&& (2147483647 : Int32)))), .val (.int (own_max (1 : Int32) (k1 &&& (2147483647 : Int32)))), .val (.int (1 : Int32)), .val (.ref b346), .val (.int (1 : Int32)), .val (.ref b346)] [(.int (own_max (1 : Int32) (k1 &&& (2147483647 : Int32)))), (.ref b346)])) rfl (by rw [hml]; rfl) (Steps.refl _) (argsL := [(.int (own_max (1 : Int32) (k1 &&& (2147483647 : Int32))))]) (rest := []) (lenOf pd_7 rfl) rfl (by show 2 * 0 + _ ≤ _; exact Nat.le_of_eq rfl) (hb hby at_103) (fun _ _ => ⟨rfl, e358, (by decide : 5 + 0 ≤ _), (by decide : 24 + 0 ≤ _)⟩)
    dsimp only [Pt.U, Pt.locs, Pt.cells, Pt.slots] at X359 l359 y359 z359 st359 hQ359
    subst l359 y359 z359
    obtain ⟨hv359, N359q, M359⟩ := hQ359
    have N359 := Fr.app N358 N359q
    subst hv359
    obtain ⟨K359k, E359x, F359_maxPoolSize, F359_maxPoolWaiting, F359_maxCommandsInFlight, F359_autoPipeliningThreshold⟩ := M359
    have O360 := own_ext_keep O356 K359k (allS sz_b346 all0)
    have Zs360 := Nat.le_trans Zs356 K359k.1
    have c361 : Exa Z T359.heap b346 "com/example/keelreach/keelreach/RedisOptions" := E355x.keep K359k
    obtain ⟨cq362, kq362, q362a, q362b, q362c⟩ := isOf hZ rfl E359x
    obtain ⟨v362, _, ⟨T362, L362, k362, n362⟩, -, X362, ⟨Lc362, hQ362, l362, y362, z362⟩, st362⟩ := X359.virtualBack hx (y := (⟨"com/example/keelreach/keelreach/RedisOptions", "getMaxPoolSize", "()I"⟩ : MethodName)) (z := (⟨"com/example/keelreach/keelreach/RedisOptions", "getMaxPoolSize", "()I"⟩ : MethodName)) hown (mvT hZ (hw _ (List.mem_of_getElem? (i := 74) rfl))) (mvT hZ (hw _ (List.mem_of_getElem? (i := 75) rfl))) (notFace_of_selects (args := #[]) (mvT hZ (hw _ (List.mem_of_getElem? (i := 77) rfl)))) (mvT hZ (hw _ (List.mem_of_getElem? (i := 77) rfl))) (mvT hZ (hw _ (List.mem_of_getElem? (i := 76) rfl))) (by decide) (backOf (W := 0) (rm_getMaxPoolSize l Z a0 hw [] b346 (own_max (1 : Int32) (k1 &&& (2147483647 : Int32))) T359.heap n0 Zs360 F359_maxPoolSize) hZ (hw _ (List.mem_of_getElem? (i := 78) rfl)) (hw _ (List.mem_of_getElem? (i := 7) rfl)) (by decide) (by decide)) q362a q362c (g := (mkF m 122 #[.val (.int k0), .val (.int k1), .val (.int k2), .val (.int (own_max (1 : Int32) (k0 &&& (2147483647 : Int32)))), .val (.int (own_max (1 : Int32) (k1 &&& (2147483647 : Int32)))), .val (.int (1 : Int32)), .val (.ref b346), .val (.int (1 : Int32)), .val (.ref b346)] [(.ref b346)])) rfl (by rw [hml]; rfl) (Steps.refl _) (argsL := []) (rest := []) (lenOf pd_6 rfl) rfl (by show 2 * 0 + _ ≤ _; exact Nat.le_of_eq rfl) (hb hby at_122) (fun _ _ => ⟨rfl, rfl, (by decide : 5 + 0 ≤ _), (by decide : 24 + 0 ≤ _)⟩)
    dsimp only [Pt.U, Pt.locs, Pt.cells, Pt.slots] at X362 l362 y362 z362 st362 hQ362
    subst l362 y362 z362
    obtain ⟨hv362, N362q, e362⟩ := hQ362
    have N362 := Fr.app N359 N362q
    subst hv362
    obtain ⟨cq363, kq363, q363a, q363b, q363c⟩ := isOf hZ e362 E359x
    obtain ⟨v363, _, ⟨T363, L363, k363, n363⟩, -, X363, ⟨Lc363, hQ363, l363, y363, z363⟩, st363⟩ := X362.virtualBack hx (y := (⟨"com/example/keelreach/keelreach/RedisOptions", "getMaxPoolWaiting", "()I"⟩ : MethodName)) (z := (⟨"com/example/keelreach/keelreach/RedisOptions", "getMaxPoolWaiting", "()I"⟩ : MethodName)) hown (mvT hZ (hw _ (List.mem_of_getElem? (i := 84) rfl))) (mvT hZ (hw _ (List.mem_of_getElem? (i := 85) rfl))) (notFace_of_selects (args := #[]) (mvT hZ (hw _ (List.mem_of_getElem? (i := 87) rfl)))) (mvT hZ (hw _ (List.mem_of_getElem? (i := 87) rfl))) (mvT hZ (hw _ (List.mem_of_getElem? (i := 86) rfl))) (by decide) (backOf (W := 0) (rm_getMaxPoolWaiting l Z a0 hw [] b346 (24 : Int32) T359.heap n0 Zs360 F359_maxPoolWaiting) hZ (hw _ (List.mem_of_getElem? (i := 88) rfl)) (hw _ (List.mem_of_getElem? (i := 7) rfl)) (by decide) (by decide)) q363a q363c (g := (mkF m 144 #[.val (.int k0), .val (.int k1), .val (.int k2), .val (.int (own_max (1 : Int32) (k0 &&& (2147483647 : Int32)))), .val (.int (own_max (1 : Int32) (k1 &&& (2147483647 : Int32)))), .val (.int (1 : Int32)), .val (.ref b346), .val (.int (1 : Int32)), .val (.ref b346)] [(.ref b346)])) rfl (by rw [hml]; rfl) (Steps.refl _) (argsL := []) (rest := []) (lenOf pd_6 rfl) rfl (by show 2 * 0 + _ ≤ _; exact Nat.le_of_eq rfl) (hb hby at_144) (fun _ _ => ⟨rfl, e362, (by decide : 5 + 0 ≤ _), (by decide : 24 + 0 ≤ _)⟩)
    dsimp only [Pt.U, Pt.locs, Pt.cells, Pt.slots] at X363 l363 y363 z363 st363 hQ363
    subst l363 y363 z363
    obtain ⟨hv363, N363q, e363⟩ := hQ363
    have N363 := Fr.app N362 N363q
    subst hv363
    obtain ⟨cq364, kq364, q364a, q364b, q364c⟩ := isOf hZ e363 E359x
    obtain ⟨v364, _, ⟨T364, L364, k364, n364⟩, -, X364, ⟨Lc364, hQ364, l364, y364, z364⟩, st364⟩ := X363.virtualBack hx (y := (⟨"com/example/keelreach/keelreach/RedisOptions", "getMaxCommandsInFlight", "()I"⟩ : MethodName)) (z := (⟨"com/example/keelreach/keelreach/RedisOptions", "getMaxCommandsInFlight", "()I"⟩ : MethodName)) hown (mvT hZ (hw _ (List.mem_of_getElem? (i := 89) rfl))) (mvT hZ (hw _ (List.mem_of_getElem? (i := 90) rfl))) (notFace_of_selects (args := #[]) (mvT hZ (hw _ (List.mem_of_getElem? (i := 92) rfl)))) (mvT hZ (hw _ (List.mem_of_getElem? (i := 92) rfl))) (mvT hZ (hw _ (List.mem_of_getElem? (i := 91) rfl))) (by decide) (backOf (W := 0) (rm_getMaxCommandsInFlight l Z a0 hw [] b346 (10000 : Int32) T359.heap n0 Zs360 F359_maxCommandsInFlight) hZ (hw _ (List.mem_of_getElem? (i := 93) rfl)) (hw _ (List.mem_of_getElem? (i := 7) rfl)) (by decide) (by decide)) q364a q364c (g := (mkF m 166 #[.val (.int k0), .val (.int k1), .val (.int k2), .val (.int (own_max (1 : Int32) (k0 &&& (2147483647 : Int32)))), .val (.int (own_max (1 : Int32) (k1 &&& (2147483647 : Int32)))), .val (.int (1 : Int32)), .val (.ref b346), .val (.int (1 : Int32)), .val (.ref b346)] [(.ref b346)])) rfl (by rw [hml]; rfl) (Steps.refl _) (argsL := []) (rest := []) (lenOf pd_6 rfl) rfl (by show 2 * 0 + _ ≤ _; exact Nat.le_of_eq rfl) (hb hby at_166) (fun _ _ => ⟨rfl, e363, (by decide : 5 + 0 ≤ _), (by decide : 24 + 0 ≤ _)⟩)
    dsimp only [Pt.U, Pt.locs, Pt.cells, Pt.slots] at X364 l364 y364 z364 st364 hQ364
    subst l364 y364 z364
    obtain ⟨hv364, N364q, e364⟩ := hQ364
    have N364 := Fr.app N363 N364q
    subst hv364
    obtain ⟨cq365, kq365, q365a, q365b, q365c⟩ := isOf hZ e364 E359x
    obtain ⟨v365, _, ⟨T365, L365, k365, n365⟩, -, X365, ⟨Lc365, hQ365, l365, y365, z365⟩, st365⟩ := X364.virtualBack hx (y := (⟨"com/example/keelreach/keelreach/RedisOptions", "getAutoPipeliningThreshold", "()I"⟩ : MethodName)) (z := (⟨"com/example/keelreach/keelreach/RedisOptions", "getAutoPipeliningThreshold", "()I"⟩ : MethodName)) hown (mvT hZ (hw _ (List.mem_of_getElem? (i := 94) rfl))) (mvT hZ (hw _ (List.mem_of_getElem? (i := 95) rfl))) (notFace_of_selects (args := #[]) (mvT hZ (hw _ (List.mem_of_getElem? (i := 97) rfl)))) (mvT hZ (hw _ (List.mem_of_getElem? (i := 97) rfl))) (mvT hZ (hw _ (List.mem_of_getElem? (i := 96) rfl))) (by decide) (backOf (W := 0) (rm_getAutoPipeliningThreshold l Z a0 hw [] b346 (128 : Int32) T359.heap n0 Zs360 F359_autoPipeliningThreshold) hZ (hw _ (List.mem_of_getElem? (i := 98) rfl)) (hw _ (List.mem_of_getElem? (i := 7) rfl)) (by decide) (by decide)) q365a q365c (g := (mkF m 189 #[.val (.int k0), .val (.int k1), .val (.int k2), .val (.int (own_max (1 : Int32) (k0 &&& (2147483647 : Int32)))), .val (.int (own_max (1 : Int32) (k1 &&& (2147483647 : Int32)))), .val (.int (1 : Int32)), .val (.ref b346), .val (.int (1 : Int32)), .val (.ref b346)] [(.ref b346)])) rfl (by rw [hml]; rfl) (Steps.refl _) (argsL := []) (rest := []) (lenOf pd_6 rfl) rfl (by show 2 * 0 + _ ≤ _; exact Nat.le_of_eq rfl) (hb hby at_189) (fun _ _ => ⟨rfl, e364, (by decide : 5 + 0 ≤ _), (by decide : 24 + 0 ≤ _)⟩)
    dsimp only [Pt.U, Pt.locs, Pt.cells, Pt.slots] at X365 l365 y365 z365 st365 hQ365
    subst l365 y365 z365
    obtain ⟨hv365, N365q, e365⟩ := hQ365
    have N365 := Fr.app N364 N365q
    subst hv365
    have pre366 : ∀ t_, Steps p.tables e below (T365.setTop (mkF m 207 #[.val (.int k0), .val (.int k1), .val (.int k2), .val (.int (own_max (1 : Int32) (k0 &&& (2147483647 : Int32)))), .val (.int (own_max (1 : Int32) (k1 &&& (2147483647 : Int32)))), .val (.int (1 : Int32)), .val (.ref b346), .val (.int (1 : Int32)), .val (.ref b346)] [(.int (1 : Int32))])) t_ → Steps p.tables e below (s₁.setTop (entryFrame m #[(.int k0), (.int k1), (.int k2)] maxLocals)) t_ := fun t_ k_ => pre327 t_ (by
      show Steps p.tables e below (T326.setTop (mkF m 22 #[.val (.int k0), .val (.int k1), .val (.int k2), .val (.int (own_max (1 : Int32) (k0 &&& (2147483647 : Int32)))), .val (.int (own_max (1 : Int32) (k1 &&& (2147483647 : Int32)))), .unset, .unset, .unset, .unset] [(.int (k2 &&& (1 : Int32)))])) _
      refine XS.ifNo X326.here hx rfl (hb hby at_22) rfl ((if0 _ _).trans (feq hc22_328).1) ?_
      show Steps p.tables e below (T326.setTop (mkF m 25 #[.val (.int k0), .val (.int k1), .val (.int k2), .val (.int (own_max (1 : Int32) (k0 &&& (2147483647 : Int32)))), .val (.int (own_max (1 : Int32) (k1 &&& (2147483647 : Int32)))), .unset, .unset, .unset, .unset] [])) _
      refine XS.iconst X326.here hx rfl (hb hby at_25) ?_
      show Steps p.tables e below (T326.setTop (mkF m 26 #[.val (.int k0), .val (.int k1), .val (.int k2), .val (.int (own_max (1 : Int32) (k0 &&& (2147483647 : Int32)))), .val (.int (own_max (1 : Int32) (k1 &&& (2147483647 : Int32)))), .unset, .unset, .unset, .unset] [(.int (1 : Int32))])) _
      refine XS.goto X326.here hx rfl (pc0 := 26) (pc' := 30) rfl (hb hby at_26) (by decide) (by decide) ?_
      show Steps p.tables e below (T326.setTop (mkF m 30 #[.val (.int k0), .val (.int k1), .val (.int k2), .val (.int (own_max (1 : Int32) (k0 &&& (2147483647 : Int32)))), .val (.int (own_max (1 : Int32) (k1 &&& (2147483647 : Int32)))), .unset, .unset, .unset, .unset] [(.int (1 : Int32))])) _
      refine XS.istore X326.here hx rfl (hb hby at_30) rfl (l' := #[.val (.int k0), .val (.int k1), .val (.int k2), .val (.int (own_max (1 : Int32) (k0 &&& (2147483647 : Int32)))), .val (.int (own_max (1 : Int32) (k1 &&& (2147483647 : Int32)))), .val (.int (1 : Int32)), .unset, .unset, .unset]) rfl ?_
      show Steps p.tables e below (T326.setTop (mkF m 32 #[.val (.int k0), .val (.int k1), .val (.int k2), .val (.int (own_max (1 : Int32) (k0 &&& (2147483647 : Int32)))), .val (.int (own_max (1 : Int32) (k1 &&& (2147483647 : Int32)))), .val (.int (1 : Int32)), .unset, .unset, .unset] [])) _
      refine st346 _ ?_
      show Steps p.tables e below (T346.setTop (mkF m 35 #[.val (.int k0), .val (.int k1), .val (.int k2), .val (.int (own_max (1 : Int32) (k0 &&& (2147483647 : Int32)))), .val (.int (own_max (1 : Int32) (k1 &&& (2147483647 : Int32)))), .val (.int (1 : Int32)), .unset, .unset, .unset] [(.ref b346)])) _
      refine XS.dup X346.here hx rfl (hb hby at_35) rfl rfl ?_
      show Steps p.tables e below (T346.setTop (mkF m 36 #[.val (.int k0), .val (.int k1), .val (.int k2), .val (.int (own_max (1 : Int32) (k0 &&& (2147483647 : Int32)))), .val (.int (own_max (1 : Int32) (k1 &&& (2147483647 : Int32)))), .val (.int (1 : Int32)), .unset, .unset, .unset] [(.ref b346), (.ref b346)])) _
      refine st351.trans ?_
      show Steps p.tables e below (T351.setTop (mkF m 39 #[.val (.int k0), .val (.int k1), .val (.int k2), .val (.int (own_max (1 : Int32) (k0 &&& (2147483647 : Int32)))), .val (.int (own_max (1 : Int32) (k1 &&& (2147483647 : Int32)))), .val (.int (1 : Int32)), .unset, .unset, .unset] [(.ref b346)])) _
      refine XS.astore X351.here hx rfl (hb hby at_39) rfl rfl (l' := #[.val (.int k0), .val (.int k1), .val (.int k2), .val (.int (own_max (1 : Int32) (k0 &&& (2147483647 : Int32)))), .val (.int (own_max (1 : Int32) (k1 &&& (2147483647 : Int32)))), .val (.int (1 : Int32)), .val (.ref b346), .unset, .unset]) rfl ?_
      show Steps p.tables e below (T351.setTop (mkF m 41 #[.val (.int k0), .val (.int k1), .val (.int k2), .val (.int (own_max (1 : Int32) (k0 &&& (2147483647 : Int32)))), .val (.int (own_max (1 : Int32) (k1 &&& (2147483647 : Int32)))), .val (.int (1 : Int32)), .val (.ref b346), .unset, .unset] [])) _
      refine XS.aload X351.here hx rfl (hb hby at_41) rfl rfl ?_
      show Steps p.tables e below (T351.setTop (mkF m 43 #[.val (.int k0), .val (.int k1), .val (.int k2), .val (.int (own_max (1 : Int32) (k0 &&& (2147483647 : Int32)))), .val (.int (own_max (1 : Int32) (k1 &&& (2147483647 : Int32)))), .val (.int (1 : Int32)), .val (.ref b346), .unset, .unset] [(.ref b346)])) _
      refine st354.trans ?_
      show Steps p.tables e below (T354.setTop (mkF m 46 #[.val (.int k0), .val (.int k1), .val (.int k2), .val (.int (own_max (1 : Int32) (k0 &&& (2147483647 : Int32)))), .val (.int (own_max (1 : Int32) (k1 &&& (2147483647 : Int32)))), .val (.int (1 : Int32)), .val (.ref b346), .unset, .unset] [(.int (6 : Int32))])) _
      refine XS.bipush X354.here hx rfl (hb hby at_46) ?_
      show Steps p.tables e below (T354.setTop (mkF m 48 #[.val (.int k0), .val (.int k1), .val (.int k2), .val (.int (own_max (1 : Int32) (k0 &&& (2147483647 : Int32)))), .val (.int (own_max (1 : Int32) (k1 &&& (2147483647 : Int32)))), .val (.int (1 : Int32)), .val (.ref b346), .unset, .unset] [(.int (6 : Int32)), (.int (6 : Int32))])) _
      refine XS.icmpNo X354.here hx rfl (hb hby at_48) rfl (teq (rfl : (6 : Int32) = (6 : Int32))).2 ?_
      show Steps p.tables e below (T354.setTop (mkF m 51 #[.val (.int k0), .val (.int k1), .val (.int k2), .val (.int (own_max (1 : Int32) (k0 &&& (2147483647 : Int32)))), .val (.int (own_max (1 : Int32) (k1 &&& (2147483647 : Int32)))), .val (.int (1 : Int32)), .val (.ref b346), .unset, .unset] [])) _
      refine XS.iconst X354.here hx rfl (hb hby at_51) ?_
      show Steps p.tables e below (T354.setTop (mkF m 52 #[.val (.int k0), .val (.int k1), .val (.int k2), .val (.int (own_max (1 : Int32) (k0 &&& (2147483647 : Int32)))), .val (.int (own_max (1 : Int32) (k1 &&& (2147483647 : Int32)))), .val (.int (1 : Int32)), .val (.ref b346), .unset, .unset] [(.int (1 : Int32))])) _
      refine XS.goto X354.here hx rfl (pc0 := 52) (pc' := 56) rfl (hb hby at_52) (by decide) (by decide) ?_
      show Steps p.tables e below (T354.setTop (mkF m 56 #[.val (.int k0), .val (.int k1), .val (.int k2), .val (.int (own_max (1 : Int32) (k0 &&& (2147483647 : Int32)))), .val (.int (own_max (1 : Int32) (k1 &&& (2147483647 : Int32)))), .val (.int (1 : Int32)), .val (.ref b346), .unset, .unset] [(.int (1 : Int32))])) _
      refine XS.istore X354.here hx rfl (hb hby at_56) rfl (l' := #[.val (.int k0), .val (.int k1), .val (.int k2), .val (.int (own_max (1 : Int32) (k0 &&& (2147483647 : Int32)))), .val (.int (own_max (1 : Int32) (k1 &&& (2147483647 : Int32)))), .val (.int (1 : Int32)), .val (.ref b346), .val (.int (1 : Int32)), .unset]) rfl ?_
      show Steps p.tables e below (T354.setTop (mkF m 58 #[.val (.int k0), .val (.int k1), .val (.int k2), .val (.int (own_max (1 : Int32) (k0 &&& (2147483647 : Int32)))), .val (.int (own_max (1 : Int32) (k1 &&& (2147483647 : Int32)))), .val (.int (1 : Int32)), .val (.ref b346), .val (.int (1 : Int32)), .unset] [])) _
      refine XS.iload X354.here hx rfl (hb hby at_58) rfl ?_
      show Steps p.tables e below (T354.setTop (mkF m 60 #[.val (.int k0), .val (.int k1), .val (.int k2), .val (.int (own_max (1 : Int32) (k0 &&& (2147483647 : Int32)))), .val (.int (own_max (1 : Int32) (k1 &&& (2147483647 : Int32)))), .val (.int (1 : Int32)), .val (.ref b346), .val (.int (1 : Int32)), .unset] [(.int (1 : Int32))])) _
      refine XS.ifNo X354.here hx rfl (hb hby at_60) rfl ((if0 _ _).trans (feq (by decide : ¬ ((1 : Int32) = (0 : Int32)))).1) ?_
      show Steps p.tables e below (T354.setTop (mkF m 63 #[.val (.int k0), .val (.int k1), .val (.int k2), .val (.int (own_max (1 : Int32) (k0 &&& (2147483647 : Int32)))), .val (.int (own_max (1 : Int32) (k1 &&& (2147483647 : Int32)))), .val (.int (1 : Int32)), .val (.ref b346), .val (.int (1 : Int32)), .unset] [])) _
      refine XS.aload X354.here hx rfl (hb hby at_63) rfl rfl ?_
      show Steps p.tables e below (T354.setTop (mkF m 65 #[.val (.int k0), .val (.int k1), .val (.int k2), .val (.int (own_max (1 : Int32) (k0 &&& (2147483647 : Int32)))), .val (.int (own_max (1 : Int32) (k1 &&& (2147483647 : Int32)))), .val (.int (1 : Int32)), .val (.ref b346), .val (.int (1 : Int32)), .unset] [(.ref b346)])) _
      refine XS.iloadN X354.here hx rfl (hb hby at_65) rfl ?_
      show Steps p.tables e below (T354.setTop (mkF m 66 #[.val (.int k0), .val (.int k1), .val (.int k2), .val (.int (own_max (1 : Int32) (k0 &&& (2147483647 : Int32)))), .val (.int (own_max (1 : Int32) (k1 &&& (2147483647 : Int32)))), .val (.int (1 : Int32)), .val (.ref b346), .val (.int (1 : Int32)), .unset] [(.int (own_max (1 : Int32) (k0 &&& (2147483647 : Int32)))), (.ref b346)])) _
      refine st355.trans ?_
      show Steps p.tables e below (T355.setTop (mkF m 69 #[.val (.int k0), .val (.int k1), .val (.int k2), .val (.int (own_max (1 : Int32) (k0 &&& (2147483647 : Int32)))), .val (.int (own_max (1 : Int32) (k1 &&& (2147483647 : Int32)))), .val (.int (1 : Int32)), .val (.ref b346), .val (.int (1 : Int32)), .unset] [(.ref b346)])) _
      refine XS.astore X355.here hx rfl (hb hby at_69) rfl rfl (l' := #[.val (.int k0), .val (.int k1), .val (.int k2), .val (.int (own_max (1 : Int32) (k0 &&& (2147483647 : Int32)))), .val (.int (own_max (1 : Int32) (k1 &&& (2147483647 : Int32)))), .val (.int (1 : Int32)), .val (.ref b346), .val (.int (1 : Int32)), .val (.ref b346)]) rfl ?_
      show Steps p.tables e below (T355.setTop (mkF m 71 #[.val (.int k0), .val (.int k1), .val (.int k2), .val (.int (own_max (1 : Int32) (k0 &&& (2147483647 : Int32)))), .val (.int (own_max (1 : Int32) (k1 &&& (2147483647 : Int32)))), .val (.int (1 : Int32)), .val (.ref b346), .val (.int (1 : Int32)), .val (.ref b346)] [])) _
      refine XS.iload X355.here hx rfl (hb hby at_71) rfl ?_
      show Steps p.tables e below (T355.setTop (mkF m 73 #[.val (.int k0), .val (.int k1), .val (.int k2), .val (.int (own_max (1 : Int32) (k0 &&& (2147483647 : Int32)))), .val (.int (own_max (1 : Int32) (k1 &&& (2147483647 : Int32)))), .val (.int (1 : Int32)), .val (.ref b346), .val (.int (1 : Int32)), .val (.ref b346)] [(.int (1 : Int32))])) _
      refine XS.ifNo X355.here hx rfl (hb hby at_73) rfl ((if0 _ _).trans (feq (by decide : ¬ ((1 : Int32) = (0 : Int32)))).1) ?_
      show Steps p.tables e below (T355.setTop (mkF m 76 #[.val (.int k0), .val (.int k1), .val (.int k2), .val (.int (own_max (1 : Int32) (k0 &&& (2147483647 : Int32)))), .val (.int (own_max (1 : Int32) (k1 &&& (2147483647 : Int32)))), .val (.int (1 : Int32)), .val (.ref b346), .val (.int (1 : Int32)), .val (.ref b346)] [])) _
      refine XS.aload X355.here hx rfl (hb hby at_76) rfl rfl ?_
      show Steps p.tables e below (T355.setTop (mkF m 78 #[.val (.int k0), .val (.int k1), .val (.int k2), .val (.int (own_max (1 : Int32) (k0 &&& (2147483647 : Int32)))), .val (.int (own_max (1 : Int32) (k1 &&& (2147483647 : Int32)))), .val (.int (1 : Int32)), .val (.ref b346), .val (.int (1 : Int32)), .val (.ref b346)] [(.ref b346)])) _
      refine XS.aload X355.here hx rfl (hb hby at_78) rfl rfl ?_
      show Steps p.tables e below (T355.setTop (mkF m 80 #[.val (.int k0), .val (.int k1), .val (.int k2), .val (.int (own_max (1 : Int32) (k0 &&& (2147483647 : Int32)))), .val (.int (own_max (1 : Int32) (k1 &&& (2147483647 : Int32)))), .val (.int (1 : Int32)), .val (.ref b346), .val (.int (1 : Int32)), .val (.ref b346)] [(.ref b346), (.ref b346)])) _
      refine Jvm.RoadKit.acmp (g := (mkF m 80 #[.val (.int k0), .val (.int k1), .val (.int k2), .val (.int (own_max (1 : Int32) (k0 &&& (2147483647 : Int32)))), .val (.int (own_max (1 : Int32) (k1 &&& (2147483647 : Int32)))), .val (.int (1 : Int32)), .val (.ref b346), .val (.int (1 : Int32)), .val (.ref b346)] [(.ref b346), (.ref b346)])) X355 hx rfl rfl rfl (pc0 := 80) (pc' := 83) (same := true) rfl (hb hby at_80) rfl (decide_eq_true rfl) (by decide) (by decide) ?_
      show Steps p.tables e below (T355.setTop (mkF m 83 #[.val (.int k0), .val (.int k1), .val (.int k2), .val (.int (own_max (1 : Int32) (k0 &&& (2147483647 : Int32)))), .val (.int (own_max (1 : Int32) (k1 &&& (2147483647 : Int32)))), .val (.int (1 : Int32)), .val (.ref b346), .val (.int (1 : Int32)), .val (.ref b346)] [])) _
      refine XS.aload X355.here hx rfl (hb hby at_83) rfl rfl ?_
      show Steps p.tables e below (T355.setTop (mkF m 85 #[.val (.int k0), .val (.int k1), .val (.int k2), .val (.int (own_max (1 : Int32) (k0 &&& (2147483647 : Int32)))), .val (.int (own_max (1 : Int32) (k1 &&& (2147483647 : Int32)))), .val (.int (1 : Int32)), .val (.ref b346), .val (.int (1 : Int32)), .val (.ref b346)] [(.ref b346)])) _
      refine st358.trans ?_
      show Steps p.tables e below (T358.setTop (mkF m 88 #[.val (.int k0), .val (.int k1), .val (.int k2), .val (.int (own_max (1 : Int32) (k0 &&& (2147483647 : Int32)))), .val (.int (own_max (1 : Int32) (k1 &&& (2147483647 : Int32)))), .val (.int (1 : Int32)), .val (.ref b346), .val (.int (1 : Int32)), .val (.ref b346)] [(.int (own_max (1 : Int32) (k0 &&& (2147483647 : Int32))))])) _
      refine XS.iloadN X358.here hx rfl (hb hby at_88) rfl ?_
      show Steps p.tables e below (T358.setTop (mkF m 89 #[.val (.int k0), .val (.int k1), .val (.int k2), .val (.int (own_max (1 : Int32) (k0 &&& (2147483647 : Int32)))), .val (.int (own_max (1 : Int32) (k1 &&& (2147483647 : Int32)))), .val (.int (1 : Int32)), .val (.ref b346), .val (.int (1 : Int32)), .val (.ref b346)] [(.int (own_max (1 : Int32) (k0 &&& (2147483647 : Int32)))), (.int (own_max (1 : Int32) (k0 &&& (2147483647 : Int32))))])) _
      refine XS.icmpNo X358.here hx rfl (hb hby at_89) rfl (teq (rfl : (own_max (1 : Int32) (k0 &&& (2147483647 : Int32))) = (own_max (1 : Int32) (k0 &&& (2147483647 : Int32))))).2 ?_
      show Steps p.tables e below (T358.setTop (mkF m 92 #[.val (.int k0), .val (.int k1), .val (.int k2), .val (.int (own_max (1 : Int32) (k0 &&& (2147483647 : Int32)))), .val (.int (own_max (1 : Int32) (k1 &&& (2147483647 : Int32)))), .val (.int (1 : Int32)), .val (.ref b346), .val (.int (1 : Int32)), .val (.ref b346)] [])) _
      refine XS.iconst X358.here hx rfl (hb hby at_92) ?_
      show Steps p.tables e below (T358.setTop (mkF m 93 #[.val (.int k0), .val (.int k1), .val (.int k2), .val (.int (own_max (1 : Int32) (k0 &&& (2147483647 : Int32)))), .val (.int (own_max (1 : Int32) (k1 &&& (2147483647 : Int32)))), .val (.int (1 : Int32)), .val (.ref b346), .val (.int (1 : Int32)), .val (.ref b346)] [(.int (1 : Int32))])) _
      refine XS.goto X358.here hx rfl (pc0 := 93) (pc' := 97) rfl (hb hby at_93) (by decide) (by decide) ?_
      show Steps p.tables e below (T358.setTop (mkF m 97 #[.val (.int k0), .val (.int k1), .val (.int k2), .val (.int (own_max (1 : Int32) (k0 &&& (2147483647 : Int32)))), .val (.int (own_max (1 : Int32) (k1 &&& (2147483647 : Int32)))), .val (.int (1 : Int32)), .val (.ref b346), .val (.int (1 : Int32)), .val (.ref b346)] [(.int (1 : Int32))])) _
      refine XS.istore X358.here hx rfl (hb hby at_97) rfl (l' := #[.val (.int k0), .val (.int k1), .val (.int k2), .val (.int (own_max (1 : Int32) (k0 &&& (2147483647 : Int32)))), .val (.int (own_max (1 : Int32) (k1 &&& (2147483647 : Int32)))), .val (.int (1 : Int32)), .val (.ref b346), .val (.int (1 : Int32)), .val (.ref b346)]) rfl ?_
      show Steps p.tables e below (T358.setTop (mkF m 99 #[.val (.int k0), .val (.int k1), .val (.int k2), .val (.int (own_max (1 : Int32) (k0 &&& (2147483647 : Int32)))), .val (.int (own_max (1 : Int32) (k1 &&& (2147483647 : Int32)))), .val (.int (1 : Int32)), .val (.ref b346), .val (.int (1 : Int32)), .val (.ref b346)] [])) _
      refine XS.aload X358.here hx rfl (hb hby at_99) rfl rfl ?_
      show Steps p.tables e below (T358.setTop (mkF m 101 #[.val (.int k0), .val (.int k1), .val (.int k2), .val (.int (own_max (1 : Int32) (k0 &&& (2147483647 : Int32)))), .val (.int (own_max (1 : Int32) (k1 &&& (2147483647 : Int32)))), .val (.int (1 : Int32)), .val (.ref b346), .val (.int (1 : Int32)), .val (.ref b346)] [(.ref b346)])) _
      refine XS.iload X358.here hx rfl (hb hby at_101) rfl ?_
      show Steps p.tables e below (T358.setTop (mkF m 103 #[.val (.int k0), .val (.int k1), .val (.int k2), .val (.int (own_max (1 : Int32) (k0 &&& (2147483647 : Int32)))), .val (.int (own_max (1 : Int32) (k1 &&& (2147483647 : Int32)))), .val (.int (1 : Int32)), .val (.ref b346), .val (.int (1 : Int32)), .val (.ref b346)] [(.int (own_max (1 : Int32) (k1 &&& (2147483647 : Int32)))), (.ref b346)])) _
      refine st359.trans ?_
      show Steps p.tables e below (T359.setTop (mkF m 106 #[.val (.int k0), .val (.int k1), .val (.int k2), .val (.int (own_max (1 : Int32) (k0 &&& (2147483647 : Int32)))), .val (.int (own_max (1 : Int32) (k1 &&& (2147483647 : Int32)))), .val (.int (1 : Int32)), .val (.ref b346), .val (.int (1 : Int32)), .val (.ref b346)] [(.ref b346)])) _
      refine XS.astore X359.here hx rfl (hb hby at_106) rfl rfl (l' := #[.val (.int k0), .val (.int k1), .val (.int k2), .val (.int (own_max (1 : Int32) (k0 &&& (2147483647 : Int32)))), .val (.int (own_max (1 : Int32) (k1 &&& (2147483647 : Int32)))), .val (.int (1 : Int32)), .val (.ref b346), .val (.int (1 : Int32)), .val (.ref b346)]) rfl ?_
      show Steps p.tables e below (T359.setTop (mkF m 108 #[.val (.int k0), .val (.int k1), .val (.int k2), .val (.int (own_max (1 : Int32) (k0 &&& (2147483647 : Int32)))), .val (.int (own_max (1 : Int32) (k1 &&& (2147483647 : Int32)))), .val (.int (1 : Int32)), .val (.ref b346), .val (.int (1 : Int32)), .val (.ref b346)] [])) _
      refine XS.iload X359.here hx rfl (hb hby at_108) rfl ?_
      show Steps p.tables e below (T359.setTop (mkF m 110 #[.val (.int k0), .val (.int k1), .val (.int k2), .val (.int (own_max (1 : Int32) (k0 &&& (2147483647 : Int32)))), .val (.int (own_max (1 : Int32) (k1 &&& (2147483647 : Int32)))), .val (.int (1 : Int32)), .val (.ref b346), .val (.int (1 : Int32)), .val (.ref b346)] [(.int (1 : Int32))])) _
      refine XS.ifNo X359.here hx rfl (hb hby at_110) rfl ((if0 _ _).trans (feq (by decide : ¬ ((1 : Int32) = (0 : Int32)))).1) ?_
      show Steps p.tables e below (T359.setTop (mkF m 113 #[.val (.int k0), .val (.int k1), .val (.int k2), .val (.int (own_max (1 : Int32) (k0 &&& (2147483647 : Int32)))), .val (.int (own_max (1 : Int32) (k1 &&& (2147483647 : Int32)))), .val (.int (1 : Int32)), .val (.ref b346), .val (.int (1 : Int32)), .val (.ref b346)] [])) _
      refine XS.aload X359.here hx rfl (hb hby at_113) rfl rfl ?_
      show Steps p.tables e below (T359.setTop (mkF m 115 #[.val (.int k0), .val (.int k1), .val (.int k2), .val (.int (own_max (1 : Int32) (k0 &&& (2147483647 : Int32)))), .val (.int (own_max (1 : Int32) (k1 &&& (2147483647 : Int32)))), .val (.int (1 : Int32)), .val (.ref b346), .val (.int (1 : Int32)), .val (.ref b346)] [(.ref b346)])) _
      refine XS.aload X359.here hx rfl (hb hby at_115) rfl rfl ?_
      show Steps p.tables e below (T359.setTop (mkF m 117 #[.val (.int k0), .val (.int k1), .val (.int k2), .val (.int (own_max (1 : Int32) (k0 &&& (2147483647 : Int32)))), .val (.int (own_max (1 : Int32) (k1 &&& (2147483647 : Int32)))), .val (.int (1 : Int32)), .val (.ref b346), .val (.int (1 : Int32)), .val (.ref b346)] [(.ref b346), (.ref b346)])) _
      refine Jvm.RoadKit.acmp (g := (mkF m 117 #[.val (.int k0), .val (.int k1), .val (.int k2), .val (.int (own_max (1 : Int32) (k0 &&& (2147483647 : Int32)))), .val (.int (own_max (1 : Int32) (k1 &&& (2147483647 : Int32)))), .val (.int (1 : Int32)), .val (.ref b346), .val (.int (1 : Int32)), .val (.ref b346)] [(.ref b346), (.ref b346)])) X359 hx rfl rfl rfl (pc0 := 117) (pc' := 120) (same := true) rfl (hb hby at_117) rfl (decide_eq_true rfl) (by decide) (by decide) ?_
      show Steps p.tables e below (T359.setTop (mkF m 120 #[.val (.int k0), .val (.int k1), .val (.int k2), .val (.int (own_max (1 : Int32) (k0 &&& (2147483647 : Int32)))), .val (.int (own_max (1 : Int32) (k1 &&& (2147483647 : Int32)))), .val (.int (1 : Int32)), .val (.ref b346), .val (.int (1 : Int32)), .val (.ref b346)] [])) _
      refine XS.aload X359.here hx rfl (hb hby at_120) rfl rfl ?_
      show Steps p.tables e below (T359.setTop (mkF m 122 #[.val (.int k0), .val (.int k1), .val (.int k2), .val (.int (own_max (1 : Int32) (k0 &&& (2147483647 : Int32)))), .val (.int (own_max (1 : Int32) (k1 &&& (2147483647 : Int32)))), .val (.int (1 : Int32)), .val (.ref b346), .val (.int (1 : Int32)), .val (.ref b346)] [(.ref b346)])) _
      refine st362.trans ?_
      show Steps p.tables e below (T362.setTop (mkF m 125 #[.val (.int k0), .val (.int k1), .val (.int k2), .val (.int (own_max (1 : Int32) (k0 &&& (2147483647 : Int32)))), .val (.int (own_max (1 : Int32) (k1 &&& (2147483647 : Int32)))), .val (.int (1 : Int32)), .val (.ref b346), .val (.int (1 : Int32)), .val (.ref b346)] [(.int (own_max (1 : Int32) (k1 &&& (2147483647 : Int32))))])) _
      refine XS.iload X362.here hx rfl (hb hby at_125) rfl ?_
      show Steps p.tables e below (T362.setTop (mkF m 127 #[.val (.int k0), .val (.int k1), .val (.int k2), .val (.int (own_max (1 : Int32) (k0 &&& (2147483647 : Int32)))), .val (.int (own_max (1 : Int32) (k1 &&& (2147483647 : Int32)))), .val (.int (1 : Int32)), .val (.ref b346), .val (.int (1 : Int32)), .val (.ref b346)] [(.int (own_max (1 : Int32) (k1 &&& (2147483647 : Int32)))), (.int (own_max (1 : Int32) (k1 &&& (2147483647 : Int32))))])) _
      refine XS.icmpNo X362.here hx rfl (hb hby at_127) rfl (teq (rfl : (own_max (1 : Int32) (k1 &&& (2147483647 : Int32))) = (own_max (1 : Int32) (k1 &&& (2147483647 : Int32))))).2 ?_
      show Steps p.tables e below (T362.setTop (mkF m 130 #[.val (.int k0), .val (.int k1), .val (.int k2), .val (.int (own_max (1 : Int32) (k0 &&& (2147483647 : Int32)))), .val (.int (own_max (1 : Int32) (k1 &&& (2147483647 : Int32)))), .val (.int (1 : Int32)), .val (.ref b346), .val (.int (1 : Int32)), .val (.ref b346)] [])) _
      refine XS.iconst X362.here hx rfl (hb hby at_130) ?_
      show Steps p.tables e below (T362.setTop (mkF m 131 #[.val (.int k0), .val (.int k1), .val (.int k2), .val (.int (own_max (1 : Int32) (k0 &&& (2147483647 : Int32)))), .val (.int (own_max (1 : Int32) (k1 &&& (2147483647 : Int32)))), .val (.int (1 : Int32)), .val (.ref b346), .val (.int (1 : Int32)), .val (.ref b346)] [(.int (1 : Int32))])) _
      refine XS.goto X362.here hx rfl (pc0 := 131) (pc' := 135) rfl (hb hby at_131) (by decide) (by decide) ?_
      show Steps p.tables e below (T362.setTop (mkF m 135 #[.val (.int k0), .val (.int k1), .val (.int k2), .val (.int (own_max (1 : Int32) (k0 &&& (2147483647 : Int32)))), .val (.int (own_max (1 : Int32) (k1 &&& (2147483647 : Int32)))), .val (.int (1 : Int32)), .val (.ref b346), .val (.int (1 : Int32)), .val (.ref b346)] [(.int (1 : Int32))])) _
      refine XS.istore X362.here hx rfl (hb hby at_135) rfl (l' := #[.val (.int k0), .val (.int k1), .val (.int k2), .val (.int (own_max (1 : Int32) (k0 &&& (2147483647 : Int32)))), .val (.int (own_max (1 : Int32) (k1 &&& (2147483647 : Int32)))), .val (.int (1 : Int32)), .val (.ref b346), .val (.int (1 : Int32)), .val (.ref b346)]) rfl ?_
      show Steps p.tables e below (T362.setTop (mkF m 137 #[.val (.int k0), .val (.int k1), .val (.int k2), .val (.int (own_max (1 : Int32) (k0 &&& (2147483647 : Int32)))), .val (.int (own_max (1 : Int32) (k1 &&& (2147483647 : Int32)))), .val (.int (1 : Int32)), .val (.ref b346), .val (.int (1 : Int32)), .val (.ref b346)] [])) _
      refine XS.iload X362.here hx rfl (hb hby at_137) rfl ?_
      show Steps p.tables e below (T362.setTop (mkF m 139 #[.val (.int k0), .val (.int k1), .val (.int k2), .val (.int (own_max (1 : Int32) (k0 &&& (2147483647 : Int32)))), .val (.int (own_max (1 : Int32) (k1 &&& (2147483647 : Int32)))), .val (.int (1 : Int32)), .val (.ref b346), .val (.int (1 : Int32)), .val (.ref b346)] [(.int (1 : Int32))])) _
      refine XS.ifNo X362.here hx rfl (hb hby at_139) rfl ((if0 _ _).trans (feq (by decide : ¬ ((1 : Int32) = (0 : Int32)))).1) ?_
      show Steps p.tables e below (T362.setTop (mkF m 142 #[.val (.int k0), .val (.int k1), .val (.int k2), .val (.int (own_max (1 : Int32) (k0 &&& (2147483647 : Int32)))), .val (.int (own_max (1 : Int32) (k1 &&& (2147483647 : Int32)))), .val (.int (1 : Int32)), .val (.ref b346), .val (.int (1 : Int32)), .val (.ref b346)] [])) _
      refine XS.aload X362.here hx rfl (hb hby at_142) rfl rfl ?_
      show Steps p.tables e below (T362.setTop (mkF m 144 #[.val (.int k0), .val (.int k1), .val (.int k2), .val (.int (own_max (1 : Int32) (k0 &&& (2147483647 : Int32)))), .val (.int (own_max (1 : Int32) (k1 &&& (2147483647 : Int32)))), .val (.int (1 : Int32)), .val (.ref b346), .val (.int (1 : Int32)), .val (.ref b346)] [(.ref b346)])) _
      refine st363.trans ?_
      show Steps p.tables e below (T363.setTop (mkF m 147 #[.val (.int k0), .val (.int k1), .val (.int k2), .val (.int (own_max (1 : Int32) (k0 &&& (2147483647 : Int32)))), .val (.int (own_max (1 : Int32) (k1 &&& (2147483647 : Int32)))), .val (.int (1 : Int32)), .val (.ref b346), .val (.int (1 : Int32)), .val (.ref b346)] [(.int (24 : Int32))])) _
      refine XS.bipush X363.here hx rfl (hb hby at_147) ?_
      show Steps p.tables e below (T363.setTop (mkF m 149 #[.val (.int k0), .val (.int k1), .val (.int k2), .val (.int (own_max (1 : Int32) (k0 &&& (2147483647 : Int32)))), .val (.int (own_max (1 : Int32) (k1 &&& (2147483647 : Int32)))), .val (.int (1 : Int32)), .val (.ref b346), .val (.int (1 : Int32)), .val (.ref b346)] [(.int (24 : Int32)), (.int (24 : Int32))])) _
      refine XS.icmpNo X363.here hx rfl (hb hby at_149) rfl (teq (rfl : (24 : Int32) = (24 : Int32))).2 ?_
      show Steps p.tables e below (T363.setTop (mkF m 152 #[.val (.int k0), .val (.int k1), .val (.int k2), .val (.int (own_max (1 : Int32) (k0 &&& (2147483647 : Int32)))), .val (.int (own_max (1 : Int32) (k1 &&& (2147483647 : Int32)))), .val (.int (1 : Int32)), .val (.ref b346), .val (.int (1 : Int32)), .val (.ref b346)] [])) _
      refine XS.iconst X363.here hx rfl (hb hby at_152) ?_
      show Steps p.tables e below (T363.setTop (mkF m 153 #[.val (.int k0), .val (.int k1), .val (.int k2), .val (.int (own_max (1 : Int32) (k0 &&& (2147483647 : Int32)))), .val (.int (own_max (1 : Int32) (k1 &&& (2147483647 : Int32)))), .val (.int (1 : Int32)), .val (.ref b346), .val (.int (1 : Int32)), .val (.ref b346)] [(.int (1 : Int32))])) _
      refine XS.goto X363.here hx rfl (pc0 := 153) (pc' := 157) rfl (hb hby at_153) (by decide) (by decide) ?_
      show Steps p.tables e below (T363.setTop (mkF m 157 #[.val (.int k0), .val (.int k1), .val (.int k2), .val (.int (own_max (1 : Int32) (k0 &&& (2147483647 : Int32)))), .val (.int (own_max (1 : Int32) (k1 &&& (2147483647 : Int32)))), .val (.int (1 : Int32)), .val (.ref b346), .val (.int (1 : Int32)), .val (.ref b346)] [(.int (1 : Int32))])) _
      refine XS.istore X363.here hx rfl (hb hby at_157) rfl (l' := #[.val (.int k0), .val (.int k1), .val (.int k2), .val (.int (own_max (1 : Int32) (k0 &&& (2147483647 : Int32)))), .val (.int (own_max (1 : Int32) (k1 &&& (2147483647 : Int32)))), .val (.int (1 : Int32)), .val (.ref b346), .val (.int (1 : Int32)), .val (.ref b346)]) rfl ?_
      show Steps p.tables e below (T363.setTop (mkF m 159 #[.val (.int k0), .val (.int k1), .val (.int k2), .val (.int (own_max (1 : Int32) (k0 &&& (2147483647 : Int32)))), .val (.int (own_max (1 : Int32) (k1 &&& (2147483647 : Int32)))), .val (.int (1 : Int32)), .val (.ref b346), .val (.int (1 : Int32)), .val (.ref b346)] [])) _
      refine XS.iload X363.here hx rfl (hb hby at_159) rfl ?_
      show Steps p.tables e below (T363.setTop (mkF m 161 #[.val (.int k0), .val (.int k1), .val (.int k2), .val (.int (own_max (1 : Int32) (k0 &&& (2147483647 : Int32)))), .val (.int (own_max (1 : Int32) (k1 &&& (2147483647 : Int32)))), .val (.int (1 : Int32)), .val (.ref b346), .val (.int (1 : Int32)), .val (.ref b346)] [(.int (1 : Int32))])) _
      refine XS.ifNo X363.here hx rfl (hb hby at_161) rfl ((if0 _ _).trans (feq (by decide : ¬ ((1 : Int32) = (0 : Int32)))).1) ?_
      show Steps p.tables e below (T363.setTop (mkF m 164 #[.val (.int k0), .val (.int k1), .val (.int k2), .val (.int (own_max (1 : Int32) (k0 &&& (2147483647 : Int32)))), .val (.int (own_max (1 : Int32) (k1 &&& (2147483647 : Int32)))), .val (.int (1 : Int32)), .val (.ref b346), .val (.int (1 : Int32)), .val (.ref b346)] [])) _
      refine XS.aload X363.here hx rfl (hb hby at_164) rfl rfl ?_
      show Steps p.tables e below (T363.setTop (mkF m 166 #[.val (.int k0), .val (.int k1), .val (.int k2), .val (.int (own_max (1 : Int32) (k0 &&& (2147483647 : Int32)))), .val (.int (own_max (1 : Int32) (k1 &&& (2147483647 : Int32)))), .val (.int (1 : Int32)), .val (.ref b346), .val (.int (1 : Int32)), .val (.ref b346)] [(.ref b346)])) _
      refine st364.trans ?_
      show Steps p.tables e below (T364.setTop (mkF m 169 #[.val (.int k0), .val (.int k1), .val (.int k2), .val (.int (own_max (1 : Int32) (k0 &&& (2147483647 : Int32)))), .val (.int (own_max (1 : Int32) (k1 &&& (2147483647 : Int32)))), .val (.int (1 : Int32)), .val (.ref b346), .val (.int (1 : Int32)), .val (.ref b346)] [(.int (10000 : Int32))])) _
      refine XS.sipush X364.here hx rfl (hb hby at_169) ?_
      show Steps p.tables e below (T364.setTop (mkF m 172 #[.val (.int k0), .val (.int k1), .val (.int k2), .val (.int (own_max (1 : Int32) (k0 &&& (2147483647 : Int32)))), .val (.int (own_max (1 : Int32) (k1 &&& (2147483647 : Int32)))), .val (.int (1 : Int32)), .val (.ref b346), .val (.int (1 : Int32)), .val (.ref b346)] [(.int (10000 : Int32)), (.int (10000 : Int32))])) _
      refine XS.icmpNo X364.here hx rfl (hb hby at_172) rfl (teq (rfl : (10000 : Int32) = (10000 : Int32))).2 ?_
      show Steps p.tables e below (T364.setTop (mkF m 175 #[.val (.int k0), .val (.int k1), .val (.int k2), .val (.int (own_max (1 : Int32) (k0 &&& (2147483647 : Int32)))), .val (.int (own_max (1 : Int32) (k1 &&& (2147483647 : Int32)))), .val (.int (1 : Int32)), .val (.ref b346), .val (.int (1 : Int32)), .val (.ref b346)] [])) _
      refine XS.iconst X364.here hx rfl (hb hby at_175) ?_
      show Steps p.tables e below (T364.setTop (mkF m 176 #[.val (.int k0), .val (.int k1), .val (.int k2), .val (.int (own_max (1 : Int32) (k0 &&& (2147483647 : Int32)))), .val (.int (own_max (1 : Int32) (k1 &&& (2147483647 : Int32)))), .val (.int (1 : Int32)), .val (.ref b346), .val (.int (1 : Int32)), .val (.ref b346)] [(.int (1 : Int32))])) _
      refine XS.goto X364.here hx rfl (pc0 := 176) (pc' := 180) rfl (hb hby at_176) (by decide) (by decide) ?_
      show Steps p.tables e below (T364.setTop (mkF m 180 #[.val (.int k0), .val (.int k1), .val (.int k2), .val (.int (own_max (1 : Int32) (k0 &&& (2147483647 : Int32)))), .val (.int (own_max (1 : Int32) (k1 &&& (2147483647 : Int32)))), .val (.int (1 : Int32)), .val (.ref b346), .val (.int (1 : Int32)), .val (.ref b346)] [(.int (1 : Int32))])) _
      refine XS.istore X364.here hx rfl (hb hby at_180) rfl (l' := #[.val (.int k0), .val (.int k1), .val (.int k2), .val (.int (own_max (1 : Int32) (k0 &&& (2147483647 : Int32)))), .val (.int (own_max (1 : Int32) (k1 &&& (2147483647 : Int32)))), .val (.int (1 : Int32)), .val (.ref b346), .val (.int (1 : Int32)), .val (.ref b346)]) rfl ?_
      show Steps p.tables e below (T364.setTop (mkF m 182 #[.val (.int k0), .val (.int k1), .val (.int k2), .val (.int (own_max (1 : Int32) (k0 &&& (2147483647 : Int32)))), .val (.int (own_max (1 : Int32) (k1 &&& (2147483647 : Int32)))), .val (.int (1 : Int32)), .val (.ref b346), .val (.int (1 : Int32)), .val (.ref b346)] [])) _
      refine XS.iload X364.here hx rfl (hb hby at_182) rfl ?_
      show Steps p.tables e below (T364.setTop (mkF m 184 #[.val (.int k0), .val (.int k1), .val (.int k2), .val (.int (own_max (1 : Int32) (k0 &&& (2147483647 : Int32)))), .val (.int (own_max (1 : Int32) (k1 &&& (2147483647 : Int32)))), .val (.int (1 : Int32)), .val (.ref b346), .val (.int (1 : Int32)), .val (.ref b346)] [(.int (1 : Int32))])) _
      refine XS.ifNo X364.here hx rfl (hb hby at_184) rfl ((if0 _ _).trans (feq (by decide : ¬ ((1 : Int32) = (0 : Int32)))).1) ?_
      show Steps p.tables e below (T364.setTop (mkF m 187 #[.val (.int k0), .val (.int k1), .val (.int k2), .val (.int (own_max (1 : Int32) (k0 &&& (2147483647 : Int32)))), .val (.int (own_max (1 : Int32) (k1 &&& (2147483647 : Int32)))), .val (.int (1 : Int32)), .val (.ref b346), .val (.int (1 : Int32)), .val (.ref b346)] [])) _
      refine XS.aload X364.here hx rfl (hb hby at_187) rfl rfl ?_
      show Steps p.tables e below (T364.setTop (mkF m 189 #[.val (.int k0), .val (.int k1), .val (.int k2), .val (.int (own_max (1 : Int32) (k0 &&& (2147483647 : Int32)))), .val (.int (own_max (1 : Int32) (k1 &&& (2147483647 : Int32)))), .val (.int (1 : Int32)), .val (.ref b346), .val (.int (1 : Int32)), .val (.ref b346)] [(.ref b346)])) _
      refine st365.trans ?_
      show Steps p.tables e below (T365.setTop (mkF m 192 #[.val (.int k0), .val (.int k1), .val (.int k2), .val (.int (own_max (1 : Int32) (k0 &&& (2147483647 : Int32)))), .val (.int (own_max (1 : Int32) (k1 &&& (2147483647 : Int32)))), .val (.int (1 : Int32)), .val (.ref b346), .val (.int (1 : Int32)), .val (.ref b346)] [(.int (128 : Int32))])) _
      refine XS.sipush X365.here hx rfl (hb hby at_192) ?_
      show Steps p.tables e below (T365.setTop (mkF m 195 #[.val (.int k0), .val (.int k1), .val (.int k2), .val (.int (own_max (1 : Int32) (k0 &&& (2147483647 : Int32)))), .val (.int (own_max (1 : Int32) (k1 &&& (2147483647 : Int32)))), .val (.int (1 : Int32)), .val (.ref b346), .val (.int (1 : Int32)), .val (.ref b346)] [(.int (128 : Int32)), (.int (128 : Int32))])) _
      refine XS.icmpNo X365.here hx rfl (hb hby at_195) rfl (teq (rfl : (128 : Int32) = (128 : Int32))).2 ?_
      show Steps p.tables e below (T365.setTop (mkF m 198 #[.val (.int k0), .val (.int k1), .val (.int k2), .val (.int (own_max (1 : Int32) (k0 &&& (2147483647 : Int32)))), .val (.int (own_max (1 : Int32) (k1 &&& (2147483647 : Int32)))), .val (.int (1 : Int32)), .val (.ref b346), .val (.int (1 : Int32)), .val (.ref b346)] [])) _
      refine XS.iconst X365.here hx rfl (hb hby at_198) ?_
      show Steps p.tables e below (T365.setTop (mkF m 199 #[.val (.int k0), .val (.int k1), .val (.int k2), .val (.int (own_max (1 : Int32) (k0 &&& (2147483647 : Int32)))), .val (.int (own_max (1 : Int32) (k1 &&& (2147483647 : Int32)))), .val (.int (1 : Int32)), .val (.ref b346), .val (.int (1 : Int32)), .val (.ref b346)] [(.int (1 : Int32))])) _
      refine XS.goto X365.here hx rfl (pc0 := 199) (pc' := 203) rfl (hb hby at_199) (by decide) (by decide) ?_
      show Steps p.tables e below (T365.setTop (mkF m 203 #[.val (.int k0), .val (.int k1), .val (.int k2), .val (.int (own_max (1 : Int32) (k0 &&& (2147483647 : Int32)))), .val (.int (own_max (1 : Int32) (k1 &&& (2147483647 : Int32)))), .val (.int (1 : Int32)), .val (.ref b346), .val (.int (1 : Int32)), .val (.ref b346)] [(.int (1 : Int32))])) _
      refine XS.istore X365.here hx rfl (hb hby at_203) rfl (l' := #[.val (.int k0), .val (.int k1), .val (.int k2), .val (.int (own_max (1 : Int32) (k0 &&& (2147483647 : Int32)))), .val (.int (own_max (1 : Int32) (k1 &&& (2147483647 : Int32)))), .val (.int (1 : Int32)), .val (.ref b346), .val (.int (1 : Int32)), .val (.ref b346)]) rfl ?_
      show Steps p.tables e below (T365.setTop (mkF m 205 #[.val (.int k0), .val (.int k1), .val (.int k2), .val (.int (own_max (1 : Int32) (k0 &&& (2147483647 : Int32)))), .val (.int (own_max (1 : Int32) (k1 &&& (2147483647 : Int32)))), .val (.int (1 : Int32)), .val (.ref b346), .val (.int (1 : Int32)), .val (.ref b346)] [])) _
      refine XS.iload X365.here hx rfl (hb hby at_205) rfl ?_
      show Steps p.tables e below (T365.setTop (mkF m 207 #[.val (.int k0), .val (.int k1), .val (.int k2), .val (.int (own_max (1 : Int32) (k0 &&& (2147483647 : Int32)))), .val (.int (own_max (1 : Int32) (k1 &&& (2147483647 : Int32)))), .val (.int (1 : Int32)), .val (.ref b346), .val (.int (1 : Int32)), .val (.ref b346)] [(.int (1 : Int32))])) _
      exact k_)
    obtain ⟨fs, hr, hrun, hended, hW, hsame⟩ := X365.leave (v := some (.int (1 : Int32))) (fun h => by rw [Bd.returns] at h; cases h)
    refine ⟨_, _, pre366 _ ?_, hrun, hended, _, _, rfl, ?_, ⟨_, rfl⟩, hW, hsame.mono (by decide) (by decide)⟩
    · show Steps p.tables e below (T365.setTop (mkF m 207 #[.val (.int k0), .val (.int k1), .val (.int k2), .val (.int (own_max (1 : Int32) (k0 &&& (2147483647 : Int32)))), .val (.int (own_max (1 : Int32) (k1 &&& (2147483647 : Int32)))), .val (.int (1 : Int32)), .val (.ref b346), .val (.int (1 : Int32)), .val (.ref b346)] [(.int (1 : Int32))])) _
      exact retN X365 hx (t := .boolean) Bd.returns (by simp) (hb hby at_207) hr
    · show Q_0 Z k0 k1 k2 w_RESP3 w_ZERO w_EL h0 n0 _ T365.heap _
      rw [e365]
      exact ⟨rfl, N365⟩
set_option maxRecDepth 65536 in
set_option maxHeartbeats 40000000 in
theorem comes_1 {Post : Tables → Env → Array Value → State → Outcome → State → Prop} (hpost : ∀ tb e args s v u, (limb_1_1.after args s (.returned v) u = true ∧ limb_1_2.after args s (.returned v) u = true ∧ True) → FrameEnd s (.returned v) u (Jvm.fieldLocs frame_1_writes args s ++ Jvm.arrayLocs frame_1_arrays args s ++ Jvm.staticLocs frame_1_statics s) 24 128 → Post tb e args s (.returned v) u) :
    ArmFor flags0 classFile x code maxLocals ret World_1 tables_1 room_1 Calls_1 rest_1 Pre_1 Post := by
  intro l hfl _ _ p e ha hc hk s m args below hf hA hF happ hP
  obtain ⟨hcalls, hrest, hpre⟩ := hP
  obtain ⟨-, -, -, hnamed, -, -, -, hat⟩ := (Spec.applies_iff hf).mp happ
  obtain ⟨hg, hn⟩ := and_e (Cond.before_iff.mp (show (Jvm.Cond.and given_1 narrow_1).before args s = true from hpre))
  obtain ⟨hcount, hg0⟩ := and_e hg
  obtain ⟨hi0, hg1⟩ := and_e hg0
  obtain ⟨hi1, hg2⟩ := and_e hg1
  obtain ⟨w0, w1, w2, rfl⟩ : ∃ w0 w1 w2 : Value, args = #[w0, w1, w2] := by
    have hs : args.size = 3 := by simpa [Cond.value, given_1] using hcount
    obtain ⟨L⟩ := args
    match L, hs with
    | [w0, w1, w2], _ => exact ⟨w0, w1, w2, rfl⟩
  have hw := fun d (hd : d ∈ tables_1) => atoms_spec (ws := Jvm.Cond.code x code maxLocals ret :: tables_1) hat d (List.mem_cons_of_mem _ hd)
  have hfit : Fit s := fun {y c} hc i hi => by
    obtain ⟨ha, rfl⟩ := Array.getElem?_eq_some_iff.mp hc
    have q := List.all_eq_true.mp ((Array.all_eq_true_iff_forall_mem.mp hF) _ (Array.getElem_mem ha)) i (List.mem_range.mpr hi)
    simpa [Array.getElem?_eq_getElem hi] using q
  obtain ⟨i0, ei0⟩ := is_v hi0
  obtain rfl : w0 = (.int i0) := Option.some.inj ei0
  obtain ⟨i1, ei1⟩ := is_v hi1
  obtain rfl : w1 = (.int i1) := Option.some.inj ei1
  obtain ⟨i2, ei2⟩ := is_v hg2
  obtain rfl : w2 = (.int i2) := Option.some.inj ei2
  have g0 := hn
  obtain ⟨w_RESP3, ev_RESP3, S_RESP3, E_RESP3⟩ := own_sta (hw _ (List.mem_of_getElem? (i := 15) rfl)) (hw _ (List.mem_of_getElem? (i := 16) rfl)) g0
  obtain ⟨hsets, hown0⟩ := atoms_of _ (rest_1_c_eq ▸ (show rest_1_c.before _ s = true from hrest))
  have hsv := fun d (hd : d ∈ jdkStatics_1) => Cond.before_iff.mp (hsets d hd)
  obtain ⟨w_ZERO, ev_ZERO⟩ := exa_v (hsv _ (List.mem_of_getElem? (i := 2) rfl))
  have S_ZERO : Sta s s.heap "java/time/Duration" "ZERO" "Ljava/time/Duration;" (.ref w_ZERO) := Sta.start ev_ZERO (Or.inl (hsets _ (List.mem_of_getElem? (i := 1) rfl)))
  obtain ⟨w_EL, ev_EL⟩ := exa_v (hsv _ (List.mem_of_getElem? (i := 7) rfl))
  have S_EL : Sta s s.heap "java/util/ImmutableCollections" "EMPTY_LIST" "Ljava/util/ImmutableCollections$ListN;" (.ref w_EL) := Sta.start ev_EL (Or.inl (hsets _ (List.mem_of_getElem? (i := 6) rfl)))
  obtain ⟨n, o, h1, h2, h3, _, L, rfl, ⟨rfl, N⟩, hq⟩ := rm_0 l s _ hw tables_1 i0 i1 i2 w_RESP3 w_ZERO w_EL s.heap s.heap.size (Nat.le_refl _) S_RESP3 S_ZERO S_EL p e ha hc hk s m _ below hf ((Spec.applies_iff_loose hf).mp happ).1 ⟨rfl, State.Warmed39.refl s, rfl⟩ trivial
  refine ⟨n, _, h1, h2, h3, hpost _ _ _ _ _ _ ⟨Cond.after_iff.mpr rfl, Cond.after_iff.mpr (eq_i res_at (Term.int_eval (1)) rfl), trivial⟩ ⟨hq.1, hq.2.1, (hq.2.2.sift fun y hy => Or.inr (N y hy)).mono (by decide) (by decide)⟩⟩
theorem main_1_1 : Claimed_1_1 := comes_1 fun _ _ _ _ _ _ h hF => ⟨h.1, hF⟩
theorem main_1_2 : Claimed_1_2 := comes_1 fun _ _ _ _ _ _ h hF => ⟨h.2.1, hF⟩
end Jvm.Pilot.@@N@@
namespace Jvm.Pilot.@@N@@
open Jvm Jvm.ClassFile Sem Op Lib Jvm.Free Jvm.Stand Jvm.Pilot.@@N@@.Jvm.D
/-! MADE BY PROGRAM (witnessworld.py) out of the Statement's table words and the real class files: 27 classes; the members and pool entries that the words name. The judged class is class 1, her method 1. -/
namespace start1
open Jvm.ClassFile
def u (s : String) : CpInfo := .utf8 (stringToUtf16 s)
/-- a pool by its gaps: so many unusable entries, then the entry; so many at the end -/
def gap : Nat → List CpInfo → List CpInfo
  | 0, r => r
  | n + 1, r => .unusable :: gap n r
def poolList (es : List (Nat × CpInfo)) (last : Nat) : List CpInfo := es.foldr (fun e r => gap e.1 (e.2 :: r)) (gap last [])
def pool (es : List (Nat × CpInfo)) (last : Nat) : Array CpInfo := ⟨poolList es last⟩
def fileOf (pool : Array CpInfo) (this : Nat) (attrs : Array Attribute := #[]) (ms : Array MethodInfo := #[]) (fl : Nat := 33) (sup : Nat := 0) (ifs : Array Nat := #[]) (fds : Array FieldInfo := #[]) : ClassFile where
  minorVersion := 0
  majorVersion := 65
  constantPool := pool
  accessFlags := fl
  thisClass := this
  superClass := sup
  interfaces := ifs
  fields := fds
  methods := ms
  attributes := attrs
def plain (name : String) (sup : Option ClassId) : Class where
  name := name
  kind := .ordinary
  loader := none
  accessFlags := 33
  super := sup
  interfaces := #[]
  cf := none
  fields := #[]
  methods := #[]
  instanceTypes := #[]
  staticTypes := #[]
  resolved := #[]
  callSites := []
  init := .initialized
  statics := none
  mirror := none

def pool0 : Array CpInfo := pool [(5, u "<init>"), (0, u "()V"), (1, .class_ 10), (1, u "java/lang/Object")] 113

def k0c0 : Code := { maxStack := 0, maxLocals := 1, code := object_method_1_code, exceptionTable := #[], attributes := #[] }
def k0m0 : Method := { name := "<init>", desc := "()V", sig := { parameters := [], returnType := none }, accessFlags := 1, code := some k0c0 }
/-- java/lang/Object -/
def k0 : Class := { plain "java/lang/Object" none with
  accessFlags := 33
  interfaces := #[]
  cf := some (fileOf pool0 8 #[] #[{ accessFlags := 1, nameIndex := 5, descriptorIndex := 6, attributes := #[] }] 33 0 #[] #[])
  fields := #[]
  methods := #[k0m0]
  instanceTypes := #[]
  staticTypes := #[]
  resolved := Array.replicate 124 none
  statics := none }

def pool1 : Array CpInfo := pool [(2, .class_ 4), (0, .nameAndType 5 6), (0, u "java/lang/Object"), (0, u "<init>"), (0, u "()V"), (0, .integer 2147483647), (0, .methodref 9 10), (0, .class_ 11), (0, .nameAndType 12 13), (0, u "java/lang/Math"), (0, u "max"), (0, u "(II)I"), (0, .class_ 15), (0, u "com/example/keelreach/keelreach/RedisOptions"), (0, .methodref 14 3), (0, .methodref 14 18), (0, .nameAndType 19 20), (0, u "getMaxPoolSize"), (0, u "()I"), (0, .methodref 14 22), (0, .nameAndType 23 24), (0, u "setMaxPoolSize"), (0, u "(I)Lcom/example/keelreach/keelreach/RedisOptions;"), (0, .methodref 14 26), (0, .nameAndType 27 20), (0, u "getMaxPoolWaiting"), (0, .methodref 14 29), (0, .nameAndType 30 20), (0, u "getMaxCommandsInFlight"), (0, .methodref 14 32), (0, .nameAndType 33 20), (0, u "getAutoPipeliningThreshold"), (0, .class_ 35), (0, u "com/example/keelreach/keelreach/RedisOptionsSetMaxPoolSizePinLaw"), (2, u "law"), (0, u "(III)Z")] 3

def k1m0 : Method := { name := "<init>", desc := "()V", sig := { parameters := [], returnType := none }, accessFlags := 1, code := none }
def k1c1 : Code := { maxStack := 3, maxLocals := 9, code := code, exceptionTable := #[], attributes := #[] }
def k1m1 : Method := { name := "law", desc := "(III)Z", sig := { parameters := [.int, .int, .int], returnType := some .boolean }, accessFlags := 9, code := some k1c1 }
/-- com/example/keelreach/keelreach/RedisOptionsSetMaxPoolSizePinLaw -/
def k1 : Class := { plain "com/example/keelreach/keelreach/RedisOptionsSetMaxPoolSizePinLaw" (some 0) with
  accessFlags := 49
  interfaces := #[]
  cf := some (fileOf pool1 34 #[] #[{ accessFlags := 1, nameIndex := 5, descriptorIndex := 6, attributes := #[] }, { accessFlags := 9, nameIndex := 38, descriptorIndex := 39, attributes := #[] }] 49 2 #[] #[])
  fields := #[]
  methods := #[k1m0, k1m1]
  instanceTypes := #[]
  staticTypes := #[]
  resolved := Array.replicate 43 none
  statics := none }

def pool2 : Array CpInfo := pool [(1, .class_ 2), (0, u "java/lang/Math"), (1, .class_ 6), (1, u "java/lang/Object"), (0, u "<init>"), (0, u "()V"), (89, .class_ 100), (1, u "java/lang/Math$RandomNumberGeneratorHolder"), (71, u "negativeZeroFloatBits"), (0, u "J"), (2, u "negativeZeroDoubleBits"), (21, u "max"), (46, u "$assertionsDisabled"), (0, u "Z"), (88, u "(II)I"), (2, u "twoToTheDoubleScaleDown"), (0, u "D"), (4, u "twoToTheDoubleScaleUp"), (9, u "E"), (3, u "PI"), (2, u "TAU"), (2, u "DEGREES_TO_RADIANS"), (0, u "RADIANS_TO_DEGREES")] 94

def k2m0 : Method := { name := "<init>", desc := "()V", sig := { parameters := [], returnType := none }, accessFlags := 2, code := none }
def k2c1 : Code := { maxStack := 2, maxLocals := 2, code := jdk_29_method_65_code, exceptionTable := #[], attributes := #[] }
def k2m1 : Method := { name := "max", desc := "(II)I", sig := { parameters := [.int, .int], returnType := some .int }, accessFlags := 9, code := some k2c1 }
/-- java/lang/Math -/
def k2 : Class := { plain "java/lang/Math" (some 0) with
  accessFlags := 49
  interfaces := #[]
  cf := some (fileOf pool2 1 #[.nestMembers #[98]] #[{ accessFlags := 2, nameIndex := 7, descriptorIndex := 8, attributes := #[] }, { accessFlags := 9, nameIndex := 198, descriptorIndex := 335, attributes := #[] }] 49 4 #[] #[{ accessFlags := 25, nameIndex := 354, descriptorIndex := 339, attributes := #[] }, { accessFlags := 25, nameIndex := 358, descriptorIndex := 339, attributes := #[] }, { accessFlags := 25, nameIndex := 361, descriptorIndex := 339, attributes := #[] }, { accessFlags := 26, nameIndex := 364, descriptorIndex := 339, attributes := #[] }, { accessFlags := 26, nameIndex := 365, descriptorIndex := 339, attributes := #[] }, { accessFlags := 26, nameIndex := 172, descriptorIndex := 173, attributes := #[] }, { accessFlags := 26, nameIndex := 176, descriptorIndex := 173, attributes := #[] }, { accessFlags := 8, nameIndex := 344, descriptorIndex := 339, attributes := #[] }, { accessFlags := 8, nameIndex := 338, descriptorIndex := 339, attributes := #[] }, { accessFlags := 4120, nameIndex := 245, descriptorIndex := 246, attributes := #[] }])
  fields := #[{ name := "E", type := .double, accessFlags := 25, slot := 0, constantValue := 0 }, { name := "PI", type := .double, accessFlags := 25, slot := 1, constantValue := 0 }, { name := "TAU", type := .double, accessFlags := 25, slot := 2, constantValue := 0 }, { name := "DEGREES_TO_RADIANS", type := .double, accessFlags := 26, slot := 3, constantValue := 0 }, { name := "RADIANS_TO_DEGREES", type := .double, accessFlags := 26, slot := 4, constantValue := 0 }, { name := "negativeZeroFloatBits", type := .long, accessFlags := 26, slot := 5, constantValue := 0 }, { name := "negativeZeroDoubleBits", type := .long, accessFlags := 26, slot := 6, constantValue := 0 }, { name := "twoToTheDoubleScaleUp", type := .double, accessFlags := 8, slot := 7, constantValue := 0 }, { name := "twoToTheDoubleScaleDown", type := .double, accessFlags := 8, slot := 8, constantValue := 0 }, { name := "$assertionsDisabled", type := .boolean, accessFlags := 4120, slot := 9, constantValue := 0 }]
  methods := #[k2m0, k2m1]
  instanceTypes := #[]
  staticTypes := #[.double, .double, .double, .double, .double, .long, .long, .double, .double, .boolean]
  resolved := Array.replicate 460 none
  statics := none }

def pool3 : Array CpInfo := pool [(1, .methodref 2 3), (0, .class_ 4), (0, .nameAndType 5 6), (0, u "java/lang/Object"), (0, u "<init>"), (0, u "()V"), (0, .fieldref 8 9), (0, .class_ 10), (0, .nameAndType 11 12), (0, u "com/example/keelreach/keelreach/ProtocolVersion"), (0, u "RESP3"), (0, u "Lcom/example/keelreach/keelreach/ProtocolVersion;"), (0, .fieldref 14 15), (0, .class_ 16), (0, .nameAndType 17 12), (0, u "com/example/keelreach/keelreach/RedisOptions"), (0, u "preferredProtocolVersion"), (0, .fieldref 14 19), (0, .nameAndType 20 21), (0, u "maxPoolSize"), (0, u "I"), (0, .fieldref 14 23), (0, .nameAndType 24 21), (0, u "maxPoolWaiting"), (0, .long 30), (1, .methodref 28 29), (0, .class_ 30), (0, .nameAndType 31 32), (0, u "java/time/Duration"), (0, u "ofSeconds"), (0, u "(J)Ljava/time/Duration;"), (0, .fieldref 14 34), (0, .nameAndType 35 36), (0, u "poolCleanerInterval"), (0, u "Ljava/time/Duration;"), (0, .long 180), (1, .fieldref 14 40), (0, .nameAndType 41 36), (0, u "poolRecycleTimeout"), (0, .long 10), (1, .fieldref 14 45), (0, .nameAndType 46 36), (0, u "connectTimeout"), (0, .fieldref 28 48), (0, .nameAndType 49 36), (0, u "ZERO"), (0, .fieldref 14 51), (0, .nameAndType 52 36), (0, u "commandTimeout"), (0, .fieldref 14 54), (0, .nameAndType 55 21), (0, u "maxCommandsInFlight"), (0, .methodref 28 57), (0, .nameAndType 58 32), (0, u "ofMillis"), (0, .fieldref 14 60), (0, .nameAndType 61 36), (0, u "autoPipeliningInterval"), (0, .fieldref 14 63), (0, .nameAndType 64 21), (0, u "autoPipeliningThreshold"), (0, .interfaceMethodref 66 67), (0, .class_ 68), (0, .nameAndType 69 70), (0, u "java/util/List"), (0, u "of"), (0, u "()Ljava/util/List;"), (0, .fieldref 14 72), (0, .nameAndType 73 74), (0, u "trustedCertificates"), (0, u "Ljava/util/List;"), (0, .fieldref 14 76), (0, .nameAndType 77 78), (0, u "verifyHostName"), (0, u "Z"), (2, u "connectionString"), (0, u "Ljava/lang/String;"), (48, u "autoPipelining"), (3, u "()I"), (9, u "clientCertificate"), (0, u "Ljava/nio/file/Path;"), (2, u "clientKey"), (12, u "getMaxPoolSize"), (0, u "setMaxPoolSize"), (0, u "(I)Lcom/example/keelreach/keelreach/RedisOptions;"), (1, u "getMaxPoolWaiting"), (11, u "getMaxCommandsInFlight"), (6, u "getAutoPipeliningThreshold")] 47

def k3c0 : Code := { maxStack := 3, maxLocals := 1, code := prog_6_method_1_code, exceptionTable := #[], attributes := #[] }
def k3m0 : Method := { name := "<init>", desc := "()V", sig := { parameters := [], returnType := none }, accessFlags := 1, code := some k3c0 }
def k3c1 : Code := { maxStack := 1, maxLocals := 1, code := prog_6_method_6_code, exceptionTable := #[], attributes := #[] }
def k3m1 : Method := { name := "getMaxPoolSize", desc := "()I", sig := { parameters := [], returnType := some .int }, accessFlags := 1, code := some k3c1 }
def k3c2 : Code := { maxStack := 3, maxLocals := 2, code := prog_6_method_7_code, exceptionTable := #[], attributes := #[] }
def k3m2 : Method := { name := "setMaxPoolSize", desc := "(I)Lcom/example/keelreach/keelreach/RedisOptions;", sig := { parameters := [.int], returnType := some (.object "com/example/keelreach/keelreach/RedisOptions") }, accessFlags := 1, code := some k3c2 }
def k3c3 : Code := { maxStack := 1, maxLocals := 1, code := prog_6_method_8_code, exceptionTable := #[], attributes := #[] }
def k3m3 : Method := { name := "getMaxPoolWaiting", desc := "()I", sig := { parameters := [], returnType := some .int }, accessFlags := 1, code := some k3c3 }
def k3c4 : Code := { maxStack := 1, maxLocals := 1, code := prog_6_method_18_code, exceptionTable := #[], attributes := #[] }
def k3m4 : Method := { name := "getMaxCommandsInFlight", desc := "()I", sig := { parameters := [], returnType := some .int }, accessFlags := 1, code := some k3c4 }
def k3c5 : Code := { maxStack := 1, maxLocals := 1, code := prog_6_method_24_code, exceptionTable := #[], attributes := #[] }
def k3m5 : Method := { name := "getAutoPipeliningThreshold", desc := "()I", sig := { parameters := [], returnType := some .int }, accessFlags := 1, code := some k3c5 }
/-- com/example/keelreach/keelreach/RedisOptions -/
def k3 : Class := { plain "com/example/keelreach/keelreach/RedisOptions" (some 0) with
  accessFlags := 49
  interfaces := #[]
  cf := some (fileOf pool3 14 #[] #[{ accessFlags := 1, nameIndex := 5, descriptorIndex := 6, attributes := #[] }, { accessFlags := 1, nameIndex := 162, descriptorIndex := 135, attributes := #[] }, { accessFlags := 1, nameIndex := 163, descriptorIndex := 164, attributes := #[] }, { accessFlags := 1, nameIndex := 166, descriptorIndex := 135, attributes := #[] }, { accessFlags := 1, nameIndex := 178, descriptorIndex := 135, attributes := #[] }, { accessFlags := 1, nameIndex := 185, descriptorIndex := 135, attributes := #[] }] 49 2 #[] #[{ accessFlags := 2, nameIndex := 81, descriptorIndex := 82, attributes := #[] }, { accessFlags := 2, nameIndex := 17, descriptorIndex := 12, attributes := #[] }, { accessFlags := 2, nameIndex := 20, descriptorIndex := 21, attributes := #[] }, { accessFlags := 2, nameIndex := 24, descriptorIndex := 21, attributes := #[] }, { accessFlags := 2, nameIndex := 35, descriptorIndex := 36, attributes := #[] }, { accessFlags := 2, nameIndex := 41, descriptorIndex := 36, attributes := #[] }, { accessFlags := 2, nameIndex := 46, descriptorIndex := 36, attributes := #[] }, { accessFlags := 2, nameIndex := 52, descriptorIndex := 36, attributes := #[] }, { accessFlags := 2, nameIndex := 55, descriptorIndex := 21, attributes := #[] }, { accessFlags := 2, nameIndex := 131, descriptorIndex := 78, attributes := #[] }, { accessFlags := 2, nameIndex := 61, descriptorIndex := 36, attributes := #[] }, { accessFlags := 2, nameIndex := 64, descriptorIndex := 21, attributes := #[] }, { accessFlags := 2, nameIndex := 73, descriptorIndex := 74, attributes := #[] }, { accessFlags := 2, nameIndex := 145, descriptorIndex := 146, attributes := #[] }, { accessFlags := 2, nameIndex := 149, descriptorIndex := 146, attributes := #[] }, { accessFlags := 2, nameIndex := 77, descriptorIndex := 78, attributes := #[] }])
  fields := #[{ name := "connectionString", type := (.object "java/lang/String"), accessFlags := 2, slot := 0, constantValue := 0 }, { name := "preferredProtocolVersion", type := (.object "com/example/keelreach/keelreach/ProtocolVersion"), accessFlags := 2, slot := 1, constantValue := 0 }, { name := "maxPoolSize", type := .int, accessFlags := 2, slot := 2, constantValue := 0 }, { name := "maxPoolWaiting", type := .int, accessFlags := 2, slot := 3, constantValue := 0 }, { name := "poolCleanerInterval", type := (.object "java/time/Duration"), accessFlags := 2, slot := 4, constantValue := 0 }, { name := "poolRecycleTimeout", type := (.object "java/time/Duration"), accessFlags := 2, slot := 5, constantValue := 0 }, { name := "connectTimeout", type := (.object "java/time/Duration"), accessFlags := 2, slot := 6, constantValue := 0 }, { name := "commandTimeout", type := (.object "java/time/Duration"), accessFlags := 2, slot := 7, constantValue := 0 }, { name := "maxCommandsInFlight", type := .int, accessFlags := 2, slot := 8, constantValue := 0 }, { name := "autoPipelining", type := .boolean, accessFlags := 2, slot := 9, constantValue := 0 }, { name := "autoPipeliningInterval", type := (.object "java/time/Duration"), accessFlags := 2, slot := 10, constantValue := 0 }, { name := "autoPipeliningThreshold", type := .int, accessFlags := 2, slot := 11, constantValue := 0 }, { name := "trustedCertificates", type := (.object "java/util/List"), accessFlags := 2, slot := 12, constantValue := 0 }, { name := "clientCertificate", type := (.object "java/nio/file/Path"), accessFlags := 2, slot := 13, constantValue := 0 }, { name := "clientKey", type := (.object "java/nio/file/Path"), accessFlags := 2, slot := 14, constantValue := 0 }, { name := "verifyHostName", type := .boolean, accessFlags := 2, slot := 15, constantValue := 0 }]
  methods := #[k3m0, k3m1, k3m2, k3m3, k3m4, k3m5]
  instanceTypes := #[(.object "java/lang/String"), (.object "com/example/keelreach/keelreach/ProtocolVersion"), .int, .int, (.object "java/time/Duration"), (.object "java/time/Duration"), (.object "java/time/Duration"), (.object "java/time/Duration"), .int, .boolean, (.object "java/time/Duration"), .int, (.object "java/util/List"), (.object "java/nio/file/Path"), (.object "java/nio/file/Path"), .boolean]
  staticTypes := #[]
  resolved := Array.replicate 233 none
  statics := none }

def pool4 : Array CpInfo := pool [(1, .class_ 2), (0, u "java/lang/constant/Constable"), (0, .class_ 4), (0, u "java/lang/Object")] 6

/-- java/lang/constant/Constable -/
def k4 : Class := { plain "java/lang/constant/Constable" (some 0) with
  accessFlags := 1537
  interfaces := #[]
  cf := some (fileOf pool4 1 #[] #[] 1537 3 #[] #[])
  fields := #[]
  methods := #[]
  instanceTypes := #[]
  staticTypes := #[]
  resolved := Array.replicate 11 none
  statics := none }

def pool5 : Array CpInfo := pool [(1, .class_ 2), (0, u "java/lang/Comparable"), (0, .class_ 4), (0, u "java/lang/Object")] 7

/-- java/lang/Comparable -/
def k5 : Class := { plain "java/lang/Comparable" (some 0) with
  accessFlags := 1537
  interfaces := #[]
  cf := some (fileOf pool5 1 #[] #[] 1537 3 #[] #[])
  fields := #[]
  methods := #[]
  instanceTypes := #[]
  staticTypes := #[]
  resolved := Array.replicate 12 none
  statics := none }

def pool6 : Array CpInfo := pool [(1, .class_ 2), (0, u "java/io/Serializable"), (0, .class_ 4), (0, u "java/lang/Object")] 2

/-- java/io/Serializable -/
def k6 : Class := { plain "java/io/Serializable" (some 0) with
  accessFlags := 1537
  interfaces := #[]
  cf := some (fileOf pool6 1 #[] #[] 1537 3 #[] #[])
  fields := #[]
  methods := #[]
  instanceTypes := #[]
  staticTypes := #[]
  resolved := Array.replicate 7 none
  statics := none }

def pool7 : Array CpInfo := pool [(2, .class_ 4), (1, u "java/lang/Enum"), (0, u "name"), (0, u "Ljava/lang/String;"), (2, u "ordinal"), (0, u "I"), (1, .class_ 14), (1, u "java/lang/Object"), (4, u "hash"), (86, .class_ 108), (1, u "java/lang/Enum$EnumDesc"), (2, .class_ 112), (0, u "java/lang/constant/Constable"), (0, .class_ 114), (0, u "java/lang/Comparable"), (0, .class_ 116), (0, u "java/io/Serializable")] 87

/-- java/lang/Enum -/
def k7 : Class := { plain "java/lang/Enum" (some 0) with
  accessFlags := 1057
  interfaces := #[4, 5, 6]
  cf := some (fileOf pool7 2 #[.nestMembers #[106]] #[] 1057 12 #[111, 113, 115] #[{ accessFlags := 18, nameIndex := 5, descriptorIndex := 6, attributes := #[] }, { accessFlags := 18, nameIndex := 9, descriptorIndex := 10, attributes := #[] }, { accessFlags := 2, nameIndex := 19, descriptorIndex := 10, attributes := #[] }])
  fields := #[{ name := "name", type := (.object "java/lang/String"), accessFlags := 18, slot := 0, constantValue := 0 }, { name := "ordinal", type := .int, accessFlags := 18, slot := 1, constantValue := 0 }, { name := "hash", type := .int, accessFlags := 2, slot := 2, constantValue := 0 }]
  methods := #[]
  instanceTypes := #[(.object "java/lang/String"), .int, .int]
  staticTypes := #[]
  resolved := Array.replicate 204 none
  statics := none }

def pool8 : Array CpInfo := pool [(1, .class_ 2), (0, u "com/example/keelreach/keelreach/ProtocolVersion"), (2, u "RESP2"), (0, u "Lcom/example/keelreach/keelreach/ProtocolVersion;"), (2, u "RESP3"), (2, u "$VALUES"), (0, u "[Lcom/example/keelreach/keelreach/ProtocolVersion;"), (6, .class_ 22), (1, u "java/lang/Enum")] 24

/-- com/example/keelreach/keelreach/ProtocolVersion -/
def k8 : Class := { plain "com/example/keelreach/keelreach/ProtocolVersion" (some 7) with
  accessFlags := 16433
  interfaces := #[]
  cf := some (fileOf pool8 1 #[] #[] 16433 20 #[] #[{ accessFlags := 16409, nameIndex := 5, descriptorIndex := 6, attributes := #[] }, { accessFlags := 16409, nameIndex := 9, descriptorIndex := 6, attributes := #[] }, { accessFlags := 4122, nameIndex := 12, descriptorIndex := 13, attributes := #[] }])
  fields := #[{ name := "RESP2", type := (.object "com/example/keelreach/keelreach/ProtocolVersion"), accessFlags := 16409, slot := 0, constantValue := 0 }, { name := "RESP3", type := (.object "com/example/keelreach/keelreach/ProtocolVersion"), accessFlags := 16409, slot := 1, constantValue := 0 }, { name := "$VALUES", type := (.array (.object "com/example/keelreach/keelreach/ProtocolVersion")), accessFlags := 4122, slot := 2, constantValue := 0 }]
  methods := #[]
  instanceTypes := #[(.object "java/lang/String"), .int, .int]
  staticTypes := #[(.object "com/example/keelreach/keelreach/ProtocolVersion"), (.object "com/example/keelreach/keelreach/ProtocolVersion"), (.array (.object "com/example/keelreach/keelreach/ProtocolVersion"))]
  resolved := Array.replicate 47 none
  statics := some 0 }

def pool9 : Array CpInfo := pool [(1, .class_ 2), (0, u "java/time/temporal/TemporalAmount"), (0, .class_ 4), (0, u "java/lang/Object")] 11

/-- java/time/temporal/TemporalAmount -/
def k9 : Class := { plain "java/time/temporal/TemporalAmount" (some 0) with
  accessFlags := 1537
  interfaces := #[]
  cf := some (fileOf pool9 1 #[] #[] 1537 3 #[] #[])
  fields := #[]
  methods := #[]
  instanceTypes := #[]
  staticTypes := #[]
  resolved := Array.replicate 16 none
  statics := none }

def pool10 : Array CpInfo := pool [(10, .methodref 11 12), (0, .class_ 13), (0, .nameAndType 14 15), (0, u "java/time/Duration"), (0, u "create"), (0, u "(JI)Ljava/time/Duration;"), (12, .long 1000), (1, .integer 1000000), (3, u "ZERO"), (0, u "Ljava/time/Duration;"), (13, .class_ 51), (1, u "java/time/temporal/TemporalAmount"), (27, .class_ 81), (1, u "java/time/Duration$Lazy"), (35, u "seconds"), (21, u "<init>"), (17, .nameAndType 139 158), (0, u "()V"), (19, u "ofSeconds"), (20, u "(J)Ljava/time/Duration;"), (15, .methodref 11 216), (0, .nameAndType 139 217), (0, u "(JI)V"), (0, .methodref 219 157), (0, .class_ 220), (0, u "java/lang/Object"), (0, .fieldref 11 222), (0, .nameAndType 117 223), (0, u "J"), (0, .fieldref 11 225), (0, .nameAndType 226 227), (0, u "nanos"), (0, u "I"), (11, .class_ 241), (1, u "java/time/Duration$DurationUnits"), (27, .class_ 271), (1, u "java/time/Duration$1"), (91, u "BI_NANOS_PER_SECOND"), (0, u "Ljava/math/BigInteger;"), (120, .class_ 486), (0, u "java/lang/Comparable"), (0, .class_ 488), (0, u "java/io/Serializable"), (0, u "serialVersionUID"), (12, u "ofMillis")] 153

def k10c0 : Code := { maxStack := 3, maxLocals := 2, code := jdk_2316_method_4_code, exceptionTable := #[], attributes := #[] }
def k10m0 : Method := { name := "ofSeconds", desc := "(J)Ljava/time/Duration;", sig := { parameters := [.long], returnType := some (.object "java/time/Duration") }, accessFlags := 9, code := some k10c0 }
def k10c1 : Code := { maxStack := 4, maxLocals := 5, code := jdk_2316_method_6_code, exceptionTable := #[], attributes := #[] }
def k10m1 : Method := { name := "ofMillis", desc := "(J)Ljava/time/Duration;", sig := { parameters := [.long], returnType := some (.object "java/time/Duration") }, accessFlags := 9, code := some k10c1 }
def k10c2 : Code := { maxStack := 5, maxLocals := 3, code := jdk_2316_method_16_code, exceptionTable := #[], attributes := #[] }
def k10m2 : Method := { name := "create", desc := "(JI)Ljava/time/Duration;", sig := { parameters := [.long, .int], returnType := some (.object "java/time/Duration") }, accessFlags := 10, code := some k10c2 }
def k10c3 : Code := { maxStack := 3, maxLocals := 4, code := jdk_2316_method_17_code, exceptionTable := #[], attributes := #[] }
def k10m3 : Method := { name := "<init>", desc := "(JI)V", sig := { parameters := [.long, .int], returnType := none }, accessFlags := 2, code := some k10c3 }
/-- java/time/Duration -/
def k10 : Class := { plain "java/time/Duration" (some 0) with
  accessFlags := 49
  interfaces := #[9, 5, 6]
  cf := some (fileOf pool10 11 #[.nestMembers #[269, 239, 79]] #[{ accessFlags := 9, nameIndex := 178, descriptorIndex := 199, attributes := #[] }, { accessFlags := 9, nameIndex := 502, descriptorIndex := 199, attributes := #[] }, { accessFlags := 10, nameIndex := 14, descriptorIndex := 15, attributes := #[] }, { accessFlags := 2, nameIndex := 139, descriptorIndex := 217, attributes := #[] }] 49 219 #[49, 485, 487] #[{ accessFlags := 25, nameIndex := 34, descriptorIndex := 35, attributes := #[] }, { accessFlags := 26, nameIndex := 489, descriptorIndex := 223, attributes := #[] }, { accessFlags := 26, nameIndex := 363, descriptorIndex := 364, attributes := #[] }, { accessFlags := 18, nameIndex := 117, descriptorIndex := 223, attributes := #[] }, { accessFlags := 18, nameIndex := 226, descriptorIndex := 227, attributes := #[] }])
  fields := #[{ name := "ZERO", type := (.object "java/time/Duration"), accessFlags := 25, slot := 0, constantValue := 0 }, { name := "serialVersionUID", type := .long, accessFlags := 26, slot := 1, constantValue := 0 }, { name := "BI_NANOS_PER_SECOND", type := (.object "java/math/BigInteger"), accessFlags := 26, slot := 2, constantValue := 0 }, { name := "seconds", type := .long, accessFlags := 18, slot := 0, constantValue := 0 }, { name := "nanos", type := .int, accessFlags := 18, slot := 1, constantValue := 0 }]
  methods := #[k10m0, k10m1, k10m2, k10m3]
  instanceTypes := #[.long, .int]
  staticTypes := #[(.object "java/time/Duration"), .long, (.object "java/math/BigInteger")]
  resolved := Array.replicate 656 none
  statics := some 1 }

def pool11 : Array CpInfo := pool [(8, .class_ 10), (1, u "java/lang/Iterable"), (24, .class_ 36), (0, u "java/lang/Object")] 25

/-- java/lang/Iterable -/
def k11 : Class := { plain "java/lang/Iterable" (some 0) with
  accessFlags := 1537
  interfaces := #[]
  cf := some (fileOf pool11 8 #[] #[] 1537 35 #[] #[])
  fields := #[]
  methods := #[]
  instanceTypes := #[]
  staticTypes := #[]
  resolved := Array.replicate 62 none
  statics := none }

def pool12 : Array CpInfo := pool [(10, .class_ 12), (1, u "java/util/Collection"), (47, .class_ 61), (0, u "java/lang/Object"), (0, .class_ 63), (0, u "java/lang/Iterable")] 51

/-- java/util/Collection -/
def k12 : Class := { plain "java/util/Collection" (some 0) with
  accessFlags := 1537
  interfaces := #[11]
  cf := some (fileOf pool12 10 #[] #[] 1537 60 #[62] #[])
  fields := #[]
  methods := #[]
  instanceTypes := #[]
  staticTypes := #[]
  resolved := Array.replicate 115 none
  statics := none }

def pool13 : Array CpInfo := pool [(8, .class_ 10), (1, u "java/util/SequencedCollection"), (15, .class_ 27), (0, u "java/lang/Object"), (0, .class_ 29), (0, u "java/util/Collection")] 27

/-- java/util/SequencedCollection -/
def k13 : Class := { plain "java/util/SequencedCollection" (some 0) with
  accessFlags := 1537
  interfaces := #[12]
  cf := some (fileOf pool13 8 #[] #[] 1537 26 #[28] #[])
  fields := #[]
  methods := #[]
  instanceTypes := #[]
  staticTypes := #[]
  resolved := Array.replicate 57 none
  statics := none }

def pool14 : Array CpInfo := pool [(8, .class_ 10), (1, u "java/util/List"), (77, u "of"), (1, .fieldref 91 92), (0, .class_ 93), (0, .nameAndType 94 95), (0, u "java/util/ImmutableCollections"), (0, u "EMPTY_LIST"), (0, u "Ljava/util/ImmutableCollections$ListN;"), (7, .class_ 104), (0, u "java/lang/Object"), (14, u "()Ljava/util/List;"), (0, .class_ 121), (0, u "java/util/SequencedCollection")] 129

def k14c0 : Code := { maxStack := 1, maxLocals := 0, code := jdk_40_method_36_code, exceptionTable := #[], attributes := #[] }
def k14m0 : Method := { name := "of", desc := "()Ljava/util/List;", sig := { parameters := [], returnType := some (.object "java/util/List") }, accessFlags := 9, code := some k14c0 }
/-- java/util/List -/
def k14 : Class := { plain "java/util/List" (some 0) with
  accessFlags := 1537
  interfaces := #[13]
  cf := some (fileOf pool14 8 #[] #[{ accessFlags := 9, nameIndex := 88, descriptorIndex := 119, attributes := #[] }] 1537 103 #[120] #[])
  fields := #[]
  methods := #[k14m0]
  instanceTypes := #[]
  staticTypes := #[]
  resolved := Array.replicate 251 none
  statics := none }

def pool15 : Array CpInfo := pool [(2, .class_ 4), (1, u "java/lang/Object"), (0, u "<init>"), (0, u "()V"), (3, .class_ 11), (0, u "java/util/ImmutableCollections$List12"), (0, .class_ 13), (0, u "java/util/ImmutableCollections$ListN"), (3, u "Z"), (29, .class_ 49), (1, u "java/util/ImmutableCollections"), (0, u "$assertionsDisabled"), (5, u "[Ljava/lang/Object;"), (5, u "EMPTY_LIST"), (0, u "Ljava/util/ImmutableCollections$ListN;"), (8, u "EMPTY_LIST_NULLS"), (22, u "SALT32L"), (0, u "J"), (2, u "REVERSE"), (6, u "archivedObjects"), (2, u "EMPTY"), (0, u "Ljava/lang/Object;"), (0, .class_ 112), (0, u "java/util/ImmutableCollections$SetN"), (5, u "EMPTY_SET"), (0, u "Ljava/util/ImmutableCollections$SetN;"), (0, .class_ 121), (0, u "java/util/ImmutableCollections$MapN"), (3, u "EMPTY_MAP"), (0, u "Ljava/util/ImmutableCollections$MapN;"), (4, u "EXPAND_FACTOR"), (0, u "I"), (36, .class_ 170), (0, u "java/util/ImmutableCollections$MapN$MapNIterator"), (0, .class_ 172), (0, u "java/util/ImmutableCollections$MapN$1"), (0, .class_ 174), (0, u "java/util/ImmutableCollections$Map1"), (0, .class_ 176), (0, u "java/util/ImmutableCollections$AbstractImmutableMap"), (0, .class_ 178), (0, u "java/util/ImmutableCollections$SetN$SetNIterator"), (0, .class_ 180), (0, u "java/util/ImmutableCollections$Set12"), (0, .class_ 182), (0, u "java/util/ImmutableCollections$Set12$1"), (0, .class_ 184), (0, u "java/util/ImmutableCollections$AbstractImmutableSet"), (0, .class_ 186), (0, u "java/util/ImmutableCollections$SubList"), (0, .class_ 188), (0, u "java/util/ImmutableCollections$ListItr"), (0, .class_ 190), (0, u "java/util/ImmutableCollections$AbstractImmutableList"), (0, .class_ 192), (0, u "java/util/ImmutableCollections$AbstractImmutableCollection"), (0, .class_ 194), (0, u "java/util/ImmutableCollections$Access"), (0, .class_ 196), (0, u "java/util/ImmutableCollections$Access$1")] 16

def k15m0 : Method := { name := "<init>", desc := "()V", sig := { parameters := [], returnType := none }, accessFlags := 2, code := none }
/-- java/util/ImmutableCollections -/
def k15 : Class := { plain "java/util/ImmutableCollections" (some 0) with
  accessFlags := 32
  interfaces := #[]
  cf := some (fileOf pool15 47 #[.nestMembers #[120, 169, 171, 173, 175, 111, 177, 179, 181, 183, 12, 10, 185, 187, 189, 191, 193, 195]] #[{ accessFlags := 2, nameIndex := 5, descriptorIndex := 6, attributes := #[] }] 32 2 #[] #[{ accessFlags := 26, nameIndex := 95, descriptorIndex := 96, attributes := #[] }, { accessFlags := 26, nameIndex := 99, descriptorIndex := 17, attributes := #[] }, { accessFlags := 10, nameIndex := 106, descriptorIndex := 56, attributes := #[] }, { accessFlags := 26, nameIndex := 109, descriptorIndex := 110, attributes := #[] }, { accessFlags := 24, nameIndex := 62, descriptorIndex := 63, attributes := #[] }, { accessFlags := 24, nameIndex := 72, descriptorIndex := 63, attributes := #[] }, { accessFlags := 24, nameIndex := 118, descriptorIndex := 119, attributes := #[] }, { accessFlags := 24, nameIndex := 125, descriptorIndex := 126, attributes := #[] }, { accessFlags := 24, nameIndex := 131, descriptorIndex := 132, attributes := #[] }, { accessFlags := 4120, nameIndex := 50, descriptorIndex := 17, attributes := #[] }])
  fields := #[{ name := "SALT32L", type := .long, accessFlags := 26, slot := 0, constantValue := 0 }, { name := "REVERSE", type := .boolean, accessFlags := 26, slot := 1, constantValue := 0 }, { name := "archivedObjects", type := (.array (.object "java/lang/Object")), accessFlags := 10, slot := 2, constantValue := 0 }, { name := "EMPTY", type := (.object "java/lang/Object"), accessFlags := 26, slot := 3, constantValue := 0 }, { name := "EMPTY_LIST", type := (.object "java/util/ImmutableCollections$ListN"), accessFlags := 24, slot := 4, constantValue := 0 }, { name := "EMPTY_LIST_NULLS", type := (.object "java/util/ImmutableCollections$ListN"), accessFlags := 24, slot := 5, constantValue := 0 }, { name := "EMPTY_SET", type := (.object "java/util/ImmutableCollections$SetN"), accessFlags := 24, slot := 6, constantValue := 0 }, { name := "EMPTY_MAP", type := (.object "java/util/ImmutableCollections$MapN"), accessFlags := 24, slot := 7, constantValue := 0 }, { name := "EXPAND_FACTOR", type := .int, accessFlags := 24, slot := 8, constantValue := 0 }, { name := "$assertionsDisabled", type := .boolean, accessFlags := 4120, slot := 9, constantValue := 0 }]
  methods := #[k15m0]
  instanceTypes := #[]
  staticTypes := #[.long, .boolean, (.array (.object "java/lang/Object")), (.object "java/lang/Object"), (.object "java/util/ImmutableCollections$ListN"), (.object "java/util/ImmutableCollections$ListN"), (.object "java/util/ImmutableCollections$SetN"), (.object "java/util/ImmutableCollections$MapN"), .int, .boolean]
  resolved := Array.replicate 213 none
  statics := some 2 }

def pool16 : Array CpInfo := pool [(2, .class_ 4), (1, u "java/lang/Object"), (0, u "<init>"), (0, u "()V"), (1, .class_ 10), (1, u "java/util/AbstractCollection"), (66, .class_ 78), (0, u "java/util/Collection")] 81

def k16m0 : Method := { name := "<init>", desc := "()V", sig := { parameters := [], returnType := none }, accessFlags := 4, code := none }
/-- java/util/AbstractCollection -/
def k16 : Class := { plain "java/util/AbstractCollection" (some 0) with
  accessFlags := 1057
  interfaces := #[12]
  cf := some (fileOf pool16 8 #[] #[{ accessFlags := 4, nameIndex := 5, descriptorIndex := 6, attributes := #[] }] 1057 2 #[77] #[])
  fields := #[]
  methods := #[k16m0]
  instanceTypes := #[]
  staticTypes := #[]
  resolved := Array.replicate 160 none
  statics := none }

def pool17 : Array CpInfo := pool [(2, .class_ 4), (1, u "java/util/AbstractCollection"), (0, u "<init>"), (0, u "()V"), (1, .class_ 10), (1, u "java/util/ImmutableCollections"), (2, .class_ 14), (0, u "java/util/ImmutableCollections$AbstractImmutableCollection")] 41

def k17m0 : Method := { name := "<init>", desc := "()V", sig := { parameters := [], returnType := none }, accessFlags := 0, code := none }
/-- java/util/ImmutableCollections$AbstractImmutableCollection -/
def k17 : Class := { plain "java/util/ImmutableCollections$AbstractImmutableCollection" (some 16) with
  accessFlags := 1056
  interfaces := #[]
  cf := some (fileOf pool17 13 #[.nestHost 8] #[{ accessFlags := 0, nameIndex := 5, descriptorIndex := 6, attributes := #[] }] 1056 2 #[] #[])
  fields := #[]
  methods := #[k17m0]
  instanceTypes := #[]
  staticTypes := #[]
  resolved := Array.replicate 56 none
  statics := none }

def pool18 : Array CpInfo := pool [(1, .class_ 2), (0, u "java/util/RandomAccess"), (0, .class_ 4), (0, u "java/lang/Object")] 2

/-- java/util/RandomAccess -/
def k18 : Class := { plain "java/util/RandomAccess" (some 0) with
  accessFlags := 1537
  interfaces := #[]
  cf := some (fileOf pool18 1 #[] #[] 1537 3 #[] #[])
  fields := #[]
  methods := #[]
  instanceTypes := #[]
  staticTypes := #[]
  resolved := Array.replicate 7 none
  statics := none }

def pool19 : Array CpInfo := pool [(2, .class_ 4), (1, u "java/util/ImmutableCollections$AbstractImmutableCollection"), (0, u "<init>"), (0, u "()V"), (1, .class_ 10), (1, u "java/util/ImmutableCollections"), (3, .class_ 16), (1, u "java/util/ImmutableCollections$AbstractImmutableList"), (60, .class_ 78), (0, u "java/util/List"), (45, .class_ 125), (0, u "java/util/RandomAccess")] 70

def k19m0 : Method := { name := "<init>", desc := "()V", sig := { parameters := [], returnType := none }, accessFlags := 0, code := none }
/-- java/util/ImmutableCollections$AbstractImmutableList -/
def k19 : Class := { plain "java/util/ImmutableCollections$AbstractImmutableList" (some 17) with
  accessFlags := 1056
  interfaces := #[14, 18]
  cf := some (fileOf pool19 14 #[.nestHost 8] #[{ accessFlags := 0, nameIndex := 5, descriptorIndex := 6, attributes := #[] }] 1056 2 #[77, 124] #[])
  fields := #[]
  methods := #[k19m0]
  instanceTypes := #[]
  staticTypes := #[]
  resolved := Array.replicate 196 none
  statics := none }

def pool20 : Array CpInfo := pool [(2, .class_ 4), (1, u "java/util/ImmutableCollections$AbstractImmutableList"), (3, .class_ 10), (1, u "java/util/ImmutableCollections$ListN"), (0, u "elements"), (0, u "[Ljava/lang/Object;"), (2, u "allowNulls"), (0, u "Z"), (42, .class_ 60), (0, u "java/io/Serializable"), (53, .class_ 115), (0, u "java/util/ImmutableCollections")] 3

/-- java/util/ImmutableCollections$ListN -/
def k20 : Class := { plain "java/util/ImmutableCollections$ListN" (some 19) with
  accessFlags := 48
  interfaces := #[6]
  cf := some (fileOf pool20 8 #[.nestHost 114] #[] 48 2 #[59] #[{ accessFlags := 18, nameIndex := 11, descriptorIndex := 12, attributes := #[] }, { accessFlags := 18, nameIndex := 15, descriptorIndex := 16, attributes := #[] }])
  fields := #[{ name := "elements", type := (.array (.object "java/lang/Object")), accessFlags := 18, slot := 0, constantValue := 0 }, { name := "allowNulls", type := .boolean, accessFlags := 18, slot := 1, constantValue := 0 }]
  methods := #[]
  instanceTypes := #[(.array (.object "java/lang/Object")), .boolean]
  staticTypes := #[]
  resolved := Array.replicate 119 none
  statics := none }

def pool21 : Array CpInfo := pool [(1, u "java/lang/Cloneable"), (0, .class_ 1), (0, u "java/lang/Object"), (0, .class_ 3)] 3

/-- java/lang/Cloneable -/
def k21 : Class := { plain "java/lang/Cloneable" (some 0) with
  accessFlags := 1537
  interfaces := #[]
  cf := some (fileOf pool21 2 #[] #[] 1537 4 #[] #[])
  fields := #[]
  methods := #[]
  instanceTypes := #[]
  staticTypes := #[]
  resolved := Array.replicate 8 none
  statics := none }

/-- the primitive byte -/
def k22 : Class := { plain "byte" none with kind := .primitive 'B', accessFlags := 0x411 }
/-- [B -/
def k23 : Class := { plain "[B" (some 0) with kind := .array 22 .byte, interfaces := #[21, 6], accessFlags := 1041 }

/-- the primitive int -/
def k24 : Class := { plain "int" none with kind := .primitive 'I', accessFlags := 0x411 }
/-- [I -/
def k25 : Class := { plain "[I" (some 0) with kind := .array 24 .int, interfaces := #[21, 6], accessFlags := 1041 }

/-- [Ljava/lang/Object; -/
def k26 : Class := { plain "[Ljava/lang/Object;" (some 0) with kind := .array 0 (.object "java/lang/Object"), interfaces := #[21, 6], accessFlags := 1041 }

def heap : Heap := #[{ cls := 8, slots := #[.null, .ref 4, .null], vm := .statics 8 },
  { cls := 10, slots := #[.ref 6, .long 0, .null], vm := .statics 10 },
  { cls := 15, slots := #[.long 0, .int 0, .null, .null, .ref 5, .null, .null, .null, .int 0, .int 0], vm := .statics 15 },
  { cls := 26, slots := #[], vm := .none },
  { cls := 8, slots := #[.null, .int 0, .int 0], vm := .none },
  { cls := 20, slots := #[.ref 3, .int 0], vm := .none },
  { cls := 10, slots := #[.long 0, .int 0], vm := .none }]
def classes : Array Class := #[k0, k1, k2, k3, k4, k5, k6, k7, k8, k9, k10, k11, k12, k13, k14, k15, k16, k17, k18, k19, k20, k21, k22, k23, k24, k25, k26]
def interned : List (Array UInt16 × Addr) := []
def slotsUsed : Nat := 23
def theMethod : MethodId := ⟨1, 1⟩
def args0 : Array Value := #[.int 5, .int 5, .int 5]
def aboutOver (below : List Frame) : State where
  vm := { classes := classes, interned := interned.toArray }
  heap := heap
  slotsUsed := slotsUsed
  threads := #[{ frames := .invoking theMethod args0 :: below }]
def below0 : List Frame := [.native { method := ⟨0, 0⟩, args := #[] }]
def about1 : State := aboutOver below0
def p0 : Program := .bare "" "" ""
def e0 : Env := launch0.env 0 0 0
theorem w_frames : about1.frames = Frame.invoking theMethod args0 :: below0 := rfl
set_option maxRecDepth 65536 in
theorem w_args : argsFit about1.vm theMethod args0 = true := by decide +kernel
set_option maxRecDepth 65536 in
theorem w_heap : heapFits about1 = true := by decide +kernel
set_option maxRecDepth 65536 in
theorem w_runnable : about1.curStatus? = some .runnable := by decide +kernel
set_option maxRecDepth 65536 in
theorem w_alone : about1.alone = true := by decide +kernel
set_option maxRecDepth 65536 in
theorem w_named : about1.methodNamed? x = some theMethod := by decide +kernel
set_option maxRecDepth 65536 in
theorem w_hears : about1.hears theMethod below0 = true := by decide +kernel
set_option maxRecDepth 65536 in
theorem w_ripe : about1.ripe theMethod args0 below0 = true := by decide +kernel
theorem w_running : about1.status = .running := rfl
set_option maxRecDepth 65536 in
theorem w_room : about1.hasRoom e0.platform room_1 = true :=
  launch0.hasRoom_least _ room_1 (by decide +kernel) (by decide +kernel) (by decide +kernel) (by decide +kernel) (by decide +kernel) (by decide +kernel)
theorem allAtoms_all (ts : List Jvm.Cond) (a : Array Jvm.Value) (st : Jvm.State) : (allAtoms ts).before a st = ts.all (fun c => c.before a st) := by
  induction ts with
  | nil => rfl
  | cons c t ih =>
    show (Jvm.Cond.and c (allAtoms t)).before a st = _
    rw [Jvm.Cond.before_and, ih, List.all_cons]
def words1 : List Jvm.Cond := Jvm.Cond.code x code maxLocals ret :: tables_1
/-- a 'code' word, met by the world's own term for the bytes: nothing is compared byte by byte -/
theorem code_word {y : MethodName} {bytes : ByteArray} {mx : Nat} {rt : Option FieldType} {a : Array Value} {s : State} {m : MethodId} {meth : Method} {c : Code} (h1 : s.methodNamed? y = some m) (h2 : s.vm.method? m = some meth) (h3 : meth.code = some c) (h4 : c.code = bytes)
    (h5 : (c.maxLocals == mx && c.exceptionTable.isEmpty && decide (c.maxStack ≤ mostOperands) && decide (meth.sig.returnType = rt) && !meth.locks && decide (parseMethodDescriptor y.desc = some meth.sig)) = true) : (Jvm.Cond.code y bytes mx rt).before a s = true := by
  simp only [Bool.and_eq_true, beq_iff_eq, Bool.not_eq_true', decide_eq_true_eq] at h5
  obtain ⟨⟨⟨⟨⟨g1, g2⟩, g3⟩, g4⟩, g5⟩, g6⟩ := h5
  simp [Cond.before, Cond.holds, Cond.value, h1, h2, h3, h4, g1, g2, g3, g4, g5, g6]
def isCode : Jvm.Cond → Bool
  | .code _ _ _ _ => true
  | _ => false
theorem all_split {L : List Jvm.Cond} {P : Jvm.Cond → Bool} (h1 : L.all (fun c => isCode c || P c) = true) (h2 : ∀ c ∈ L.filter isCode, P c = true) : L.all P = true := by
  refine List.all_eq_true.mpr fun c hc => ?_
  have h := List.all_eq_true.mp h1 c hc
  rcases Bool.eq_false_or_eq_true (isCode c) with hi | hi
  · exact h2 c (List.mem_filter.mpr ⟨hc, hi⟩)
  · simpa [hi] using h
set_option maxRecDepth 65536 in
theorem w_c0 : (Jvm.Cond.code x code maxLocals ret).before args0 about1 = true := code_word (m := ⟨1, 1⟩) (meth := k1m1) (c := k1c1) (by decide +kernel) rfl rfl rfl (by decide +kernel)
set_option maxRecDepth 65536 in
theorem w_c1 : (Jvm.Cond.code ({ cls := "java/lang/Math", name := "max", desc := "(II)I" } : Jvm.MethodName) jdk_29_method_65_code (2 : Nat) (Option.some Jvm.ClassFile.FieldType.int)).before args0 about1 = true := code_word (m := ⟨2, 1⟩) (meth := k2m1) (c := k2c1) (by decide +kernel) rfl rfl rfl (by decide +kernel)
set_option maxRecDepth 65536 in
theorem w_c2 : (Jvm.Cond.code ({ cls := "com/example/keelreach/keelreach/RedisOptions", name := "<init>", desc := "()V" } : Jvm.MethodName) prog_6_method_1_code (1 : Nat) (Option.none : Option Jvm.ClassFile.FieldType)).before args0 about1 = true := code_word (m := ⟨3, 0⟩) (meth := k3m0) (c := k3c0) (by decide +kernel) rfl rfl rfl (by decide +kernel)
set_option maxRecDepth 65536 in
theorem w_c3 : (Jvm.Cond.code ({ cls := "java/lang/Object", name := "<init>", desc := "()V" } : Jvm.MethodName) object_method_1_code (1 : Nat) (Option.none : Option Jvm.ClassFile.FieldType)).before args0 about1 = true := code_word (m := ⟨0, 0⟩) (meth := k0m0) (c := k0c0) (by decide +kernel) rfl rfl rfl (by decide +kernel)
set_option maxRecDepth 65536 in
theorem w_c4 : (Jvm.Cond.code ({ cls := "java/time/Duration", name := "ofSeconds", desc := "(J)Ljava/time/Duration;" } : Jvm.MethodName) jdk_2316_method_4_code (2 : Nat) (Option.some (Jvm.ClassFile.FieldType.object "java/time/Duration"))).before args0 about1 = true := code_word (m := ⟨10, 0⟩) (meth := k10m0) (c := k10c0) (by decide +kernel) rfl rfl rfl (by decide +kernel)
set_option maxRecDepth 65536 in
theorem w_c5 : (Jvm.Cond.code ({ cls := "java/time/Duration", name := "create", desc := "(JI)Ljava/time/Duration;" } : Jvm.MethodName) jdk_2316_method_16_code (3 : Nat) (Option.some (Jvm.ClassFile.FieldType.object "java/time/Duration"))).before args0 about1 = true := code_word (m := ⟨10, 2⟩) (meth := k10m2) (c := k10c2) (by decide +kernel) rfl rfl rfl (by decide +kernel)
set_option maxRecDepth 65536 in
theorem w_c6 : (Jvm.Cond.code ({ cls := "java/time/Duration", name := "<init>", desc := "(JI)V" } : Jvm.MethodName) jdk_2316_method_17_code (4 : Nat) (Option.none : Option Jvm.ClassFile.FieldType)).before args0 about1 = true := code_word (m := ⟨10, 3⟩) (meth := k10m3) (c := k10c3) (by decide +kernel) rfl rfl rfl (by decide +kernel)
set_option maxRecDepth 65536 in
theorem w_c7 : (Jvm.Cond.code ({ cls := "java/time/Duration", name := "ofMillis", desc := "(J)Ljava/time/Duration;" } : Jvm.MethodName) jdk_2316_method_6_code (5 : Nat) (Option.some (Jvm.ClassFile.FieldType.object "java/time/Duration"))).before args0 about1 = true := code_word (m := ⟨10, 1⟩) (meth := k10m1) (c := k10c1) (by decide +kernel) rfl rfl rfl (by decide +kernel)
set_option maxRecDepth 65536 in
theorem w_c8 : (Jvm.Cond.code ({ cls := "java/util/List", name := "of", desc := "()Ljava/util/List;" } : Jvm.MethodName) jdk_40_method_36_code (0 : Nat) (Option.some (Jvm.ClassFile.FieldType.object "java/util/List"))).before args0 about1 = true := code_word (m := ⟨14, 0⟩) (meth := k14m0) (c := k14c0) (by decide +kernel) rfl rfl rfl (by decide +kernel)
set_option maxRecDepth 65536 in
theorem w_c9 : (Jvm.Cond.code ({ cls := "com/example/keelreach/keelreach/RedisOptions", name := "getMaxPoolSize", desc := "()I" } : Jvm.MethodName) prog_6_method_6_code (1 : Nat) (Option.some Jvm.ClassFile.FieldType.int)).before args0 about1 = true := code_word (m := ⟨3, 1⟩) (meth := k3m1) (c := k3c1) (by decide +kernel) rfl rfl rfl (by decide +kernel)
set_option maxRecDepth 65536 in
theorem w_c10 : (Jvm.Cond.code ({ cls := "com/example/keelreach/keelreach/RedisOptions", name := "setMaxPoolSize", desc := "(I)Lcom/example/keelreach/keelreach/RedisOptions;" } : Jvm.MethodName) prog_6_method_7_code (2 : Nat) (Option.some (Jvm.ClassFile.FieldType.object "com/example/keelreach/keelreach/RedisOptions"))).before args0 about1 = true := code_word (m := ⟨3, 2⟩) (meth := k3m2) (c := k3c2) (by decide +kernel) rfl rfl rfl (by decide +kernel)
set_option maxRecDepth 65536 in
theorem w_c11 : (Jvm.Cond.code ({ cls := "com/example/keelreach/keelreach/RedisOptions", name := "getMaxPoolWaiting", desc := "()I" } : Jvm.MethodName) prog_6_method_8_code (1 : Nat) (Option.some Jvm.ClassFile.FieldType.int)).before args0 about1 = true := code_word (m := ⟨3, 3⟩) (meth := k3m3) (c := k3c3) (by decide +kernel) rfl rfl rfl (by decide +kernel)
set_option maxRecDepth 65536 in
theorem w_c12 : (Jvm.Cond.code ({ cls := "com/example/keelreach/keelreach/RedisOptions", name := "getMaxCommandsInFlight", desc := "()I" } : Jvm.MethodName) prog_6_method_18_code (1 : Nat) (Option.some Jvm.ClassFile.FieldType.int)).before args0 about1 = true := code_word (m := ⟨3, 4⟩) (meth := k3m4) (c := k3c4) (by decide +kernel) rfl rfl rfl (by decide +kernel)
set_option maxRecDepth 65536 in
theorem w_c13 : (Jvm.Cond.code ({ cls := "com/example/keelreach/keelreach/RedisOptions", name := "getAutoPipeliningThreshold", desc := "()I" } : Jvm.MethodName) prog_6_method_24_code (1 : Nat) (Option.some Jvm.ClassFile.FieldType.int)).before args0 about1 = true := code_word (m := ⟨3, 5⟩) (meth := k3m5) (c := k3c5) (by decide +kernel) rfl rfl rfl (by decide +kernel)
def codes1 : List Jvm.Cond := [Jvm.Cond.code x code maxLocals ret, Jvm.Cond.code ({ cls := "java/lang/Math", name := "max", desc := "(II)I" } : Jvm.MethodName) jdk_29_method_65_code (2 : Nat) (Option.some Jvm.ClassFile.FieldType.int), Jvm.Cond.code ({ cls := "com/example/keelreach/keelreach/RedisOptions", name := "<init>", desc := "()V" } : Jvm.MethodName) prog_6_method_1_code (1 : Nat) (Option.none : Option Jvm.ClassFile.FieldType), Jvm.Cond.code ({ cls := "java/lang/Object", name := "<init>", desc := "()V" } : Jvm.MethodName) object_method_1_code (1 : Nat) (Option.none : Option Jvm.ClassFile.FieldType), Jvm.Cond.code ({ cls := "java/time/Duration", name := "ofSeconds", desc := "(J)Ljava/time/Duration;" } : Jvm.MethodName) jdk_2316_method_4_code (2 : Nat) (Option.some (Jvm.ClassFile.FieldType.object "java/time/Duration")), Jvm.Cond.code ({ cls := "java/time/Duration", name := "create", desc := "(JI)Ljava/time/Duration;" } : Jvm.MethodName) jdk_2316_method_16_code (3 : Nat) (Option.some (Jvm.ClassFile.FieldType.object "java/time/Duration")), Jvm.Cond.code ({ cls := "java/time/Duration", name := "<init>", desc := "(JI)V" } : Jvm.MethodName) jdk_2316_method_17_code (4 : Nat) (Option.none : Option Jvm.ClassFile.FieldType), Jvm.Cond.code ({ cls := "java/time/Duration", name := "ofMillis", desc := "(J)Ljava/time/Duration;" } : Jvm.MethodName) jdk_2316_method_6_code (5 : Nat) (Option.some (Jvm.ClassFile.FieldType.object "java/time/Duration")), Jvm.Cond.code ({ cls := "java/util/List", name := "of", desc := "()Ljava/util/List;" } : Jvm.MethodName) jdk_40_method_36_code (0 : Nat) (Option.some (Jvm.ClassFile.FieldType.object "java/util/List")), Jvm.Cond.code ({ cls := "com/example/keelreach/keelreach/RedisOptions", name := "getMaxPoolSize", desc := "()I" } : Jvm.MethodName) prog_6_method_6_code (1 : Nat) (Option.some Jvm.ClassFile.FieldType.int), Jvm.Cond.code ({ cls := "com/example/keelreach/keelreach/RedisOptions", name := "setMaxPoolSize", desc := "(I)Lcom/example/keelreach/keelreach/RedisOptions;" } : Jvm.MethodName) prog_6_method_7_code (2 : Nat) (Option.some (Jvm.ClassFile.FieldType.object "com/example/keelreach/keelreach/RedisOptions")), Jvm.Cond.code ({ cls := "com/example/keelreach/keelreach/RedisOptions", name := "getMaxPoolWaiting", desc := "()I" } : Jvm.MethodName) prog_6_method_8_code (1 : Nat) (Option.some Jvm.ClassFile.FieldType.int), Jvm.Cond.code ({ cls := "com/example/keelreach/keelreach/RedisOptions", name := "getMaxCommandsInFlight", desc := "()I" } : Jvm.MethodName) prog_6_method_18_code (1 : Nat) (Option.some Jvm.ClassFile.FieldType.int), Jvm.Cond.code ({ cls := "com/example/keelreach/keelreach/RedisOptions", name := "getAutoPipeliningThreshold", desc := "()I" } : Jvm.MethodName) prog_6_method_24_code (1 : Nat) (Option.some Jvm.ClassFile.FieldType.int)]
set_option maxRecDepth 65536 in
theorem codes_eq : words1.filter isCode = codes1 := rfl
theorem w_codes : ∀ c ∈ words1.filter isCode, c.before args0 about1 = true := by
  rw [codes_eq]
  intro c hc
  simp only [codes1, List.mem_cons, List.not_mem_nil, or_false] at hc
  rcases hc with rfl | rfl | rfl | rfl | rfl | rfl | rfl | rfl | rfl | rfl | rfl | rfl | rfl | rfl
  · exact w_c0
  · exact w_c1
  · exact w_c2
  · exact w_c3
  · exact w_c4
  · exact w_c5
  · exact w_c6
  · exact w_c7
  · exact w_c8
  · exact w_c9
  · exact w_c10
  · exact w_c11
  · exact w_c12
  · exact w_c13
set_option maxRecDepth 65536 in
theorem w_t1 : (words1.take 24).all (fun c => isCode c || c.before args0 about1) = true := by decide +kernel
set_option maxRecDepth 65536 in
theorem w_t2 : ((words1.drop 24).take 24).all (fun c => isCode c || c.before args0 about1) = true := by decide +kernel
set_option maxRecDepth 65536 in
theorem w_t3 : (((words1.drop 24).drop 24).take 24).all (fun c => isCode c || c.before args0 about1) = true := by decide +kernel
set_option maxRecDepth 65536 in
theorem w_t4 : ((((words1.drop 24).drop 24).drop 24).take 24).all (fun c => isCode c || c.before args0 about1) = true := by decide +kernel
set_option maxRecDepth 65536 in
theorem w_t5 : ((((words1.drop 24).drop 24).drop 24).drop 24).all (fun c => isCode c || c.before args0 about1) = true := by decide +kernel
theorem w_tables : (allAtoms (Jvm.Cond.code x code maxLocals ret :: tables_1)).before args0 about1 = true := by
  rw [allAtoms_all]
  show words1.all (fun c => c.before args0 about1) = true
  refine all_split ?_ w_codes
  rw [← List.take_append_drop 24 words1, List.all_append, w_t1, ← List.take_append_drop 24 (words1.drop 24), List.all_append, w_t2, ← List.take_append_drop 24 ((words1.drop 24).drop 24), List.all_append, w_t3, ← List.take_append_drop 24 (((words1.drop 24).drop 24).drop 24), List.all_append, w_t4, w_t5]
  rfl
set_option maxRecDepth 65536 in
theorem w_rest : rest_1_c.before args0 about1 = true := by decide +kernel
set_option maxRecDepth 65536 in
theorem w_case : (Jvm.Cond.and given_1 narrow_1).before args0 about1 = true := by decide +kernel
theorem w_applies : (headSpec (Jvm.Cond.code x code maxLocals ret :: tables_1) room_1).applies x e0.platform about1 = true :=
  (Spec.applies_iff w_frames).mpr ⟨w_running, w_runnable, w_alone, w_named, w_hears, w_ripe, w_room, w_tables⟩
theorem atStart : AtStart classFile x code maxLocals ret World_1 tables_1 room_1 Calls_1 rest_1 Pre_1 launch0 p0 e0 about1 theMethod args0 below0 :=
  ⟨lists_1, trivial, launch0.admits_env _ _ _, launch0.least_env, fairChoices_fair.cas, fairChoices_fair.clock, w_frames, w_args, w_heap, w_applies, trivial, w_rest, w_case⟩
end start1
theorem witness_1 : WitnessClaimed_1 := ⟨start1.p0, start1.e0, start1.about1, start1.theMethod, start1.args0, start1.below0, start1.atStart⟩
end Jvm.Pilot.@@N@@
