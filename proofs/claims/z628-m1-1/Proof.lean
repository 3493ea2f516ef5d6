import JvmDerived
import JvmDerived.Pilot.@@N@@Statement
import JvmDerived.Pilot.@@N@@Code
set_option linter.unusedVariables false
set_option linter.unusedSimpArgs false
namespace Jvm.RoadKit
open Sem ClassFile Op Lib Jvm.Stand Jvm.Free Jvm.LawKit
section New
variable {p : Program} {l : Launch} {e : Env} {R : Room} {s : State} {m : MethodId} {args : Array Value} {below : List Frame} {meth : Method} {c : Code} {T : State} {locs : List Loc} {cells slots : Nat}
theorem retI (X : Stand p l e R s m args below meth c T locs cells slots) (hx : p.tables.exec = Jvm.exec) {pc : Nat} {Ls : Array Slot} {z : Int32} {rest : List Value} (hret : meth.sig.returnType = some .int) (hd : decode c.code pc = .ok (.ireturn, 1)) {fs : List Frame}
    (hl : ∀ (f : JFrame) (acts : List Action), f.method = m → f.locked = none → f.entered = [] → (doReturn e (T.setTop f) acts (some (.int z))).1 = T.setFrames fs) : Steps p.tables e below (T.setTop (mkF m pc Ls (.int z :: rest))) (T.setFrames fs) := by
  have hm' : T.vm.method? m = some meth := X.method'
  have hn : narrow .int (.int z) = .int z := rfl
  show Steps p.tables e below (T.setTop { method := m, pc := pc, locals := Ls, stack := _ :: rest, locked := none }) _
  jvm_step X.here [X.here.top, hx, hd, hm', hret, hn]
  first | (intro acts; rw [hl _ acts rfl rfl rfl]) | rw [hl _ _ rfl rfl rfl]
  exact Steps.refl _
theorem retA (X : Stand p l e R s m args below meth c T locs cells slots) (hx : p.tables.exec = Jvm.exec) {pc : Nat} {Ls : Array Slot} {w : Value} {t : FieldType} {rest : List Value} (hret : meth.sig.returnType = some t) (ht : t.isReference = true) (hw : w.isRef = true) (hn : narrow t w = w) (hd : decode c.code pc = .ok (.areturn, 1)) {fs : List Frame}
    (hl : ∀ (f : JFrame) (acts : List Action), f.method = m → f.locked = none → f.entered = [] → (doReturn e (T.setTop f) acts (some w)).1 = T.setFrames fs) : Steps p.tables e below (T.setTop (mkF m pc Ls (w :: rest))) (T.setFrames fs) :=
  retOut X hx hret hn (Or.inr (Or.inr (Or.inr (Or.inr ⟨rfl, ht, hw⟩)))) hd hl
end New
/-- all that was there is there still: a write to a cell above -/
theorem own_ext_wr {h0 h h' : Heap} {a : Addr} {sl : Nat} {v : Value} (E : Ext h0 h) (W : Wr h h' a sl v) (q : h0.size ≤ a) : Ext h0 h' := by
  refine ⟨Nat.le_trans E.1 (Keep.of_wr W).1, fun x c hc => (Keep.of_wr W).2.1 x c (E.2 x c hc) fun hm => ?_⟩
  cases List.mem_singleton.mp hm
  exact absurd (Array.getElem?_eq_some_iff.mp hc).1 (Nat.not_lt.mpr q)
theorem own_ext_keep {h0 h h' : Heap} {ws : List Addr} (E : Ext h0 h) (K : Keep h h' ws) (q : ∀ x ∈ ws, h0.size ≤ x) : Ext h0 h' :=
  ⟨Nat.le_trans E.1 K.1, fun x c hc => K.2.1 x c (E.2 x c hc) fun hm => absurd (Array.getElem?_eq_some_iff.mp hc).1 (Nat.not_lt.mpr (q x hm))⟩
theorem own_ext_trans {h0 h h' : Heap} (E : Ext h0 h) (E' : Ext h h') : Ext h0 h' := ⟨Nat.le_trans E.1 E'.1, fun x c hc => E'.2 x c (E.2 x c hc)⟩
theorem own_ext_refl (h : Heap) : Ext h h := ⟨Nat.le_refl _, fun _ _ q => q⟩
/-- a static that holds an object of this very class -/
theorem own_sta {Z : State} {a0 : Array Value} {C n d K : String} (wi : (Cond.initialized C).before a0 Z = true) (wl : (Cond.laysStatic C n d).before a0 Z = true) (hx : (Cond.exactly (.static C n d) K).value a0 Z none Z [] = some true) :
    ∃ w, (Term.static C n d).eval a0 Z none [] Z = some (.ref w) ∧ Sta Z Z.heap C n d (.ref w) ∧ Exa Z Z.heap w K := by
  obtain ⟨w, ev⟩ := exa_v hx
  exact ⟨w, ev, Sta.start ev (Or.inr ⟨wi, wl⟩), Exa.start ev hx⟩
/-- a field of an object that a term names, by an 'eq' of ints -/
theorem own_fld {Z : State} {a0 : Array Value} {t : Term} {w : Addr} {C n d : String} {k : Int32} (ev : t.eval a0 Z none [] Z = some (.ref w)) (h : (Cond.eq (.field t C n d) (.int k)).value a0 Z none Z [] = some true) : Fld Z Z.heap w C n d (.int k) :=
  Fld.start ((fld_at ev).symm.trans (eqv_i (F := .int k) rfl h))
end Jvm.RoadKit
namespace Jvm.Pilot.@@N@@
open Jvm Jvm.ClassFile Sem Op Lib Jvm.Free Jvm.Stand Jvm.LawKit Jvm.RoadKit Bundle Jvm.Pilot.@@N@@.Jvm.D
def own_takes (few most n : Int32) : Int32 := if n < few then (0 : Int32) else if most < n then (0 : Int32) else (1 : Int32)
theorem own_max (n : Int32) : ¬ (2147483647 : Int32) < n := by
  rw [Int32.lt_iff_toInt_lt]
  have := (rng32 n).2
  have : (2147483647 : Int32).toInt = 2147483647 := by decide
  omega
theorem own_ge {n : Int32} (h : ¬ n < (2 : Int32)) : own_takes 2 2147483647 n = 1 := by rw [own_takes, if_neg h, if_neg (own_max n)]
theorem own_lt {n m : Int32} (h : n < (2 : Int32)) : own_takes 2 m n = 0 := by rw [own_takes, if_pos h]
theorem own_eq {n m : Int32} (h : n = m) : own_takes m m n = 1 := by subst h; rw [own_takes, if_neg Int32.lt_irrefl, if_neg Int32.lt_irrefl]
theorem own_ne {n m : Int32} (h : ¬ n = m) : own_takes m m n = 0 := by
  rw [own_takes]
  split
  · rfl
  · split
    · rfl
    · rename_i h1 h2
      exact absurd (Int32.le_antisymm (Int32.not_lt.mp h2) (Int32.not_lt.mp h1)) h
theorem ef_1 (m : MethodId) (a : Addr) (n : Int32) : entryFrame m #[(.ref a), (.int n)] 2 = mkF m 0 #[.val (.ref a), .val (.int n)] [] := by first | (simp [entryFrame, mkF, argsToLocals, Value.category]; done) | rfl
def Q_1 (Z : State) (a : Addr) (n : Int32) (few : Int32) (most : Int32) (h0 : Heap) (n0 : Nat) (v : Option Value) (h : Heap) (L : List Loc) : Prop := v = some (.int (own_takes few most n)) ∧ Fr n0 L ∧ h = h0
theorem pn_0 : plainName "com/example/atropos/atropos/lang/BuiltInFunction" = true := by first | (simp [plainName, overriddenIn]; done) | decide +kernel
theorem d1_0 : decode prog_11_method_5_code 0 = .ok (.aload_n 0, 1) := by decide +kernel
theorem d1_1 : decode prog_11_method_5_code 1 = .ok (.getfield 51, 3) := by decide +kernel
theorem d1_4 : decode prog_11_method_5_code 4 = .ok (.iload_n 1, 1) := by decide +kernel
theorem d1_5 : decode prog_11_method_5_code 5 = .ok (.if_icmp .gt 15, 3) := by decide +kernel
theorem d1_20 : decode prog_11_method_5_code 20 = .ok (.iconst 0, 1) := by decide +kernel
theorem d1_21 : decode prog_11_method_5_code 21 = .ok (.ireturn, 1) := by decide +kernel
theorem d1_8 : decode prog_11_method_5_code 8 = .ok (.iload_n 1, 1) := by decide +kernel
theorem d1_9 : decode prog_11_method_5_code 9 = .ok (.aload_n 0, 1) := by decide +kernel
theorem d1_10 : decode prog_11_method_5_code 10 = .ok (.getfield 55, 3) := by decide +kernel
theorem d1_13 : decode prog_11_method_5_code 13 = .ok (.if_icmp .gt 7, 3) := by decide +kernel
theorem d1_16 : decode prog_11_method_5_code 16 = .ok (.iconst 1, 1) := by decide +kernel
theorem d1_17 : decode prog_11_method_5_code 17 = .ok (.goto 4, 3) := by decide +kernel
set_option maxRecDepth 65536 in
set_option maxHeartbeats 40000000 in
theorem rm_1 (l : Launch) (Z : State) (a0 : Array Value) (hw : ∀ d ∈ tables_1, d.before a0 Z = true) (ws : List Jvm.Cond) (a : Addr) (n : Int32) (few : Int32) (most : Int32) (h0 : Heap) (n0 : Nat) (Z0 : n0 ≤ h0.size) (Fw : Fld Z h0 a "com/example/atropos/atropos/lang/BuiltInFunction" "fewestArguments" "I" (.int few)) (Fm : Fld Z h0 a "com/example/atropos/atropos/lang/BuiltInFunction" "mostArguments" "I" (.int most)) :
    MetFree l (⟨"com/example/atropos/atropos/lang/BuiltInFunction", "takes", "(I)Z"⟩ : MethodName) (head1 (Jvm.Cond.code (⟨"com/example/atropos/atropos/lang/BuiltInFunction", "takes", "(I)Z"⟩ : MethodName) prog_11_method_5_code 2 (some .boolean) :: ws) ({ frames := 0, cells := 0, slots := 0, locals := 0 } : Room)) (fun a_ U_ => a_ = #[(.ref a), (.int n)] ∧ Z.Warmed39 U_.vm ∧ U_.heap = h0) (fun _ _ _ _ _ => True) (fun _ U_ o_ V_ => ∃ v_ L_, o_ = .returned v_ ∧ Q_1 Z a n few most h0 n0 v_ V_.heap L_ ∧ FrameEnd U_ o_ V_ L_ ({ frames := 0, cells := 0, slots := 0, locals := 0 } : Room).cells ({ frames := 0, cells := 0, slots := 0, locals := 0 } : Room).slots) := by
  refine MetFree.of_bodySF (plainFor_of_name pn_0) hisR ?_
  intro p e s m args below meth c s₁ Bd hml0 hP hK
  obtain ⟨rfl, hZ, hh⟩ := hP
  have hx := Bd.exec
  have hby := Bd.bytes
  have hml : c.maxLocals = 2 := hml0
  have hown : s.vm.findClass "com/example/atropos/atropos/lang/BuiltInFunction" = some m.cls := findClass_of_methodNamed Bd.named
  have hnm := (name_of_methodNamed Bd.named Bd.method).1
  have X0 : Stand p l e ({ frames := 0, cells := 0, slots := 0, locals := 0 } : Room) s m #[(.ref a), (.int n)] below meth c s₁ [] 0 0 := Stand.of_body Bd
  have e0 : s₁.heap = h0 := by rw [← hh, Bd.state]; rfl
  have N0 := Fr.nil n0
  have pre0 : ∀ t_, Steps p.tables e below (s₁.setTop (mkF m 0 #[.val (.ref a), .val (.int n)] [])) t_ → Steps p.tables e below (s₁.setTop (entryFrame m #[(.ref a), (.int n)] 2)) t_ := fun t_ k_ => castTop (ef_1 m a n) k_
  obtain ⟨T1, X1, e1, st1⟩ := getF X0 hx hZ hown (host := "") (Or.inl (hw _ (List.mem_of_getElem? (i := 8) rfl))) Via.refl e0 Fw (g := (mkF m 1 #[.val (.ref a), .val (.int n)] [(.ref a)])) rfl rfl (hb hby d1_1)
  have pre2 : ∀ t_, Steps p.tables e below (T1.setTop (mkF m 5 #[.val (.ref a), .val (.int n)] [(.int n), (.int few)])) t_ → Steps p.tables e below (s₁.setTop (entryFrame m #[(.ref a), (.int n)] 2)) t_ := fun t_ k_ => pre0 t_ (by
    show Steps p.tables e below (s₁.setTop (mkF m 0 #[.val (.ref a), .val (.int n)] [])) _
    refine XS.aloadN X0.here hx rfl (hb hby d1_0) rfl rfl ?_
    show Steps p.tables e below (s₁.setTop (mkF m 1 #[.val (.ref a), .val (.int n)] [(.ref a)])) _
    refine st1 _ ?_
    show Steps p.tables e below (T1.setTop (mkF m 4 #[.val (.ref a), .val (.int n)] [(.int few)])) _
    refine XS.iloadN X1.here hx rfl (hb hby d1_4) rfl ?_
    show Steps p.tables e below (T1.setTop (mkF m 5 #[.val (.ref a), .val (.int n)] [(.int n), (.int few)])) _
    exact k_)
  by_cases hc5_3 : n < few
  · have pre4 : ∀ t_, Steps p.tables e below (T1.setTop (mkF m 21 #[.val (.ref a), .val (.int n)] [(.int (0 : Int32))])) t_ → Steps p.tables e below (s₁.setTop (entryFrame m #[(.ref a), (.int n)] 2)) t_ := fun t_ k_ => pre2 t_ (by
      show Steps p.tables e below (T1.setTop (mkF m 5 #[.val (.ref a), .val (.int n)] [(.int n), (.int few)])) _
      refine XS.icmpYes X1.here hx rfl (pc0 := 5) (pc' := 20) rfl (hb hby d1_5) rfl (tlt hc5_3).2.2.1 (by decide) (by decide) ?_
      show Steps p.tables e below (T1.setTop (mkF m 20 #[.val (.ref a), .val (.int n)] [])) _
      refine XS.iconst X1.here hx rfl (hb hby d1_20) ?_
      show Steps p.tables e below (T1.setTop (mkF m 21 #[.val (.ref a), .val (.int n)] [(.int (0 : Int32))])) _
      exact k_)
    obtain ⟨fs, hr, hrun, hended, hW, hsame⟩ := X1.leave (v := some (.int (0 : Int32))) (fun h => by rw [Bd.returns] at h; cases h)
    refine ⟨_, _, pre4 _ ?_, hrun, hended, _, _, rfl, ?_, ⟨_, rfl⟩, hW, hsame.mono (by decide) (by decide)⟩
    · show Steps p.tables e below (T1.setTop (mkF m 21 #[.val (.ref a), .val (.int n)] [(.int (0 : Int32))])) _
      exact retN X1 hx (t := .boolean) Bd.returns (by simp) (hb hby d1_21) hr
    · show Q_1 Z a n few most h0 n0 _ T1.heap _
      rw [e1]
      exact ⟨by rw [own_takes, if_pos hc5_3], N0, rfl⟩
  · obtain ⟨T5, X5, e5, st5⟩ := getF X1 hx hZ hown (host := "") (Or.inl (hw _ (List.mem_of_getElem? (i := 14) rfl))) Via.refl e1 Fm (g := (mkF m 10 #[.val (.ref a), .val (.int n)] [(.ref a), (.int n)])) rfl rfl (hb hby d1_10)
    have pre6 : ∀ t_, Steps p.tables e below (T5.setTop (mkF m 13 #[.val (.ref a), .val (.int n)] [(.int most), (.int n)])) t_ → Steps p.tables e below (s₁.setTop (entryFrame m #[(.ref a), (.int n)] 2)) t_ := fun t_ k_ => pre2 t_ (by
      show Steps p.tables e below (T1.setTop (mkF m 5 #[.val (.ref a), .val (.int n)] [(.int n), (.int few)])) _
      refine XS.icmpNo X1.here hx rfl (hb hby d1_5) rfl (flt hc5_3).2.2.1 ?_
      show Steps p.tables e below (T1.setTop (mkF m 8 #[.val (.ref a), .val (.int n)] [])) _
      refine XS.iloadN X1.here hx rfl (hb hby d1_8) rfl ?_
      show Steps p.tables e below (T1.setTop (mkF m 9 #[.val (.ref a), .val (.int n)] [(.int n)])) _
      refine XS.aloadN X1.here hx rfl (hb hby d1_9) rfl rfl ?_
      show Steps p.tables e below (T1.setTop (mkF m 10 #[.val (.ref a), .val (.int n)] [(.ref a), (.int n)])) _
      refine st5 _ ?_
      show Steps p.tables e below (T5.setTop (mkF m 13 #[.val (.ref a), .val (.int n)] [(.int most), (.int n)])) _
      exact k_)
    by_cases hc13_7 : most < n
    · have pre8 : ∀ t_, Steps p.tables e below (T5.setTop (mkF m 21 #[.val (.ref a), .val (.int n)] [(.int (0 : Int32))])) t_ → Steps p.tables e below (s₁.setTop (entryFrame m #[(.ref a), (.int n)] 2)) t_ := fun t_ k_ => pre6 t_ (by
        show Steps p.tables e below (T5.setTop (mkF m 13 #[.val (.ref a), .val (.int n)] [(.int most), (.int n)])) _
        refine XS.icmpYes X5.here hx rfl (pc0 := 13) (pc' := 20) rfl (hb hby d1_13) rfl (tlt hc13_7).2.2.1 (by decide) (by decide) ?_
        show Steps p.tables e below (T5.setTop (mkF m 20 #[.val (.ref a), .val (.int n)] [])) _
        refine XS.iconst X5.here hx rfl (hb hby d1_20) ?_
        show Steps p.tables e below (T5.setTop (mkF m 21 #[.val (.ref a), .val (.int n)] [(.int (0 : Int32))])) _
        exact k_)
      obtain ⟨fs, hr, hrun, hended, hW, hsame⟩ := X5.leave (v := some (.int (0 : Int32))) (fun h => by rw [Bd.returns] at h; cases h)
      refine ⟨_, _, pre8 _ ?_, hrun, hended, _, _, rfl, ?_, ⟨_, rfl⟩, hW, hsame.mono (by decide) (by decide)⟩
      · show Steps p.tables e below (T5.setTop (mkF m 21 #[.val (.ref a), .val (.int n)] [(.int (0 : Int32))])) _
        exact retN X5 hx (t := .boolean) Bd.returns (by simp) (hb hby d1_21) hr
      · show Q_1 Z a n few most h0 n0 _ T5.heap _
        rw [e5]
        exact ⟨by rw [own_takes, if_neg hc5_3, if_pos hc13_7], N0, rfl⟩
    · have pre9 : ∀ t_, Steps p.tables e below (T5.setTop (mkF m 21 #[.val (.ref a), .val (.int n)] [(.int (1 : Int32))])) t_ → Steps p.tables e below (s₁.setTop (entryFrame m #[(.ref a), (.int n)] 2)) t_ := fun t_ k_ => pre6 t_ (by
        show Steps p.tables e below (T5.setTop (mkF m 13 #[.val (.ref a), .val (.int n)] [(.int most), (.int n)])) _
        refine XS.icmpNo X5.here hx rfl (hb hby d1_13) rfl (flt hc13_7).2.2.1 ?_
        show Steps p.tables e below (T5.setTop (mkF m 16 #[.val (.ref a), .val (.int n)] [])) _
        refine XS.iconst X5.here hx rfl (hb hby d1_16) ?_
        show Steps p.tables e below (T5.setTop (mkF m 17 #[.val (.ref a), .val (.int n)] [(.int (1 : Int32))])) _
        refine XS.goto X5.here hx rfl (pc0 := 17) (pc' := 21) rfl (hb hby d1_17) (by decide) (by decide) ?_
        show Steps p.tables e below (T5.setTop (mkF m 21 #[.val (.ref a), .val (.int n)] [(.int (1 : Int32))])) _
        exact k_)
      obtain ⟨fs, hr, hrun, hended, hW, hsame⟩ := X5.leave (v := some (.int (1 : Int32))) (fun h => by rw [Bd.returns] at h; cases h)
      refine ⟨_, _, pre9 _ ?_, hrun, hended, _, _, rfl, ?_, ⟨_, rfl⟩, hW, hsame.mono (by decide) (by decide)⟩
      · show Steps p.tables e below (T5.setTop (mkF m 21 #[.val (.ref a), .val (.int n)] [(.int (1 : Int32))])) _
        exact retN X5 hx (t := .boolean) Bd.returns (by simp) (hb hby d1_21) hr
      · show Q_1 Z a n few most h0 n0 _ T5.heap _
        rw [e5]
        exact ⟨by rw [own_takes, if_neg hc5_3, if_neg hc13_7], N0, rfl⟩
theorem ef_0 (m : MethodId) (k0 : Int32) (k1 : Int32) : entryFrame m #[(.int k0), (.int k1)] maxLocals = mkF m 0 #[.val (.int k0), .val (.int k1), .unset, .unset, .unset, .unset] [] := by first | (simp [entryFrame, mkF, argsToLocals, Value.category, maxLocals]; done) | rfl
def Q_0 (Z : State) (k0 : Int32) (k1 : Int32) (w_MIN : Addr) (w_MOD : Addr) (w_ROUND : Addr) (w_POW : Addr) (w_LOG : Addr) (w_CEIL : Addr) (w_MAX : Addr) (w_FLOOR : Addr) (h0 : Heap) (n0 : Nat) (v : Option Value) (h : Heap) (L : List Loc) : Prop := v = some (.int (1 : Int32)) ∧ Fr n0 L
theorem pn_1 : plainName "com/example/atropos/atropos/lang/BuiltInFunctionTakesPinLaw" = true := by first | (simp [plainName, overriddenIn]; done) | decide +kernel
theorem pd_0 : parseMethodDescriptor "(I)Z" = some ⟨[.int], some .boolean⟩ := by decide +kernel
set_option maxRecDepth 65536 in
set_option maxHeartbeats 40000000 in
theorem rm_0 (l : Launch) (Z : State) (a0 : Array Value) (hw : ∀ d ∈ tables_1, d.before a0 Z = true) (ws : List Jvm.Cond) (k0 : Int32) (k1 : Int32) (w_MIN : Addr) (w_MOD : Addr) (w_ROUND : Addr) (w_POW : Addr) (w_LOG : Addr) (w_CEIL : Addr) (w_MAX : Addr) (w_FLOOR : Addr) (h0 : Heap) (n0 : Nat) (Z0 : n0 ≤ h0.size) (S_MIN : Sta Z h0 "com/example/atropos/atropos/lang/BuiltInFunction" "MIN" "Lcom/example/atropos/atropos/lang/BuiltInFunction;" (.ref w_MIN)) (S_MOD : Sta Z h0 "com/example/atropos/atropos/lang/BuiltInFunction" "MOD" "Lcom/example/atropos/atropos/lang/BuiltInFunction;" (.ref w_MOD)) (S_ROUND : Sta Z h0 "com/example/atropos/atropos/lang/BuiltInFunction" "ROUND" "Lcom/example/atropos/atropos/lang/BuiltInFunction;" (.ref w_ROUND)) (S_POW : Sta Z h0 "com/example/atropos/atropos/lang/BuiltInFunction" "POW" "Lcom/example/atropos/atropos/lang/BuiltInFunction;" (.ref w_POW)) (S_LOG : Sta Z h0 "com/example/atropos/atropos/lang/BuiltInFunction" "LOG" "Lcom/example/atropos/atropos/lang/BuiltInFunction;" (.ref w_LOG)) (S_CEIL : Sta Z h0 "com/example/atropos/atropos/lang/BuiltInFunction" "CEIL" "Lcom/example/atropos/atropos/lang/BuiltInFunction;" (.ref w_CEIL)) (S_MAX : Sta Z h0 "com/example/atropos/atropos/lang/BuiltInFunction" "MAX" "Lcom/example/atropos/atropos/lang/BuiltInFunction;" (.ref w_MAX)) (S_FLOOR : Sta Z h0 "com/example/atropos/atropos/lang/BuiltInFunction" "FLOOR" "Lcom/example/atropos/atropos/lang/BuiltInFunction;" (.ref w_FLOOR)) (E_MIN : Exa Z h0 w_MIN "com/example/atropos/atropos/lang/BuiltInFunction") (E_MOD : Exa Z h0 w_MOD "com/example/atropos/atropos/lang/BuiltInFunction") (E_ROUND : Exa Z h0 w_ROUND "com/example/atropos/atropos/lang/BuiltInFunction") (E_POW : Exa Z h0 w_POW "com/example/atropos/atropos/lang/BuiltInFunction") (E_LOG : Exa Z h0 w_LOG "com/example/atropos/atropos/lang/BuiltInFunction") (E_CEIL : Exa Z h0 w_CEIL "com/example/atropos/atropos/lang/BuiltInFunction") (E_MAX : Exa Z h0 w_MAX "com/example/atropos/atropos/lang/BuiltInFunction") (E_FLOOR : Exa Z h0 w_FLOOR "com/example/atropos/atropos/lang/BuiltInFunction") (F_MIN_fewestArguments : Fld Z h0 w_MIN "com/example/atropos/atropos/lang/BuiltInFunction" "fewestArguments" "I" (.int (2 : Int32))) (F_MIN_mostArguments : Fld Z h0 w_MIN "com/example/atropos/atropos/lang/BuiltInFunction" "mostArguments" "I" (.int (2147483647 : Int32))) (F_MOD_fewestArguments : Fld Z h0 w_MOD "com/example/atropos/atropos/lang/BuiltInFunction" "fewestArguments" "I" (.int (2 : Int32))) (F_MOD_mostArguments : Fld Z h0 w_MOD "com/example/atropos/atropos/lang/BuiltInFunction" "mostArguments" "I" (.int (2 : Int32))) (F_ROUND_fewestArguments : Fld Z h0 w_ROUND "com/example/atropos/atropos/lang/BuiltInFunction" "fewestArguments" "I" (.int (1 : Int32))) (F_ROUND_mostArguments : Fld Z h0 w_ROUND "com/example/atropos/atropos/lang/BuiltInFunction" "mostArguments" "I" (.int (1 : Int32))) (F_POW_fewestArguments : Fld Z h0 w_POW "com/example/atropos/atropos/lang/BuiltInFunction" "fewestArguments" "I" (.int (2 : Int32))) (F_POW_mostArguments : Fld Z h0 w_POW "com/example/atropos/atropos/lang/BuiltInFunction" "mostArguments" "I" (.int (2 : Int32))) (F_LOG_fewestArguments : Fld Z h0 w_LOG "com/example/atropos/atropos/lang/BuiltInFunction" "fewestArguments" "I" (.int (2 : Int32))) (F_LOG_mostArguments : Fld Z h0 w_LOG "com/example/atropos/atropos/lang/BuiltInFunction" "mostArguments" "I" (.int (2 : Int32))) (F_CEIL_fewestArguments : Fld Z h0 w_CEIL "com/example/atropos/atropos/lang/BuiltInFunction" "fewestArguments" "I" (.int (1 : Int32))) (F_CEIL_mostArguments : Fld Z h0 w_CEIL "com/example/atropos/atropos/lang/BuiltInFunction" "mostArguments" "I" (.int (1 : Int32))) (F_MAX_fewestArguments : Fld Z h0 w_MAX "com/example/atropos/atropos/lang/BuiltInFunction" "fewestArguments" "I" (.int (2 : Int32))) (F_MAX_mostArguments : Fld Z h0 w_MAX "com/example/atropos/atropos/lang/BuiltInFunction" "mostArguments" "I" (.int (2147483647 : Int32))) (F_FLOOR_fewestArguments : Fld Z h0 w_FLOOR "com/example/atropos/atropos/lang/BuiltInFunction" "fewestArguments" "I" (.int (1 : Int32))) (F_FLOOR_mostArguments : Fld Z h0 w_FLOOR "com/example/atropos/atropos/lang/BuiltInFunction" "mostArguments" "I" (.int (1 : Int32))) :
    MetFree l x (head1 (Jvm.Cond.code x code maxLocals ret :: ws) room_1) (fun a_ U_ => a_ = #[(.int k0), (.int k1)] ∧ Z.Warmed39 U_.vm ∧ U_.heap = h0) (fun _ _ _ _ _ => True) (fun _ U_ o_ V_ => ∃ v_ L_, o_ = .returned v_ ∧ Q_0 Z k0 k1 w_MIN w_MOD w_ROUND w_POW w_LOG w_CEIL w_MAX w_FLOOR h0 n0 v_ V_.heap L_ ∧ FrameEnd U_ o_ V_ L_ room_1.cells room_1.slots) := by
  refine MetFree.of_bodySF (plainFor_of_name pn_1) hisR ?_
  intro p e s m args below meth c s₁ Bd hml0 hP hK
  obtain ⟨rfl, hZ, hh⟩ := hP
  have hx := Bd.exec
  have hby := Bd.bytes
  have hml : c.maxLocals = 6 := hml0
  have hown : s.vm.findClass "com/example/atropos/atropos/lang/BuiltInFunctionTakesPinLaw" = some m.cls := findClass_of_methodNamed Bd.named
  have hnm := (name_of_methodNamed Bd.named Bd.method).1
  have X0 : Stand p l e room_1 s m #[(.int k0), (.int k1)] below meth c s₁ [] 0 0 := Stand.of_body Bd
  have e0 : s₁.heap = h0 := by rw [← hh, Bd.state]; rfl
  have N0 := Fr.nil n0
  have pre0 : ∀ t_, Steps p.tables e below (s₁.setTop (mkF m 0 #[.val (.int k0), .val (.int k1), .unset, .unset, .unset, .unset] [])) t_ → Steps p.tables e below (s₁.setTop (entryFrame m #[(.int k0), (.int k1)] maxLocals)) t_ := fun t_ k_ => castTop (ef_0 m k0 k1) k_
  have pre10 : ∀ t_, Steps p.tables e below (s₁.setTop (mkF m 9 #[.val (.int k0), .val (.int k1), .val (.int (k0 &&& (7 : Int32))), .unset, .unset, .unset] [(.int (k0 &&& (8 : Int32)))])) t_ → Steps p.tables e below (s₁.setTop (entryFrame m #[(.int k0), (.int k1)] maxLocals)) t_ := fun t_ k_ => pre0 t_ (by
    show Steps p.tables e below (s₁.setTop (mkF m 0 #[.val (.int k0), .val (.int k1), .unset, .unset, .unset, .unset] [])) _
    refine XS.iloadN X0.here hx rfl (hb hby at_0) rfl ?_
    show Steps p.tables e below (s₁.setTop (mkF m 1 #[.val (.int k0), .val (.int k1), .unset, .unset, .unset, .unset] [(.int k0)])) _
    refine XS.bipush X0.here hx rfl (hb hby at_1) ?_
    show Steps p.tables e below (s₁.setTop (mkF m 3 #[.val (.int k0), .val (.int k1), .unset, .unset, .unset, .unset] [(.int (7 : Int32)), (.int k0)])) _
    refine XS.iand X0.here hx rfl (hb hby at_3) rfl ?_
    show Steps p.tables e below (s₁.setTop (mkF m 4 #[.val (.int k0), .val (.int k1), .unset, .unset, .unset, .unset] [(.int (k0 &&& (7 : Int32)))])) _
    refine XS.istoreN X0.here hx rfl (hb hby at_4) rfl (l' := #[.val (.int k0), .val (.int k1), .val (.int (k0 &&& (7 : Int32))), .unset, .unset, .unset]) rfl ?_
    show Steps p.tables e below (s₁.setTop (mkF m 5 #[.val (.int k0), .val (.int k1), .val (.int (k0 &&& (7 : Int32))), .unset, .unset, .unset] [])) _
    refine XS.iloadN X0.here hx rfl (hb hby at_5) rfl ?_
    show Steps p.tables e below (s₁.setTop (mkF m 6 #[.val (.int k0), .val (.int k1), .val (.int (k0 &&& (7 : Int32))), .unset, .unset, .unset] [(.int k0)])) _
    refine XS.bipush X0.here hx rfl (hb hby at_6) ?_
    show Steps p.tables e below (s₁.setTop (mkF m 8 #[.val (.int k0), .val (.int k1), .val (.int (k0 &&& (7 : Int32))), .unset, .unset, .unset] [(.int (8 : Int32)), (.int k0)])) _
    refine XS.iand X0.here hx rfl (hb hby at_8) rfl ?_
    show Steps p.tables e below (s₁.setTop (mkF m 9 #[.val (.int k0), .val (.int k1), .val (.int (k0 &&& (7 : Int32))), .unset, .unset, .unset] [(.int (k0 &&& (8 : Int32)))])) _
    exact k_)
  by_cases hc9_11 : (k0 &&& (8 : Int32)) = (0 : Int32)
  · have pre12 : ∀ t_, Steps p.tables e below (s₁.setTop (mkF m 24 #[.val (.int k0), .val (.int k1), .val (.int (k0 &&& (7 : Int32))), .val (.int ((k1 &&& (7 : Int32)) - (3 : Int32))), .unset, .unset] [(.int (k0 &&& (7 : Int32)))])) t_ → Steps p.tables e below (s₁.setTop (entryFrame m #[(.int k0), (.int k1)] maxLocals)) t_ := fun t_ k_ => pre10 t_ (by
      show Steps p.tables e below (s₁.setTop (mkF m 9 #[.val (.int k0), .val (.int k1), .val (.int (k0 &&& (7 : Int32))), .unset, .unset, .unset] [(.int (k0 &&& (8 : Int32)))])) _
      refine XS.ifYes X0.here hx rfl (pc0 := 9) (pc' := 16) rfl (hb hby at_9) rfl ((if0 _ _).trans (teq hc9_11).1) (by decide) (by decide) ?_
      show Steps p.tables e below (s₁.setTop (mkF m 16 #[.val (.int k0), .val (.int k1), .val (.int (k0 &&& (7 : Int32))), .unset, .unset, .unset] [])) _
      refine XS.iloadN X0.here hx rfl (hb hby at_16) rfl ?_
      show Steps p.tables e below (s₁.setTop (mkF m 17 #[.val (.int k0), .val (.int k1), .val (.int (k0 &&& (7 : Int32))), .unset, .unset, .unset] [(.int k1)])) _
      refine XS.bipush X0.here hx rfl (hb hby at_17) ?_
      show Steps p.tables e below (s₁.setTop (mkF m 19 #[.val (.int k0), .val (.int k1), .val (.int (k0 &&& (7 : Int32))), .unset, .unset, .unset] [(.int (7 : Int32)), (.int k1)])) _
      refine XS.iand X0.here hx rfl (hb hby at_19) rfl ?_
      show Steps p.tables e below (s₁.setTop (mkF m 20 #[.val (.int k0), .val (.int k1), .val (.int (k0 &&& (7 : Int32))), .unset, .unset, .unset] [(.int (k1 &&& (7 : Int32)))])) _
      refine XS.iconst X0.here hx rfl (hb hby at_20) ?_
      show Steps p.tables e below (s₁.setTop (mkF m 21 #[.val (.int k0), .val (.int k1), .val (.int (k0 &&& (7 : Int32))), .unset, .unset, .unset] [(.int (3 : Int32)), (.int (k1 &&& (7 : Int32)))])) _
      refine XS.isub X0.here hx rfl (hb hby at_21) rfl ?_
      show Steps p.tables e below (s₁.setTop (mkF m 22 #[.val (.int k0), .val (.int k1), .val (.int (k0 &&& (7 : Int32))), .unset, .unset, .unset] [(.int ((k1 &&& (7 : Int32)) - (3 : Int32)))])) _
      refine XS.istoreN X0.here hx rfl (hb hby at_22) rfl (l' := #[.val (.int k0), .val (.int k1), .val (.int (k0 &&& (7 : Int32))), .val (.int ((k1 &&& (7 : Int32)) - (3 : Int32))), .unset, .unset]) rfl ?_
      show Steps p.tables e below (s₁.setTop (mkF m 23 #[.val (.int k0), .val (.int k1), .val (.int (k0 &&& (7 : Int32))), .val (.int ((k1 &&& (7 : Int32)) - (3 : Int32))), .unset, .unset] [])) _
      refine XS.iloadN X0.here hx rfl (hb hby at_23) rfl ?_
      show Steps p.tables e below (s₁.setTop (mkF m 24 #[.val (.int k0), .val (.int k1), .val (.int (k0 &&& (7 : Int32))), .val (.int ((k1 &&& (7 : Int32)) - (3 : Int32))), .unset, .unset] [(.int (k0 &&& (7 : Int32)))])) _
      exact k_)
    by_cases hc24_13 : (k0 &&& (7 : Int32)) = (0 : Int32)
    · obtain ⟨T14, X14, e14, st14⟩ := getS2 X0 hx hZ hown (host := "") (Or.inl (hw _ (List.mem_of_getElem? (i := 0) rfl))) Via.refl e0 S_MIN (g := (mkF m 27 #[.val (.int k0), .val (.int k1), .val (.int (k0 &&& (7 : Int32))), .val (.int ((k1 &&& (7 : Int32)) - (3 : Int32))), .unset, .unset] [])) rfl (hb hby at_27)
      have pre15 : ∀ t_, Steps p.tables e below (T14.setTop (mkF m 34 #[.val (.int k0), .val (.int k1), .val (.int (k0 &&& (7 : Int32))), .val (.int ((k1 &&& (7 : Int32)) - (3 : Int32))), .val (.ref w_MIN), .unset] [(.int (2 : Int32)), (.int ((k1 &&& (7 : Int32)) - (3 : Int32)))])) t_ → Steps p.tables e below (s₁.setTop (entryFrame m #[(.int k0), (.int k1)] maxLocals)) t_ := fun t_ k_ => pre12 t_ (by
        show Steps p.tables e below (s₁.setTop (mkF m 24 #[.val (.int k0), .val (.int k1), .val (.int (k0 &&& (7 : Int32))), .val (.int ((k1 &&& (7 : Int32)) - (3 : Int32))), .unset, .unset] [(.int (k0 &&& (7 : Int32)))])) _
        refine XS.ifNo X0.here hx rfl (hb hby at_24) rfl ((if0 _ _).trans (teq hc24_13).2) ?_
        show Steps p.tables e below (s₁.setTop (mkF m 27 #[.val (.int k0), .val (.int k1), .val (.int (k0 &&& (7 : Int32))), .val (.int ((k1 &&& (7 : Int32)) - (3 : Int32))), .unset, .unset] [])) _
        refine st14 _ ?_
        show Steps p.tables e below (T14.setTop (mkF m 30 #[.val (.int k0), .val (.int k1), .val (.int (k0 &&& (7 : Int32))), .val (.int ((k1 &&& (7 : Int32)) - (3 : Int32))), .unset, .unset] [(.ref w_MIN)])) _
        refine XS.astore X14.here hx rfl (hb hby at_30) rfl rfl (l' := #[.val (.int k0), .val (.int k1), .val (.int (k0 &&& (7 : Int32))), .val (.int ((k1 &&& (7 : Int32)) - (3 : Int32))), .val (.ref w_MIN), .unset]) rfl ?_
        show Steps p.tables e below (T14.setTop (mkF m 32 #[.val (.int k0), .val (.int k1), .val (.int (k0 &&& (7 : Int32))), .val (.int ((k1 &&& (7 : Int32)) - (3 : Int32))), .val (.ref w_MIN), .unset] [])) _
        refine XS.iloadN X14.here hx rfl (hb hby at_32) rfl ?_
        show Steps p.tables e below (T14.setTop (mkF m 33 #[.val (.int k0), .val (.int k1), .val (.int (k0 &&& (7 : Int32))), .val (.int ((k1 &&& (7 : Int32)) - (3 : Int32))), .val (.ref w_MIN), .unset] [(.int ((k1 &&& (7 : Int32)) - (3 : Int32)))])) _
        refine XS.iconst X14.here hx rfl (hb hby at_33) ?_
        show Steps p.tables e below (T14.setTop (mkF m 34 #[.val (.int k0), .val (.int k1), .val (.int (k0 &&& (7 : Int32))), .val (.int ((k1 &&& (7 : Int32)) - (3 : Int32))), .val (.ref w_MIN), .unset] [(.int (2 : Int32)), (.int ((k1 &&& (7 : Int32)) - (3 : Int32)))])) _
        exact k_)
      by_cases hc34_16 : ((k1 &&& (7 : Int32)) - (3 : Int32)) < (2 : Int32)
      · obtain ⟨cq17, kq17, q17a, q17b, q17c⟩ := isOf hZ e14 E_MIN
        obtain ⟨v17, _, ⟨T17, L17, k17, n17⟩, -, X17, ⟨Lc17, hQ17, l17, y17, z17⟩, st17⟩ := X14.virtualBack hx (y := (⟨"com/example/atropos/atropos/lang/BuiltInFunction", "takes", "(I)Z"⟩ : MethodName)) (z := (⟨"com/example/atropos/atropos/lang/BuiltInFunction", "takes", "(I)Z"⟩ : MethodName)) hown (mvT hZ (hw _ (List.mem_of_getElem? (i := 3) rfl))) (mvT hZ (hw _ (List.mem_of_getElem? (i := 4) rfl))) (notFace_of_selects (args := #[]) (mvT hZ (hw _ (List.mem_of_getElem? (i := 6) rfl)))) (mvT hZ (hw _ (List.mem_of_getElem? (i := 6) rfl))) (mvT hZ (hw _ (List.mem_of_getElem? (i := 5) rfl))) (by decide) (backOf (W := 0) (rm_1 l Z a0 hw [] w_MIN ((k1 &&& (7 : Int32)) - (3 : Int32)) (2 : Int32) (2147483647 : Int32) h0 n0 Z0 F_MIN_fewestArguments F_MIN_mostArguments) hZ (hw _ (List.mem_of_getElem? (i := 7) rfl)) (hw _ (List.mem_of_getElem? (i := 1) rfl)) (by decide) (by decide)) q17a q17c (g := (mkF m 218 #[.val (.int k0), .val (.int k1), .val (.int (k0 &&& (7 : Int32))), .val (.int ((k1 &&& (7 : Int32)) - (3 : Int32))), .val (.ref w_MIN), .val (.int (0 : Int32))] [(.int ((k1 &&& (7 : Int32)) - (3 : Int32))), (.ref w_MIN)])) rfl (by rw [hml]; rfl) (Steps.refl _) (argsL := [(.int ((k1 &&& (7 : Int32)) - (3 : Int32)))]) (rest := []) (lenOf pd_0 rfl) rfl (by show 2 * 0 + _ ≤ _; exact Nat.le_of_eq rfl) (hb hby at_218) (fun _ _ => ⟨rfl, e14, (by decide : 0 + 0 ≤ _), (by decide : 0 + 0 ≤ _)⟩)
        dsimp only [Pt.U, Pt.locs, Pt.cells, Pt.slots] at X17 l17 y17 z17 st17 hQ17
        subst l17 y17 z17
        obtain ⟨hv17, N17q, e17⟩ := hQ17
        have N17 := Fr.app N0 N17q
        have hw17 : v17 = some (.int (0 : Int32)) := hv17.trans (congrArg (fun z => some (Value.int z)) (own_lt hc34_16))
        subst hw17
        have pre18 : ∀ t_, Steps p.tables e below (T17.setTop (mkF m 231 #[.val (.int k0), .val (.int k1), .val (.int (k0 &&& (7 : Int32))), .val (.int ((k1 &&& (7 : Int32)) - (3 : Int32))), .val (.ref w_MIN), .val (.int (0 : Int32))] [(.int (1 : Int32))])) t_ → Steps p.tables e below (s₁.setTop (entryFrame m #[(.int k0), (.int k1)] maxLocals)) t_ := fun t_ k_ => pre15 t_ (by
          show Steps p.tables e below (T14.setTop (mkF m 34 #[.val (.int k0), .val (.int k1), .val (.int (k0 &&& (7 : Int32))), .val (.int ((k1 &&& (7 : Int32)) - (3 : Int32))), .val (.ref w_MIN), .unset] [(.int (2 : Int32)), (.int ((k1 &&& (7 : Int32)) - (3 : Int32)))])) _
          refine XS.icmpYes X14.here hx rfl (pc0 := 34) (pc' := 41) rfl (hb hby at_34) rfl (tlt hc34_16).1 (by decide) (by decide) ?_
          show Steps p.tables e below (T14.setTop (mkF m 41 #[.val (.int k0), .val (.int k1), .val (.int (k0 &&& (7 : Int32))), .val (.int ((k1 &&& (7 : Int32)) - (3 : Int32))), .val (.ref w_MIN), .unset] [])) _
          refine XS.iconst X14.here hx rfl (hb hby at_41) ?_
          show Steps p.tables e below (T14.setTop (mkF m 42 #[.val (.int k0), .val (.int k1), .val (.int (k0 &&& (7 : Int32))), .val (.int ((k1 &&& (7 : Int32)) - (3 : Int32))), .val (.ref w_MIN), .unset] [(.int (0 : Int32))])) _
          refine XS.istore X14.here hx rfl (hb hby at_42) rfl (l' := #[.val (.int k0), .val (.int k1), .val (.int (k0 &&& (7 : Int32))), .val (.int ((k1 &&& (7 : Int32)) - (3 : Int32))), .val (.ref w_MIN), .val (.int (0 : Int32))]) rfl ?_
          show Steps p.tables e below (T14.setTop (mkF m 44 #[.val (.int k0), .val (.int k1), .val (.int (k0 &&& (7 : Int32))), .val (.int ((k1 &&& (7 : Int32)) - (3 : Int32))), .val (.ref w_MIN), .val (.int (0 : Int32))] [])) _
          refine XS.goto X14.here hx rfl (pc0 := 44) (pc' := 215) rfl (hb hby at_44) (by decide) (by decide) ?_
          show Steps p.tables e below (T14.setTop (mkF m 215 #[.val (.int k0), .val (.int k1), .val (.int (k0 &&& (7 : Int32))), .val (.int ((k1 &&& (7 : Int32)) - (3 : Int32))), .val (.ref w_MIN), .val (.int (0 : Int32))] [])) _
          refine XS.aload X14.here hx rfl (hb hby at_215) rfl rfl ?_
          show Steps p.tables e below (T14.setTop (mkF m 217 #[.val (.int k0), .val (.int k1), .val (.int (k0 &&& (7 : Int32))), .val (.int ((k1 &&& (7 : Int32)) - (3 : Int32))), .val (.ref w_MIN), .val (.int (0 : Int32))] [(.ref w_MIN)])) _
          refine XS.iloadN X14.here hx rfl (hb hby at_217) rfl ?_
          show Steps p.tables e below (T14.setTop (mkF m 218 #[.val (.int k0), .val (.int k1), .val (.int (k0 &&& (7 : Int32))), .val (.int ((k1 &&& (7 : Int32)) - (3 : Int32))), .val (.ref w_MIN), .val (.int (0 : Int32))] [(.int ((k1 &&& (7 : Int32)) - (3 : Int32))), (.ref w_MIN)])) _
          refine st17.trans ?_
          show Steps p.tables e below (T17.setTop (mkF m 221 #[.val (.int k0), .val (.int k1), .val (.int (k0 &&& (7 : Int32))), .val (.int ((k1 &&& (7 : Int32)) - (3 : Int32))), .val (.ref w_MIN), .val (.int (0 : Int32))] [(.int (0 : Int32))])) _
          refine XS.iload X17.here hx rfl (hb hby at_221) rfl ?_
          show Steps p.tables e below (T17.setTop (mkF m 223 #[.val (.int k0), .val (.int k1), .val (.int (k0 &&& (7 : Int32))), .val (.int ((k1 &&& (7 : Int32)) - (3 : Int32))), .val (.ref w_MIN), .val (.int (0 : Int32))] [(.int (0 : Int32)), (.int (0 : Int32))])) _
          refine XS.icmpNo X17.here hx rfl (hb hby at_223) rfl (teq (by decide : (0 : Int32) = (0 : Int32))).2 ?_
          show Steps p.tables e below (T17.setTop (mkF m 226 #[.val (.int k0), .val (.int k1), .val (.int (k0 &&& (7 : Int32))), .val (.int ((k1 &&& (7 : Int32)) - (3 : Int32))), .val (.ref w_MIN), .val (.int (0 : Int32))] [])) _
          refine XS.iconst X17.here hx rfl (hb hby at_226) ?_
          show Steps p.tables e below (T17.setTop (mkF m 227 #[.val (.int k0), .val (.int k1), .val (.int (k0 &&& (7 : Int32))), .val (.int ((k1 &&& (7 : Int32)) - (3 : Int32))), .val (.ref w_MIN), .val (.int (0 : Int32))] [(.int (1 : Int32))])) _
          refine XS.goto X17.here hx rfl (pc0 := 227) (pc' := 231) rfl (hb hby at_227) (by decide) (by decide) ?_
          show Steps p.tables e below (T17.setTop (mkF m 231 #[.val (.int k0), .val (.int k1), .val (.int (k0 &&& (7 : Int32))), .val (.int ((k1 &&& (7 : Int32)) - (3 : Int32))), .val (.ref w_MIN), .val (.int (0 : Int32))] [(.int (1 : Int32))])) _
          exact k_)
        obtain ⟨fs, hr, hrun, hended, hW, hsame⟩ := X17.leave (v := some (.int (1 : Int32))) (fun h => by rw [Bd.returns] at h; cases h)
        refine ⟨_, _, pre18 _ ?_, hrun, hended, _, _, rfl, ?_, ⟨_, rfl⟩, hW, hsame.mono (by decide) (by decide)⟩
        · show Steps p.tables e below (T17.setTop (mkF m 231 #[.val (.int k0), .val (.int k1), .val (.int (k0 &&& (7 : Int32))), .val (.int ((k1 &&& (7 : Int32)) - (3 : Int32))), .val (.ref w_MIN), .val (.int (0 : Int32))] [(.int (1 : Int32))])) _
          exact retN X17 hx (t := .boolean) Bd.returns (by simp) (hb hby at_231) hr
        · show Q_0 Z k0 k1 w_MIN w_MOD w_ROUND w_POW w_LOG w_CEIL w_MAX w_FLOOR h0 n0 _ T17.heap _
          rw [e17]
          exact ⟨rfl, N17⟩
      · obtain ⟨cq19, kq19, q19a, q19b, q19c⟩ := isOf hZ e14 E_MIN
        obtain ⟨v19, _, ⟨T19, L19, k19, n19⟩, -, X19, ⟨Lc19, hQ19, l19, y19, z19⟩, st19⟩ := X14.virtualBack hx (y := (⟨"com/example/atropos/atropos/lang/BuiltInFunction", "takes", "(I)Z"⟩ : MethodName)) (z := (⟨"com/example/atropos/atropos/lang/BuiltInFunction", "takes", "(I)Z"⟩ : MethodName)) hown (mvT hZ (hw _ (List.mem_of_getElem? (i := 3) rfl))) (mvT hZ (hw _ (List.mem_of_getElem? (i := 4) rfl))) (notFace_of_selects (args := #[]) (mvT hZ (hw _ (List.mem_of_getElem? (i := 6) rfl)))) (mvT hZ (hw _ (List.mem_of_getElem? (i := 6) rfl))) (mvT hZ (hw _ (List.mem_of_getElem? (i := 5) rfl))) (by decide) (backOf (W := 0) (rm_1 l Z a0 hw [] w_MIN ((k1 &&& (7 : Int32)) - (3 : Int32)) (2 : Int32) (2147483647 : Int32) h0 n0 Z0 F_MIN_fewestArguments F_MIN_mostArguments) hZ (hw _ (List.mem_of_getElem? (i := 7) rfl)) (hw _ (List.mem_of_getElem? (i := 1) rfl)) (by decide) (by decide)) q19a q19c (g := (mkF m 218 #[.val (.int k0), .val (.int k1), .val (.int (k0 &&& (7 : Int32))), .val (.int ((k1 &&& (7 : Int32)) - (3 : Int32))), .val (.ref w_MIN), .val (.int (1 : Int32))] [(.int ((k1 &&& (7 : Int32)) - (3 : Int32))), (.ref w_MIN)])) rfl (by rw [hml]; rfl) (Steps.refl _) (argsL := [(.int ((k1 &&& (7 : Int32)) - (3 : Int32)))]) (rest := []) (lenOf pd_0 rfl) rfl (by show 2 * 0 + _ ≤ _; exact Nat.le_of_eq rfl) (hb hby at_218) (fun _ _ => ⟨rfl, e14, (by decide : 0 + 0 ≤ _), (by decide : 0 + 0 ≤ _)⟩)
        dsimp only [Pt.U, Pt.locs, Pt.cells, Pt.slots] at X19 l19 y19 z19 st19 hQ19
        subst l19 y19 z19
        obtain ⟨hv19, N19q, e19⟩ := hQ19
        have N19 := Fr.app N0 N19q
        have hw19 : v19 = some (.int (1 : Int32)) := hv19.trans (congrArg (fun z => some (Value.int z)) (own_ge hc34_16))
        subst hw19
        have pre20 : ∀ t_, Steps p.tables e below (T19.setTop (mkF m 231 #[.val (.int k0), .val (.int k1), .val (.int (k0 &&& (7 : Int32))), .val (.int ((k1 &&& (7 : Int32)) - (3 : Int32))), .val (.ref w_MIN), .val (.int (1 : Int32))] [(.int (1 : Int32))])) t_ → Steps p.tables e below (s₁.setTop (entryFrame m #[(.int k0), (.int k1)] maxLocals)) t_ := fun t_ k_ => pre15 t_ (by
          show Steps p.tables e below (T14.setTop (mkF m 34 #[.val (.int k0), .val (.int k1), .val (.int (k0 &&& (7 : Int32))), .val (.int ((k1 &&& (7 : Int32)) - (3 : Int32))), .val (.ref w_MIN), .unset] [(.int (2 : Int32)), (.int ((k1 &&& (7 : Int32)) - (3 : Int32)))])) _
          refine XS.icmpNo X14.here hx rfl (hb hby at_34) rfl (flt hc34_16).1 ?_
          show Steps p.tables e below (T14.setTop (mkF m 37 #[.val (.int k0), .val (.int k1), .val (.int (k0 &&& (7 : Int32))), .val (.int ((k1 &&& (7 : Int32)) - (3 : Int32))), .val (.ref w_MIN), .unset] [])) _
          refine XS.iconst X14.here hx rfl (hb hby at_37) ?_
          show Steps p.tables e below (T14.setTop (mkF m 38 #[.val (.int k0), .val (.int k1), .val (.int (k0 &&& (7 : Int32))), .val (.int ((k1 &&& (7 : Int32)) - (3 : Int32))), .val (.ref w_MIN), .unset] [(.int (1 : Int32))])) _
          refine XS.goto X14.here hx rfl (pc0 := 38) (pc' := 42) rfl (hb hby at_38) (by decide) (by decide) ?_
          show Steps p.tables e below (T14.setTop (mkF m 42 #[.val (.int k0), .val (.int k1), .val (.int (k0 &&& (7 : Int32))), .val (.int ((k1 &&& (7 : Int32)) - (3 : Int32))), .val (.ref w_MIN), .unset] [(.int (1 : Int32))])) _
          refine XS.istore X14.here hx rfl (hb hby at_42) rfl (l' := #[.val (.int k0), .val (.int k1), .val (.int (k0 &&& (7 : Int32))), .val (.int ((k1 &&& (7 : Int32)) - (3 : Int32))), .val (.ref w_MIN), .val (.int (1 : Int32))]) rfl ?_
          show Steps p.tables e below (T14.setTop (mkF m 44 #[.val (.int k0), .val (.int k1), .val (.int (k0 &&& (7 : Int32))), .val (.int ((k1 &&& (7 : Int32)) - (3 : Int32))), .val (.ref w_MIN), .val (.int (1 : Int32))] [])) _
          refine XS.goto X14.here hx rfl (pc0 := 44) (pc' := 215) rfl (hb hby at_44) (by decide) (by decide) ?_
          show Steps p.tables e below (T14.setTop (mkF m 215 #[.val (.int k0), .val (.int k1), .val (.int (k0 &&& (7 : Int32))), .val (.int ((k1 &&& (7 : Int32)) - (3 : Int32))), .val (.ref w_MIN), .val (.int (1 : Int32))] [])) _
          refine XS.aload X14.here hx rfl (hb hby at_215) rfl rfl ?_
          show Steps p.tables e below (T14.setTop (mkF m 217 #[.val (.int k0), .val (.int k1), .val (.int (k0 &&& (7 : Int32))), .val (.int ((k1 &&& (7 : Int32)) - (3 : Int32))), .val (.ref w_MIN), .val (.int (1 : Int32))] [(.ref w_MIN)])) _
          refine XS.iloadN X14.here hx rfl (hb hby at_217) rfl ?_
          show Steps p.tables e below (T14.setTop (mkF m 218 #[.val (.int k0), .val (.int k1), .val (.int (k0 &&& (7 : Int32))), .val (.int ((k1 &&& (7 : Int32)) - (3 : Int32))), .val (.ref w_MIN), .val (.int (1 : Int32))] [(.int ((k1 &&& (7 : Int32)) - (3 : Int32))), (.ref w_MIN)])) _
          refine st19.trans ?_
          show Steps p.tables e below (T19.setTop (mkF m 221 #[.val (.int k0), .val (.int k1), .val (.int (k0 &&& (7 : Int32))), .val (.int ((k1 &&& (7 : Int32)) - (3 : Int32))), .val (.ref w_MIN), .val (.int (1 : Int32))] [(.int (1 : Int32))])) _
          refine XS.iload X19.here hx rfl (hb hby at_221) rfl ?_
          show Steps p.tables e below (T19.setTop (mkF m 223 #[.val (.int k0), .val (.int k1), .val (.int (k0 &&& (7 : Int32))), .val (.int ((k1 &&& (7 : Int32)) - (3 : Int32))), .val (.ref w_MIN), .val (.int (1 : Int32))] [(.int (1 : Int32)), (.int (1 : Int32))])) _
          refine XS.icmpNo X19.here hx rfl (hb hby at_223) rfl (teq (by decide : (1 : Int32) = (1 : Int32))).2 ?_
          show Steps p.tables e below (T19.setTop (mkF m 226 #[.val (.int k0), .val (.int k1), .val (.int (k0 &&& (7 : Int32))), .val (.int ((k1 &&& (7 : Int32)) - (3 : Int32))), .val (.ref w_MIN), .val (.int (1 : Int32))] [])) _
          refine XS.iconst X19.here hx rfl (hb hby at_226) ?_
          show Steps p.tables e below (T19.setTop (mkF m 227 #[.val (.int k0), .val (.int k1), .val (.int (k0 &&& (7 : Int32))), .val (.int ((k1 &&& (7 : Int32)) - (3 : Int32))), .val (.ref w_MIN), .val (.int (1 : Int32))] [(.int (1 : Int32))])) _
          refine XS.goto X19.here hx rfl (pc0 := 227) (pc' := 231) rfl (hb hby at_227) (by decide) (by decide) ?_
          show Steps p.tables e below (T19.setTop (mkF m 231 #[.val (.int k0), .val (.int k1), .val (.int (k0 &&& (7 : Int32))), .val (.int ((k1 &&& (7 : Int32)) - (3 : Int32))), .val (.ref w_MIN), .val (.int (1 : Int32))] [(.int (1 : Int32))])) _
          exact k_)
        obtain ⟨fs, hr, hrun, hended, hW, hsame⟩ := X19.leave (v := some (.int (1 : Int32))) (fun h => by rw [Bd.returns] at h; cases h)
        refine ⟨_, _, pre20 _ ?_, hrun, hended, _, _, rfl, ?_, ⟨_, rfl⟩, hW, hsame.mono (by decide) (by decide)⟩
        · show Steps p.tables e below (T19.setTop (mkF m 231 #[.val (.int k0), .val (.int k1), .val (.int (k0 &&& (7 : Int32))), .val (.int ((k1 &&& (7 : Int32)) - (3 : Int32))), .val (.ref w_MIN), .val (.int (1 : Int32))] [(.int (1 : Int32))])) _
          exact retN X19 hx (t := .boolean) Bd.returns (by simp) (hb hby at_231) hr
        · show Q_0 Z k0 k1 w_MIN w_MOD w_ROUND w_POW w_LOG w_CEIL w_MAX w_FLOOR h0 n0 _ T19.heap _
          rw [e19]
          exact ⟨rfl, N19⟩
    · have pre21 : ∀ t_, Steps p.tables e below (s₁.setTop (mkF m 49 #[.val (.int k0), .val (.int k1), .val (.int (k0 &&& (7 : Int32))), .val (.int ((k1 &&& (7 : Int32)) - (3 : Int32))), .unset, .unset] [(.int (1 : Int32)), (.int (k0 &&& (7 : Int32)))])) t_ → Steps p.tables e below (s₁.setTop (entryFrame m #[(.int k0), (.int k1)] maxLocals)) t_ := fun t_ k_ => pre12 t_ (by
        show Steps p.tables e below (s₁.setTop (mkF m 24 #[.val (.int k0), .val (.int k1), .val (.int (k0 &&& (7 : Int32))), .val (.int ((k1 &&& (7 : Int32)) - (3 : Int32))), .unset, .unset] [(.int (k0 &&& (7 : Int32)))])) _
        refine XS.ifYes X0.here hx rfl (pc0 := 24) (pc' := 47) rfl (hb hby at_24) rfl ((if0 _ _).trans (feq hc24_13).2) (by decide) (by decide) ?_
        show Steps p.tables e below (s₁.setTop (mkF m 47 #[.val (.int k0), .val (.int k1), .val (.int (k0 &&& (7 : Int32))), .val (.int ((k1 &&& (7 : Int32)) - (3 : Int32))), .unset, .unset] [])) _
        refine XS.iloadN X0.here hx rfl (hb hby at_47) rfl ?_
        show Steps p.tables e below (s₁.setTop (mkF m 48 #[.val (.int k0), .val (.int k1), .val (.int (k0 &&& (7 : Int32))), .val (.int ((k1 &&& (7 : Int32)) - (3 : Int32))), .unset, .unset] [(.int (k0 &&& (7 : Int32)))])) _
        refine XS.iconst X0.here hx rfl (hb hby at_48) ?_
        show Steps p.tables e below (s₁.setTop (mkF m 49 #[.val (.int k0), .val (.int k1), .val (.int (k0 &&& (7 : Int32))), .val (.int ((k1 &&& (7 : Int32)) - (3 : Int32))), .unset, .unset] [(.int (1 : Int32)), (.int (k0 &&& (7 : Int32)))])) _
        exact k_)
      by_cases hc49_22 : (k0 &&& (7 : Int32)) = (1 : Int32)
      · obtain ⟨T23, X23, e23, st23⟩ := getS2 X0 hx hZ hown (host := "") (Or.inl (hw _ (List.mem_of_getElem? (i := 22) rfl))) Via.refl e0 S_MAX (g := (mkF m 52 #[.val (.int k0), .val (.int k1), .val (.int (k0 &&& (7 : Int32))), .val (.int ((k1 &&& (7 : Int32)) - (3 : Int32))), .unset, .unset] [])) rfl (hb hby at_52)
        have pre24 : ∀ t_, Steps p.tables e below (T23.setTop (mkF m 59 #[.val (.int k0), .val (.int k1), .val (.int (k0 &&& (7 : Int32))), .val (.int ((k1 &&& (7 : Int32)) - (3 : Int32))), .val (.ref w_MAX), .unset] [(.int (2 : Int32)), (.int ((k1 &&& (7 : Int32)) - (3 : Int32)))])) t_ → Steps p.tables e below (s₁.setTop (entryFrame m #[(.int k0), (.int k1)] maxLocals)) t_ := fun t_ k_ => pre21 t_ (by
          show Steps p.tables e below (s₁.setTop (mkF m 49 #[.val (.int k0), .val (.int k1), .val (.int (k0 &&& (7 : Int32))), .val (.int ((k1 &&& (7 : Int32)) - (3 : Int32))), .unset, .unset] [(.int (1 : Int32)), (.int (k0 &&& (7 : Int32)))])) _
          refine XS.icmpNo X0.here hx rfl (hb hby at_49) rfl (teq hc49_22).2 ?_
          show Steps p.tables e below (s₁.setTop (mkF m 52 #[.val (.int k0), .val (.int k1), .val (.int (k0 &&& (7 : Int32))), .val (.int ((k1 &&& (7 : Int32)) - (3 : Int32))), .unset, .unset] [])) _
          refine st23 _ ?_
          show Steps p.tables e below (T23.setTop (mkF m 55 #[.val (.int k0), .val (.int k1), .val (.int (k0 &&& (7 : Int32))), .val (.int ((k1 &&& (7 : Int32)) - (3 : Int32))), .unset, .unset] [(.ref w_MAX)])) _
          refine XS.astore X23.here hx rfl (hb hby at_55) rfl rfl (l' := #[.val (.int k0), .val (.int k1), .val (.int (k0 &&& (7 : Int32))), .val (.int ((k1 &&& (7 : Int32)) - (3 : Int32))), .val (.ref w_MAX), .unset]) rfl ?_
          show Steps p.tables e below (T23.setTop (mkF m 57 #[.val (.int k0), .val (.int k1), .val (.int (k0 &&& (7 : Int32))), .val (.int ((k1 &&& (7 : Int32)) - (3 : Int32))), .val (.ref w_MAX), .unset] [])) _
          refine XS.iloadN X23.here hx rfl (hb hby at_57) rfl ?_
          show Steps p.tables e below (T23.setTop (mkF m 58 #[.val (.int k0), .val (.int k1), .val (.int (k0 &&& (7 : Int32))), .val (.int ((k1 &&& (7 : Int32)) - (3 : Int32))), .val (.ref w_MAX), .unset] [(.int ((k1 &&& (7 : Int32)) - (3 : Int32)))])) _
          refine XS.iconst X23.here hx rfl (hb hby at_58) ?_
          show Steps p.tables e below (T23.setTop (mkF m 59 #[.val (.int k0), .val (.int k1), .val (.int (k0 &&& (7 : Int32))), .val (.int ((k1 &&& (7 : Int32)) - (3 : Int32))), .val (.ref w_MAX), .unset] [(.int (2 : Int32)), (.int ((k1 &&& (7 : Int32)) - (3 : Int32)))])) _
          exact k_)
        by_cases hc59_25 : ((k1 &&& (7 : Int32)) - (3 : Int32)) < (2 : Int32)
        · obtain ⟨cq26, kq26, q26a, q26b, q26c⟩ := isOf hZ e23 E_MAX
          obtain ⟨v26, _, ⟨T26, L26, k26, n26⟩, -, X26, ⟨Lc26, hQ26, l26, y26, z26⟩, st26⟩ := X23.virtualBack hx (y := (⟨"com/example/atropos/atropos/lang/BuiltInFunction", "takes", "(I)Z"⟩ : MethodName)) (z := (⟨"com/example/atropos/atropos/lang/BuiltInFunction", "takes", "(I)Z"⟩ : MethodName)) hown (mvT hZ (hw _ (List.mem_of_getElem? (i := 3) rfl))) (mvT hZ (hw _ (List.mem_of_getElem? (i := 4) rfl))) (notFace_of_selects (args := #[]) (mvT hZ (hw _ (List.mem_of_getElem? (i := 6) rfl)))) (mvT hZ (hw _ (List.mem_of_getElem? (i := 6) rfl))) (mvT hZ (hw _ (List.mem_of_getElem? (i := 5) rfl))) (by decide) (backOf (W := 0) (rm_1 l Z a0 hw [] w_MAX ((k1 &&& (7 : Int32)) - (3 : Int32)) (2 : Int32) (2147483647 : Int32) h0 n0 Z0 F_MAX_fewestArguments F_MAX_mostArguments) hZ (hw _ (List.mem_of_getElem? (i := 7) rfl)) (hw _ (List.mem_of_getElem? (i := 1) rfl)) (by decide) (by decide)) q26a q26c (g := (mkF m 218 #[.val (.int k0), .val (.int k1), .val (.int (k0 &&& (7 : Int32))), .val (.int ((k1 &&& (7 : Int32)) - (3 : Int32))), .val (.ref w_MAX), .val (.int (0 : Int32))] [(.int ((k1 &&& (7 : Int32)) - (3 : Int32))), (.ref w_MAX)])) rfl (by rw [hml]; rfl) (Steps.refl _) (argsL := [(.int ((k1 &&& (7 : Int32)) - (3 : Int32)))]) (rest := []) (lenOf pd_0 rfl) rfl (by show 2 * 0 + _ ≤ _; exact Nat.le_of_eq rfl) (hb hby at_218) (fun _ _ => ⟨rfl, e23, (by decide : 0 + 0 ≤ _), (by decide : 0 + 0 ≤ _)⟩)
          dsimp only [Pt.U, Pt.locs, Pt.cells, Pt.slots] at X26 l26 y26 z26 st26 hQ26
          subst l26 y26 z26
          obtain ⟨hv26, N26q, e26⟩ := hQ26
          have N26 := Fr.app N0 N26q
          have hw26 : v26 = some (.int (0 : Int32)) := hv26.trans (congrArg (fun z => some (Value.int z)) (own_lt hc59_25))
          subst hw26
          have pre27 : ∀ t_, Steps p.tables e below (T26.setTop (mkF m 231 #[.val (.int k0), .val (.int k1), .val (.int (k0 &&& (7 : Int32))), .val (.int ((k1 &&& (7 : Int32)) - (3 : Int32))), .val (.ref w_MAX), .val (.int (0 : Int32))] [(.int (1 : Int32))])) t_ → Steps p.tables e below (s₁.setTop (entryFrame m #[(.int k0), (.int k1)] maxLocals)) t_ := fun t_ k_ => pre24 t_ (by
            show Steps p.tables e below (T23.setTop (mkF m 59 #[.val (.int k0), .val (.int k1), .val (.int (k0 &&& (7 : Int32))), .val (.int ((k1 &&& (7 : Int32)) - (3 : Int32))), .val (.ref w_MAX), .unset] [(.int (2 : Int32)), (.int ((k1 &&& (7 : Int32)) - (3 : Int32)))])) _
            refine XS.icmpYes X23.here hx rfl (pc0 := 59) (pc' := 66) rfl (hb hby at_59) rfl (tlt hc59_25).1 (by decide) (by decide) ?_
            show Steps p.tables e below (T23.setTop (mkF m 66 #[.val (.int k0), .val (.int k1), .val (.int (k0 &&& (7 : Int32))), .val (.int ((k1 &&& (7 : Int32)) - (3 : Int32))), .val (.ref w_MAX), .unset] [])) _
            refine XS.iconst X23.here hx rfl (hb hby at_66) ?_
            show Steps p.tables e below (T23.setTop (mkF m 67 #[.val (.int k0), .val (.int k1), .val (.int (k0 &&& (7 : Int32))), .val (.int ((k1 &&& (7 : Int32)) - (3 : Int32))), .val (.ref w_MAX), .unset] [(.int (0 : Int32))])) _
            refine XS.istore X23.here hx rfl (hb hby at_67) rfl (l' := #[.val (.int k0), .val (.int k1), .val (.int (k0 &&& (7 : Int32))), .val (.int ((k1 &&& (7 : Int32)) - (3 : Int32))), .val (.ref w_MAX), .val (.int (0 : Int32))]) rfl ?_
            show Steps p.tables e below (T23.setTop (mkF m 69 #[.val (.int k0), .val (.int k1), .val (.int (k0 &&& (7 : Int32))), .val (.int ((k1 &&& (7 : Int32)) - (3 : Int32))), .val (.ref w_MAX), .val (.int (0 : Int32))] [])) _
            refine XS.goto X23.here hx rfl (pc0 := 69) (pc' := 215) rfl (hb hby at_69) (by decide) (by decide) ?_
            show Steps p.tables e below (T23.setTop (mkF m 215 #[.val (.int k0), .val (.int k1), .val (.int (k0 &&& (7 : Int32))), .val (.int ((k1 &&& (7 : Int32)) - (3 : Int32))), .val (.ref w_MAX), .val (.int (0 : Int32))] [])) _
            refine XS.aload X23.here hx rfl (hb hby at_215) rfl rfl ?_
            show Steps p.tables e below (T23.setTop (mkF m 217 #[.val (.int k0), .val (.int k1), .val (.int (k0 &&& (7 : Int32))), .val (.int ((k1 &&& (7 : Int32)) - (3 : Int32))), .val (.ref w_MAX), .val (.int (0 : Int32))] [(.ref w_MAX)])) _
            refine XS.iloadN X23.here hx rfl (hb hby at_217) rfl ?_
            show Steps p.tables e below (T23.setTop (mkF m 218 #[.val (.int k0), .val (.int k1), .val (.int (k0 &&& (7 : Int32))), .val (.int ((k1 &&& (7 : Int32)) - (3 : Int32))), .val (.ref w_MAX), .val (.int (0 : Int32))] [(.int ((k1 &&& (7 : Int32)) - (3 : Int32))), (.ref w_MAX)])) _
            refine st26.trans ?_
            show Steps p.tables e below (T26.setTop (mkF m 221 #[.val (.int k0), .val (.int k1), .val (.int (k0 &&& (7 : Int32))), .val (.int ((k1 &&& (7 : Int32)) - (3 : Int32))), .val (.ref w_MAX), .val (.int (0 : Int32))] [(.int (0 : Int32))])) _
            refine XS.iload X26.here hx rfl (hb hby at_221) rfl ?_
            show Steps p.tables e below (T26.setTop (mkF m 223 #[.val (.int k0), .val (.int k1), .val (.int (k0 &&& (7 : Int32))), .val (.int ((k1 &&& (7 : Int32)) - (3 : Int32))), .val (.ref w_MAX), .val (.int (0 : Int32))] [(.int (0 : Int32)), (.int (0 : Int32))])) _
            refine XS.icmpNo X26.here hx rfl (hb hby at_223) rfl (teq (by decide : (0 : Int32) = (0 : Int32))).2 ?_
            show Steps p.tables e below (T26.setTop (mkF m 226 #[.val (.int k0), .val (.int k1), .val (.int (k0 &&& (7 : Int32))), .val (.int ((k1 &&& (7 : Int32)) - (3 : Int32))), .val (.ref w_MAX), .val (.int (0 : Int32))] [])) _
            refine XS.iconst X26.here hx rfl (hb hby at_226) ?_
            show Steps p.tables e below (T26.setTop (mkF m 227 #[.val (.int k0), .val (.int k1), .val (.int (k0 &&& (7 : Int32))), .val (.int ((k1 &&& (7 : Int32)) - (3 : Int32))), .val (.ref w_MAX), .val (.int (0 : Int32))] [(.int (1 : Int32))])) _
            refine XS.goto X26.here hx rfl (pc0 := 227) (pc' := 231) rfl (hb hby at_227) (by decide) (by decide) ?_
            show Steps p.tables e below (T26.setTop (mkF m 231 #[.val (.int k0), .val (.int k1), .val (.int (k0 &&& (7 : Int32))), .val (.int ((k1 &&& (7 : Int32)) - (3 : Int32))), .val (.ref w_MAX), .val (.int (0 : Int32))] [(.int (1 : Int32))])) _
            exact k_)
          obtain ⟨fs, hr, hrun, hended, hW, hsame⟩ := X26.leave (v := some (.int (1 : Int32))) (fun h => by rw [Bd.returns] at h; cases h)
          refine ⟨_, _, pre27 _ ?_, hrun, hended, _, _, rfl, ?_, ⟨_, rfl⟩, hW, hsame.mono (by decide) (by decide)⟩
          · show Steps p.tables e below (T26.setTop (mkF m 231 #[.val (.int k0), .val (.int k1), .val (.int (k0 &&& (7 : Int32))), .val (.int ((k1 &&& (7 : Int32)) - (3 : Int32))), .val (.ref w_MAX), .val (.int (0 : Int32))] [(.int (1 : Int32))])) _
            exact retN X26 hx (t := .boolean) Bd.returns (by simp) (hb hby at_231) hr
          · show Q_0 Z k0 k1 w_MIN w_MOD w_ROUND w_POW w_LOG w_CEIL w_MAX w_FLOOR h0 n0 _ T26.heap _
            rw [e26]
            exact ⟨rfl, N26⟩
        · obtain ⟨cq28, kq28, q28a, q28b, q28c⟩ := isOf hZ e23 E_MAX
          obtain ⟨v28, _, ⟨T28, L28, k28, n28⟩, -, X28, ⟨Lc28, hQ28, l28, y28, z28⟩, st28⟩ := X23.virtualBack hx (y := (⟨"com/example/atropos/atropos/lang/BuiltInFunction", "takes", "(I)Z"⟩ : MethodName)) (z := (⟨"com/example/atropos/atropos/lang/BuiltInFunction", "takes", "(I)Z"⟩ : MethodName)) hown (mvT hZ (hw _ (List.mem_of_getElem? (i := 3) rfl))) (mvT hZ (hw _ (List.mem_of_getElem? (i := 4) rfl))) (notFace_of_selects (args := #[]) (mvT hZ (hw _ (List.mem_of_getElem? (i := 6) rfl)))) (mvT hZ (hw _ (List.mem_of_getElem? (i := 6) rfl))) (mvT hZ (hw _ (List.mem_of_getElem? (i := 5) rfl))) (by decide) (backOf (W := 0) (rm_1 l Z a0 hw [] w_MAX ((k1 &&& (7 : Int32)) - (3 : Int32)) (2 : Int32) (2147483647 : Int32) h0 n0 Z0 F_MAX_fewestArguments F_MAX_mostArguments) hZ (hw _ (List.mem_of_getElem? (i := 7) rfl)) (hw _ (List.mem_of_getElem? (i := 1) rfl)) (by decide) (by decide)) q28a q28c (g := (mkF m 218 #[.val (.int k0), .val (.int k1), .val (.int (k0 &&& (7 : Int32))), .val (.int ((k1 &&& (7 : Int32)) - (3 : Int32))), .val (.ref w_MAX), .val (.int (1 : Int32))] [(.int ((k1 &&& (7 : Int32)) - (3 : Int32))), (.ref w_MAX)])) rfl (by rw [hml]; rfl) (Steps.refl _) (argsL := [(.int ((k1 &&& (7 : Int32)) - (3 : Int32)))]) (rest := []) (lenOf pd_0 rfl) rfl (by show 2 * 0 + _ ≤ _; exact Nat.le_of_eq rfl) (hb hby at_218) (fun _ _ => ⟨rfl, e23, (by decide : 0 + 0 ≤ _), (by decide : 0 + 0 ≤ _)⟩)
          dsimp only [Pt.U, Pt.locs, Pt.cells, Pt.slots] at X28 l28 y28 z28 st28 hQ28
          subst l28 y28 z28
          obtain ⟨hv28, N28q, e28⟩ := hQ28
          have N28 := Fr.app N0 N28q
          have hw28 : v28 = some (.int (1 : Int32)) := hv28.trans (congrArg (fun z => some (Value.int z)) (own_ge hc59_25))
          subst hw28
          have pre29 : ∀ t_, Steps p.tables e below (T28.setTop (mkF m 231 #[.val (.int k0), .val (.int k1), .val (.int (k0 &&& (7 : Int32))), .val (.int ((k1 &&& (7 : Int32)) - (3 : Int32))), .val (.ref w_MAX), .val (.int (1 : Int32))] [(.int (1 : Int32))])) t_ → Steps p.tables e below (s₁.setTop (entryFrame m #[(.int k0), (.int k1)] maxLocals)) t_ := fun t_ k_ => pre24 t_ (by
            show Steps p.tables e below (T23.setTop (mkF m 59 #[.val (.int k0), .val (.int k1), .val (.int (k0 &&& (7 : Int32))), .val (.int ((k1 &&& (7 : Int32)) - (3 : Int32))), .val (.ref w_MAX), .unset] [(.int (2 : Int32)), (.int ((k1 &&& (7 : Int32)) - (3 : Int32)))])) _
            refine XS.icmpNo X23.here hx rfl (hb hby at_59) rfl (flt hc59_25).1 ?_
            show Steps p.tables e below (T23.setTop (mkF m 62 #[.val (.int k0), .val (.int k1), .val (.int (k0 &&& (7 : Int32))), .val (.int ((k1 &&& (7 : Int32)) - (3 : Int32))), .val (.ref w_MAX), .unset] [])) _
            refine XS.iconst X23.here hx rfl (hb hby at_62) ?_
            show Steps p.tables e below (T23.setTop (mkF m 63 #[.val (.int k0), .val (.int k1), .val (.int (k0 &&& (7 : Int32))), .val (.int ((k1 &&& (7 : Int32)) - (3 : Int32))), .val (.ref w_MAX), .unset] [(.int (1 : Int32))])) _
            refine XS.goto X23.here hx rfl (pc0 := 63) (pc' := 67) rfl (hb hby at_63) (by decide) (by decide) ?_
            show Steps p.tables e below (T23.setTop (mkF m 67 #[.val (.int k0), .val (.int k1), .val (.int (k0 &&& (7 : Int32))), .val (.int ((k1 &&& (7 : Int32)) - (3 : Int32))), .val (.ref w_MAX), .unset] [(.int (1 : Int32))])) _
            refine XS.istore X23.here hx rfl (hb hby at_67) rfl (l' := #[.val (.int k0), .val (.int k1), .val (.int (k0 &&& (7 : Int32))), .val (.int ((k1 &&& (7 : Int32)) - (3 : Int32))), .val (.ref w_MAX), .val (.int (1 : Int32))]) rfl ?_
            show Steps p.tables e below (T23.setTop (mkF m 69 #[.val (.int k0), .val (.int k1), .val (.int (k0 &&& (7 : Int32))), .val (.int ((k1 &&& (7 : Int32)) - (3 : Int32))), .val (.ref w_MAX), .val (.int (1 : Int32))] [])) _
            refine XS.goto X23.here hx rfl (pc0 := 69) (pc' := 215) rfl (hb hby at_69) (by decide) (by decide) ?_
            show Steps p.tables e below (T23.setTop (mkF m 215 #[.val (.int k0), .val (.int k1), .val (.int (k0 &&& (7 : Int32))), .val (.int ((k1 &&& (7 : Int32)) - (3 : Int32))), .val (.ref w_MAX), .val (.int (1 : Int32))] [])) _
            refine XS.aload X23.here hx rfl (hb hby at_215) rfl rfl ?_
            show Steps p.tables e below (T23.setTop (mkF m 217 #[.val (.int k0), .val (.int k1), .val (.int (k0 &&& (7 : Int32))), .val (.int ((k1 &&& (7 : Int32)) - (3 : Int32))), .val (.ref w_MAX), .val (.int (1 : Int32))] [(.ref w_MAX)])) _
            refine XS.iloadN X23.here hx rfl (hb hby at_217) rfl ?_
            show Steps p.tables e below (T23.setTop (mkF m 218 #[.val (.int k0), .val (.int k1), .val (.int (k0 &&& (7 : Int32))), .val (.int ((k1 &&& (7 : Int32)) - (3 : Int32))), .val (.ref w_MAX), .val (.int (1 : Int32))] [(.int ((k1 &&& (7 : Int32)) - (3 : Int32))), (.ref w_MAX)])) _
            refine st28.trans ?_
            show Steps p.tables e below (T28.setTop (mkF m 221 #[.val (.int k0), .val (.int k1), .val (.int (k0 &&& (7 : Int32))), .val (.int ((k1 &&& (7 : Int32)) - (3 : Int32))), .val (.ref w_MAX), .val (.int (1 : Int32))] [(.int (1 : Int32))])) _
            refine XS.iload X28.here hx rfl (hb hby at_221) rfl ?_
            show Steps p.tables e below (T28.setTop (mkF m 223 #[.val (.int k0), .val (.int k1), .val (.int (k0 &&& (7 : Int32))), .val (.int ((k1 &&& (7 : Int32)) - (3 : Int32))), .val (.ref w_MAX), .val (.int (1 : Int32))] [(.int (1 : Int32)), (.int (1 : Int32))])) _
            refine XS.icmpNo X28.here hx rfl (hb hby at_223) rfl (teq (by decide : (1 : Int32) = (1 : Int32))).2 ?_
            show Steps p.tables e below (T28.setTop (mkF m 226 #[.val (.int k0), .val (.int k1), .val (.int (k0 &&& (7 : Int32))), .val (.int ((k1 &&& (7 : Int32)) - (3 : Int32))), .val (.ref w_MAX), .val (.int (1 : Int32))] [])) _
            refine XS.iconst X28.here hx rfl (hb hby at_226) ?_
            show Steps p.tables e below (T28.setTop (mkF m 227 #[.val (.int k0), .val (.int k1), .val (.int (k0 &&& (7 : Int32))), .val (.int ((k1 &&& (7 : Int32)) - (3 : Int32))), .val (.ref w_MAX), .val (.int (1 : Int32))] [(.int (1 : Int32))])) _
            refine XS.goto X28.here hx rfl (pc0 := 227) (pc' := 231) rfl (hb hby at_227) (by decide) (by decide) ?_
            show Steps p.tables e below (T28.setTop (mkF m 231 #[.val (.int k0), .val (.int k1), .val (.int (k0 &&& (7 : Int32))), .val (.int ((k1 &&& (7 : Int32)) - (3 : Int32))), .val (.ref w_MAX), .val (.int (1 : Int32))] [(.int (1 : Int32))])) _
            exact k_)
          obtain ⟨fs, hr, hrun, hended, hW, hsame⟩ := X28.leave (v := some (.int (1 : Int32))) (fun h => by rw [Bd.returns] at h; cases h)
          refine ⟨_, _, pre29 _ ?_, hrun, hended, _, _, rfl, ?_, ⟨_, rfl⟩, hW, hsame.mono (by decide) (by decide)⟩
          · show Steps p.tables e below (T28.setTop (mkF m 231 #[.val (.int k0), .val (.int k1), .val (.int (k0 &&& (7 : Int32))), .val (.int ((k1 &&& (7 : Int32)) - (3 : Int32))), .val (.ref w_MAX), .val (.int (1 : Int32))] [(.int (1 : Int32))])) _
            exact retN X28 hx (t := .boolean) Bd.returns (by simp) (hb hby at_231) hr
          · show Q_0 Z k0 k1 w_MIN w_MOD w_ROUND w_POW w_LOG w_CEIL w_MAX w_FLOOR h0 n0 _ T28.heap _
            rw [e28]
            exact ⟨rfl, N28⟩
      · have pre30 : ∀ t_, Steps p.tables e below (s₁.setTop (mkF m 74 #[.val (.int k0), .val (.int k1), .val (.int (k0 &&& (7 : Int32))), .val (.int ((k1 &&& (7 : Int32)) - (3 : Int32))), .unset, .unset] [(.int (2 : Int32)), (.int (k0 &&& (7 : Int32)))])) t_ → Steps p.tables e below (s₁.setTop (entryFrame m #[(.int k0), (.int k1)] maxLocals)) t_ := fun t_ k_ => pre21 t_ (by
          show Steps p.tables e below (s₁.setTop (mkF m 49 #[.val (.int k0), .val (.int k1), .val (.int (k0 &&& (7 : Int32))), .val (.int ((k1 &&& (7 : Int32)) - (3 : Int32))), .unset, .unset] [(.int (1 : Int32)), (.int (k0 &&& (7 : Int32)))])) _
          refine XS.icmpYes X0.here hx rfl (pc0 := 49) (pc' := 72) rfl (hb hby at_49) rfl (feq hc49_22).2 (by decide) (by decide) ?_
          show Steps p.tables e below (s₁.setTop (mkF m 72 #[.val (.int k0), .val (.int k1), .val (.int (k0 &&& (7 : Int32))), .val (.int ((k1 &&& (7 : Int32)) - (3 : Int32))), .unset, .unset] [])) _
          refine XS.iloadN X0.here hx rfl (hb hby at_72) rfl ?_
          show Steps p.tables e below (s₁.setTop (mkF m 73 #[.val (.int k0), .val (.int k1), .val (.int (k0 &&& (7 : Int32))), .val (.int ((k1 &&& (7 : Int32)) - (3 : Int32))), .unset, .unset] [(.int (k0 &&& (7 : Int32)))])) _
          refine XS.iconst X0.here hx rfl (hb hby at_73) ?_
          show Steps p.tables e below (s₁.setTop (mkF m 74 #[.val (.int k0), .val (.int k1), .val (.int (k0 &&& (7 : Int32))), .val (.int ((k1 &&& (7 : Int32)) - (3 : Int32))), .unset, .unset] [(.int (2 : Int32)), (.int (k0 &&& (7 : Int32)))])) _
          exact k_)
        by_cases hc74_31 : (k0 &&& (7 : Int32)) = (2 : Int32)
        · obtain ⟨T32, X32, e32, st32⟩ := getS2 X0 hx hZ hown (host := "") (Or.inl (hw _ (List.mem_of_getElem? (i := 24) rfl))) Via.refl e0 S_FLOOR (g := (mkF m 77 #[.val (.int k0), .val (.int k1), .val (.int (k0 &&& (7 : Int32))), .val (.int ((k1 &&& (7 : Int32)) - (3 : Int32))), .unset, .unset] [])) rfl (hb hby at_77)
          have pre33 : ∀ t_, Steps p.tables e below (T32.setTop (mkF m 84 #[.val (.int k0), .val (.int k1), .val (.int (k0 &&& (7 : Int32))), .val (.int ((k1 &&& (7 : Int32)) - (3 : Int32))), .val (.ref w_FLOOR), .unset] [(.int (1 : Int32)), (.int ((k1 &&& (7 : Int32)) - (3 : Int32)))])) t_ → Steps p.tables e below (s₁.setTop (entryFrame m #[(.int k0), (.int k1)] maxLocals)) t_ := fun t_ k_ => pre30 t_ (by
            show Steps p.tables e below (s₁.setTop (mkF m 74 #[.val (.int k0), .val (.int k1), .val (.int (k0 &&& (7 : Int32))), .val (.int ((k1 &&& (7 : Int32)) - (3 : Int32))), .unset, .unset] [(.int (2 : Int32)), (.int (k0 &&& (7 : Int32)))])) _
            refine XS.icmpNo X0.here hx rfl (hb hby at_74) rfl (teq hc74_31).2 ?_
            show Steps p.tables e below (s₁.setTop (mkF m 77 #[.val (.int k0), .val (.int k1), .val (.int (k0 &&& (7 : Int32))), .val (.int ((k1 &&& (7 : Int32)) - (3 : Int32))), .unset, .unset] [])) _
            refine st32 _ ?_
            show Steps p.tables e below (T32.setTop (mkF m 80 #[.val (.int k0), .val (.int k1), .val (.int (k0 &&& (7 : Int32))), .val (.int ((k1 &&& (7 : Int32)) - (3 : Int32))), .unset, .unset] [(.ref w_FLOOR)])) _
            refine XS.astore X32.here hx rfl (hb hby at_80) rfl rfl (l' := #[.val (.int k0), .val (.int k1), .val (.int (k0 &&& (7 : Int32))), .val (.int ((k1 &&& (7 : Int32)) - (3 : Int32))), .val (.ref w_FLOOR), .unset]) rfl ?_
            show Steps p.tables e below (T32.setTop (mkF m 82 #[.val (.int k0), .val (.int k1), .val (.int (k0 &&& (7 : Int32))), .val (.int ((k1 &&& (7 : Int32)) - (3 : Int32))), .val (.ref w_FLOOR), .unset] [])) _
            refine XS.iloadN X32.here hx rfl (hb hby at_82) rfl ?_
            show Steps p.tables e below (T32.setTop (mkF m 83 #[.val (.int k0), .val (.int k1), .val (.int (k0 &&& (7 : Int32))), .val (.int ((k1 &&& (7 : Int32)) - (3 : Int32))), .val (.ref w_FLOOR), .unset] [(.int ((k1 &&& (7 : Int32)) - (3 : Int32)))])) _
            refine XS.iconst X32.here hx rfl (hb hby at_83) ?_
            show Steps p.tables e below (T32.setTop (mkF m 84 #[.val (.int k0), .val (.int k1), .val (.int (k0 &&& (7 : Int32))), .val (.int ((k1 &&& (7 : Int32)) - (3 : Int32))), .val (.ref w_FLOOR), .unset] [(.int (1 : Int32)), (.int ((k1 &&& (7 : Int32)) - (3 : Int32)))])) _
            exact k_)
          by_cases hc84_34 : ((k1 &&& (7 : Int32)) - (3 : Int32)) = (1 : Int32)
          · obtain ⟨cq35, kq35, q35a, q35b, q35c⟩ := isOf hZ e32 E_FLOOR
            obtain ⟨v35, _, ⟨T35, L35, k35, n35⟩, -, X35, ⟨Lc35, hQ35, l35, y35, z35⟩, st35⟩ := X32.virtualBack hx (y := (⟨"com/example/atropos/atropos/lang/BuiltInFunction", "takes", "(I)Z"⟩ : MethodName)) (z := (⟨"com/example/atropos/atropos/lang/BuiltInFunction", "takes", "(I)Z"⟩ : MethodName)) hown (mvT hZ (hw _ (List.mem_of_getElem? (i := 3) rfl))) (mvT hZ (hw _ (List.mem_of_getElem? (i := 4) rfl))) (notFace_of_selects (args := #[]) (mvT hZ (hw _ (List.mem_of_getElem? (i := 6) rfl)))) (mvT hZ (hw _ (List.mem_of_getElem? (i := 6) rfl))) (mvT hZ (hw _ (List.mem_of_getElem? (i := 5) rfl))) (by decide) (backOf (W := 0) (rm_1 l Z a0 hw [] w_FLOOR ((k1 &&& (7 : Int32)) - (3 : Int32)) (1 : Int32) (1 : Int32) h0 n0 Z0 F_FLOOR_fewestArguments F_FLOOR_mostArguments) hZ (hw _ (List.mem_of_getElem? (i := 7) rfl)) (hw _ (List.mem_of_getElem? (i := 1) rfl)) (by decide) (by decide)) q35a q35c (g := (mkF m 218 #[.val (.int k0), .val (.int k1), .val (.int (k0 &&& (7 : Int32))), .val (.int ((k1 &&& (7 : Int32)) - (3 : Int32))), .val (.ref w_FLOOR), .val (.int (1 : Int32))] [(.int ((k1 &&& (7 : Int32)) - (3 : Int32))), (.ref w_FLOOR)])) rfl (by rw [hml]; rfl) (Steps.refl _) (argsL := [(.int ((k1 &&& (7 : Int32)) - (3 : Int32)))]) (rest := []) (lenOf pd_0 rfl) rfl (by show 2 * 0 + _ ≤ _; exact Nat.le_of_eq rfl) (hb hby at_218) (fun _ _ => ⟨rfl, e32, (by decide : 0 + 0 ≤ _), (by decide : 0 + 0 ≤ _)⟩)
            dsimp only [Pt.U, Pt.locs, Pt.cells, Pt.slots] at X35 l35 y35 z35 st35 hQ35
            subst l35 y35 z35
            obtain ⟨hv35, N35q, e35⟩ := hQ35
            have N35 := Fr.app N0 N35q
            have hw35 : v35 = some (.int (1 : Int32)) := hv35.trans (congrArg (fun z => some (Value.int z)) (own_eq hc84_34))
            subst hw35
            have pre36 : ∀ t_, Steps p.tables e below (T35.setTop (mkF m 231 #[.val (.int k0), .val (.int k1), .val (.int (k0 &&& (7 : Int32))), .val (.int ((k1 &&& (7 : Int32)) - (3 : Int32))), .val (.ref w_FLOOR), .val (.int (1 : Int32))] [(.int (1 : Int32))])) t_ → Steps p.tables e below (s₁.setTop (entryFrame m #[(.int k0), (.int k1)] maxLocals)) t_ := fun t_ k_ => pre33 t_ (by
              show Steps p.tables e below (T32.setTop (mkF m 84 #[.val (.int k0), .val (.int k1), .val (.int (k0 &&& (7 : Int32))), .val (.int ((k1 &&& (7 : Int32)) - (3 : Int32))), .val (.ref w_FLOOR), .unset] [(.int (1 : Int32)), (.int ((k1 &&& (7 : Int32)) - (3 : Int32)))])) _
              refine XS.icmpNo X32.here hx rfl (hb hby at_84) rfl (teq hc84_34).2 ?_
              show Steps p.tables e below (T32.setTop (mkF m 87 #[.val (.int k0), .val (.int k1), .val (.int (k0 &&& (7 : Int32))), .val (.int ((k1 &&& (7 : Int32)) - (3 : Int32))), .val (.ref w_FLOOR), .unset] [])) _
              refine XS.iconst X32.here hx rfl (hb hby at_87) ?_
              show Steps p.tables e below (T32.setTop (mkF m 88 #[.val (.int k0), .val (.int k1), .val (.int (k0 &&& (7 : Int32))), .val (.int ((k1 &&& (7 : Int32)) - (3 : Int32))), .val (.ref w_FLOOR), .unset] [(.int (1 : Int32))])) _
              refine XS.goto X32.here hx rfl (pc0 := 88) (pc' := 92) rfl (hb hby at_88) (by decide) (by decide) ?_
              show Steps p.tables e below (T32.setTop (mkF m 92 #[.val (.int k0), .val (.int k1), .val (.int (k0 &&& (7 : Int32))), .val (.int ((k1 &&& (7 : Int32)) - (3 : Int32))), .val (.ref w_FLOOR), .unset] [(.int (1 : Int32))])) _
              refine XS.istore X32.here hx rfl (hb hby at_92) rfl (l' := #[.val (.int k0), .val (.int k1), .val (.int (k0 &&& (7 : Int32))), .val (.int ((k1 &&& (7 : Int32)) - (3 : Int32))), .val (.ref w_FLOOR), .val (.int (1 : Int32))]) rfl ?_
              show Steps p.tables e below (T32.setTop (mkF m 94 #[.val (.int k0), .val (.int k1), .val (.int (k0 &&& (7 : Int32))), .val (.int ((k1 &&& (7 : Int32)) - (3 : Int32))), .val (.ref w_FLOOR), .val (.int (1 : Int32))] [])) _
              refine XS.goto X32.here hx rfl (pc0 := 94) (pc' := 215) rfl (hb hby at_94) (by decide) (by decide) ?_
              show Steps p.tables e below (T32.setTop (mkF m 215 #[.val (.int k0), .val (.int k1), .val (.int (k0 &&& (7 : Int32))), .val (.int ((k1 &&& (7 : Int32)) - (3 : Int32))), .val (.ref w_FLOOR), .val (.int (1 : Int32))] [])) _
              refine XS.aload X32.here hx rfl (hb hby at_215) rfl rfl ?_
              show Steps p.tables e below (T32.setTop (mkF m 217 #[.val (.int k0), .val (.int k1), .val (.int (k0 &&& (7 : Int32))), .val (.int ((k1 &&& (7 : Int32)) - (3 : Int32))), .val (.ref w_FLOOR), .val (.int (1 : Int32))] [(.ref w_FLOOR)])) _
              refine XS.iloadN X32.here hx rfl (hb hby at_217) rfl ?_
              show Steps p.tables e below (T32.setTop (mkF m 218 #[.val (.int k0), .val (.int k1), .val (.int (k0 &&& (7 : Int32))), .val (.int ((k1 &&& (7 : Int32)) - (3 : Int32))), .val (.ref w_FLOOR), .val (.int (1 : Int32))] [(.int ((k1 &&& (7 : Int32)) - (3 : Int32))), (.ref w_FLOOR)])) _
              refine st35.trans ?_
              show Steps p.tables e below (T35.setTop (mkF m 221 #[.val (.int k0), .val (.int k1), .val (.int (k0 &&& (7 : Int32))), .val (.int ((k1 &&& (7 : Int32)) - (3 : Int32))), .val (.ref w_FLOOR), .val (.int (1 : Int32))] [(.int (1 : Int32))])) _
              refine XS.iload X35.here hx rfl (hb hby at_221) rfl ?_
              show Steps p.tables e below (T35.setTop (mkF m 223 #[.val (.int k0), .val (.int k1), .val (.int (k0 &&& (7 : Int32))), .val (.int ((k1 &&& (7 : Int32)) - (3 : Int32))), .val (.ref w_FLOOR), .val (.int (1 : Int32))] [(.int (1 : Int32)), (.int (1 : Int32))])) _
              refine XS.icmpNo X35.here hx rfl (hb hby at_223) rfl (teq (by decide : (1 : Int32) = (1 : Int32))).2 ?_
              show Steps p.tables e below (T35.setTop (mkF m 226 #[.val (.int k0), .val (.int k1), .val (.int (k0 &&& (7 : Int32))), .val (.int ((k1 &&& (7 : Int32)) - (3 : Int32))), .val (.ref w_FLOOR), .val (.int (1 : Int32))] [])) _
              refine XS.iconst X35.here hx rfl (hb hby at_226) ?_
              show Steps p.tables e below (T35.setTop (mkF m 227 #[.val (.int k0), .val (.int k1), .val (.int (k0 &&& (7 : Int32))), .val (.int ((k1 &&& (7 : Int32)) - (3 : Int32))), .val (.ref w_FLOOR), .val (.int (1 : Int32))] [(.int (1 : Int32))])) _
              refine XS.goto X35.here hx rfl (pc0 := 227) (pc' := 231) rfl (hb hby at_227) (by decide) (by decide) ?_
              show Steps p.tables e below (T35.setTop (mkF m 231 #[.val (.int k0), .val (.int k1), .val (.int (k0 &&& (7 : Int32))), .val (.int ((k1 &&& (7 : Int32)) - (3 : Int32))), .val (.ref w_FLOOR), .val (.int (1 : Int32))] [(.int (1 : Int32))])) _
              exact k_)
            obtain ⟨fs, hr, hrun, hended, hW, hsame⟩ := X35.leave (v := some (.int (1 : Int32))) (fun h => by rw [Bd.returns] at h; cases h)
            refine ⟨_, _, pre36 _ ?_, hrun, hended, _, _, rfl, ?_, ⟨_, rfl⟩, hW, hsame.mono (by decide) (by decide)⟩
            · show Steps p.tables e below (T35.setTop (mkF m 231 #[.val (.int k0), .val (.int k1), .val (.int (k0 &&& (7 : Int32))), .val (.int ((k1 &&& (7 : Int32)) - (3 : Int32))), .val (.ref w_FLOOR), .val (.int (1 : Int32))] [(.int (1 : Int32))])) _
              exact retN X35 hx (t := .boolean) Bd.returns (by simp) (hb hby at_231) hr
            · show Q_0 Z k0 k1 w_MIN w_MOD w_ROUND w_POW w_LOG w_CEIL w_MAX w_FLOOR h0 n0 _ T35.heap _
              rw [e35]
              exact ⟨rfl, N35⟩
          · obtain ⟨cq37, kq37, q37a, q37b, q37c⟩ := isOf hZ e32 E_FLOOR
            obtain ⟨v37, _, ⟨T37, L37, k37, n37⟩, -, X37, ⟨Lc37, hQ37, l37, y37, z37⟩, st37⟩ := X32.virtualBack hx (y := (⟨"com/example/atropos/atropos/lang/BuiltInFunction", "takes", "(I)Z"⟩ : MethodName)) (z := (⟨"com/example/atropos/atropos/lang/BuiltInFunction", "takes", "(I)Z"⟩ : MethodName)) hown (mvT hZ (hw _ (List.mem_of_getElem? (i := 3) rfl))) (mvT hZ (hw _ (List.mem_of_getElem? (i := 4) rfl))) (notFace_of_selects (args := #[]) (mvT hZ (hw _ (List.mem_of_getElem? (i := 6) rfl)))) (mvT hZ (hw _ (List.mem_of_getElem? (i := 6) rfl))) (mvT hZ (hw _ (List.mem_of_getElem? (i := 5) rfl))) (by decide) (backOf (W := 0) (rm_1 l Z a0 hw [] w_FLOOR ((k1 &&& (7 : Int32)) - (3 : Int32)) (1 : Int32) (1 : Int32) h0 n0 Z0 F_FLOOR_fewestArguments F_FLOOR_mostArguments) hZ (hw _ (List.mem_of_getElem? (i := 7) rfl)) (hw _ (List.mem_of_getElem? (i := 1) rfl)) (by decide) (by decide)) q37a q37c (g := (mkF m 218 #[.val (.int k0), .val (.int k1), .val (.int (k0 &&& (7 : Int32))), .val (.int ((k1 &&& (7 : Int32)) - (3 : Int32))), .val (.ref w_FLOOR), .val (.int (0 : Int32))] [(.int ((k1 &&& (7 : Int32)) - (3 : Int32))), (.ref w_FLOOR)])) rfl (by rw [hml]; rfl) (Steps.refl _) (argsL := [(.int ((k1 &&& (7 : Int32)) - (3 : Int32)))]) (rest := []) (lenOf pd_0 rfl) rfl (by show 2 * 0 + _ ≤ _; exact Nat.le_of_eq rfl) (hb hby at_218) (fun _ _ => ⟨rfl, e32, (by decide : 0 + 0 ≤ _), (by decide : 0 + 0 ≤ _)⟩)
            dsimp only [Pt.U, Pt.locs, Pt.cells, Pt.slots] at X37 l37 y37 z37 st37 hQ37
            subst l37 y37 z37
            obtain ⟨hv37, N37q, e37⟩ := hQ37
            have N37 := Fr.app N0 N37q
            have hw37 : v37 = some (.int (0 : Int32)) := hv37.trans (congrArg (fun z => some (Value.int z)) (own_ne hc84_34))
            subst hw37
            have pre38 : ∀ t_, Steps p.tables e below (T37.setTop (mkF m 231 #[.val (.int k0), .val (.int k1), .val (.int (k0 &&& (7 : Int32))), .val (.int ((k1 &&& (7 : Int32)) - (3 : Int32))), .val (.ref w_FLOOR), .val (.int (0 : Int32))] [(.int (1 : Int32))])) t_ → Steps p.tables e below (s₁.setTop (entryFrame m #[(.int k0), (.int k1)] maxLocals)) t_ := fun t_ k_ => pre33 t_ (by
              show Steps p.tables e below (T32.setTop (mkF m 84 #[.val (.int k0), .val (.int k1), .val (.int (k0 &&& (7 : Int32))), .val (.int ((k1 &&& (7 : Int32)) - (3 : Int32))), .val (.ref w_FLOOR), .unset] [(.int (1 : Int32)), (.int ((k1 &&& (7 : Int32)) - (3 : Int32)))])) _
              refine XS.icmpYes X32.here hx rfl (pc0 := 84) (pc' := 91) rfl (hb hby at_84) rfl (feq hc84_34).2 (by decide) (by decide) ?_
              show Steps p.tables e below (T32.setTop (mkF m 91 #[.val (.int k0), .val (.int k1), .val (.int (k0 &&& (7 : Int32))), .val (.int ((k1 &&& (7 : Int32)) - (3 : Int32))), .val (.ref w_FLOOR), .unset] [])) _
              refine XS.iconst X32.here hx rfl (hb hby at_91) ?_
              show Steps p.tables e below (T32.setTop (mkF m 92 #[.val (.int k0), .val (.int k1), .val (.int (k0 &&& (7 : Int32))), .val (.int ((k1 &&& (7 : Int32)) - (3 : Int32))), .val (.ref w_FLOOR), .unset] [(.int (0 : Int32))])) _
              refine XS.istore X32.here hx rfl (hb hby at_92) rfl (l' := #[.val (.int k0), .val (.int k1), .val (.int (k0 &&& (7 : Int32))), .val (.int ((k1 &&& (7 : Int32)) - (3 : Int32))), .val (.ref w_FLOOR), .val (.int (0 : Int32))]) rfl ?_
              show Steps p.tables e below (T32.setTop (mkF m 94 #[.val (.int k0), .val (.int k1), .val (.int (k0 &&& (7 : Int32))), .val (.int ((k1 &&& (7 : Int32)) - (3 : Int32))), .val (.ref w_FLOOR), .val (.int (0 : Int32))] [])) _
              refine XS.goto X32.here hx rfl (pc0 := 94) (pc' := 215) rfl (hb hby at_94) (by decide) (by decide) ?_
              show Steps p.tables e below (T32.setTop (mkF m 215 #[.val (.int k0), .val (.int k1), .val (.int (k0 &&& (7 : Int32))), .val (.int ((k1 &&& (7 : Int32)) - (3 : Int32))), .val (.ref w_FLOOR), .val (.int (0 : Int32))] [])) _
              refine XS.aload X32.here hx rfl (hb hby at_215) rfl rfl ?_
              show Steps p.tables e below (T32.setTop (mkF m 217 #[.val (.int k0), .val (.int k1), .val (.int (k0 &&& (7 : Int32))), .val (.int ((k1 &&& (7 : Int32)) - (3 : Int32))), .val (.ref w_FLOOR), .val (.int (0 : Int32))] [(.ref w_FLOOR)])) _
              refine XS.iloadN X32.here hx rfl (hb hby at_217) rfl ?_
              show Steps p.tables e below (T32.setTop (mkF m 218 #[.val (.int k0), .val (.int k1), .val (.int (k0 &&& (7 : Int32))), .val (.int ((k1 &&& (7 : Int32)) - (3 : Int32))), .val (.ref w_FLOOR), .val (.int (0 : Int32))] [(.int ((k1 &&& (7 : Int32)) - (3 : Int32))), (.ref w_FLOOR)])) _
              refine st37.trans ?_
              show Steps p.tables e below (T37.setTop (mkF m 221 #[.val (.int k0), .val (.int k1), .val (.int (k0 &&& (7 : Int32))), .val (.int ((k1 &&& (7 : Int32)) - (3 : Int32))), .val (.ref w_FLOOR), .val (.int (0 : Int32))] [(.int (0 : Int32))])) _
              refine XS.iload X37.here hx rfl (hb hby at_221) rfl ?_
              show Steps p.tables e below (T37.setTop (mkF m 223 #[.val (.int k0), .val (.int k1), .val (.int (k0 &&& (7 : Int32))), .val (.int ((k1 &&& (7 : Int32)) - (3 : Int32))), .val (.ref w_FLOOR), .val (.int (0 : Int32))] [(.int (0 : Int32)), (.int (0 : Int32))])) _
              refine XS.icmpNo X37.here hx rfl (hb hby at_223) rfl (teq (by decide : (0 : Int32) = (0 : Int32))).2 ?_
              show Steps p.tables e below (T37.setTop (mkF m 226 #[.val (.int k0), .val (.int k1), .val (.int (k0 &&& (7 : Int32))), .val (.int ((k1 &&& (7 : Int32)) - (3 : Int32))), .val (.ref w_FLOOR), .val (.int (0 : Int32))] [])) _
              refine XS.iconst X37.here hx rfl (hb hby at_226) ?_
              show Steps p.tables e below (T37.setTop (mkF m 227 #[.val (.int k0), .val (.int k1), .val (.int (k0 &&& (7 : Int32))), .val (.int ((k1 &&& (7 : Int32)) - (3 : Int32))), .val (.ref w_FLOOR), .val (.int (0 : Int32))] [(.int (1 : Int32))])) _
              refine XS.goto X37.here hx rfl (pc0 := 227) (pc' := 231) rfl (hb hby at_227) (by decide) (by decide) ?_
              show Steps p.tables e below (T37.setTop (mkF m 231 #[.val (.int k0), .val (.int k1), .val (.int (k0 &&& (7 : Int32))), .val (.int ((k1 &&& (7 : Int32)) - (3 : Int32))), .val (.ref w_FLOOR), .val (.int (0 : Int32))] [(.int (1 : Int32))])) _
              exact k_)
            obtain ⟨fs, hr, hrun, hended, hW, hsame⟩ := X37.leave (v := some (.int (1 : Int32))) (fun h => by rw [Bd.returns] at h; cases h)
            refine ⟨_, _, pre38 _ ?_, hrun, hended, _, _, rfl, ?_, ⟨_, rfl⟩, hW, hsame.mono (by decide) (by decide)⟩
            · show Steps p.tables e below (T37.setTop (mkF m 231 #[.val (.int k0), .val (.int k1), .val (.int (k0 &&& (7 : Int32))), .val (.int ((k1 &&& (7 : Int32)) - (3 : Int32))), .val (.ref w_FLOOR), .val (.int (0 : Int32))] [(.int (1 : Int32))])) _
              exact retN X37 hx (t := .boolean) Bd.returns (by simp) (hb hby at_231) hr
            · show Q_0 Z k0 k1 w_MIN w_MOD w_ROUND w_POW w_LOG w_CEIL w_MAX w_FLOOR h0 n0 _ T37.heap _
              rw [e37]
              exact ⟨rfl, N37⟩
        · have pre39 : ∀ t_, Steps p.tables e below (s₁.setTop (mkF m 99 #[.val (.int k0), .val (.int k1), .val (.int (k0 &&& (7 : Int32))), .val (.int ((k1 &&& (7 : Int32)) - (3 : Int32))), .unset, .unset] [(.int (3 : Int32)), (.int (k0 &&& (7 : Int32)))])) t_ → Steps p.tables e below (s₁.setTop (entryFrame m #[(.int k0), (.int k1)] maxLocals)) t_ := fun t_ k_ => pre30 t_ (by
            show Steps p.tables e below (s₁.setTop (mkF m 74 #[.val (.int k0), .val (.int k1), .val (.int (k0 &&& (7 : Int32))), .val (.int ((k1 &&& (7 : Int32)) - (3 : Int32))), .unset, .unset] [(.int (2 : Int32)), (.int (k0 &&& (7 : Int32)))])) _
            refine XS.icmpYes X0.here hx rfl (pc0 := 74) (pc' := 97) rfl (hb hby at_74) rfl (feq hc74_31).2 (by decide) (by decide) ?_
            show Steps p.tables e below (s₁.setTop (mkF m 97 #[.val (.int k0), .val (.int k1), .val (.int (k0 &&& (7 : Int32))), .val (.int ((k1 &&& (7 : Int32)) - (3 : Int32))), .unset, .unset] [])) _
            refine XS.iloadN X0.here hx rfl (hb hby at_97) rfl ?_
            show Steps p.tables e below (s₁.setTop (mkF m 98 #[.val (.int k0), .val (.int k1), .val (.int (k0 &&& (7 : Int32))), .val (.int ((k1 &&& (7 : Int32)) - (3 : Int32))), .unset, .unset] [(.int (k0 &&& (7 : Int32)))])) _
            refine XS.iconst X0.here hx rfl (hb hby at_98) ?_
            show Steps p.tables e below (s₁.setTop (mkF m 99 #[.val (.int k0), .val (.int k1), .val (.int (k0 &&& (7 : Int32))), .val (.int ((k1 &&& (7 : Int32)) - (3 : Int32))), .unset, .unset] [(.int (3 : Int32)), (.int (k0 &&& (7 : Int32)))])) _
            exact k_)
          by_cases hc99_40 : (k0 &&& (7 : Int32)) = (3 : Int32)
          · obtain ⟨T41, X41, e41, st41⟩ := getS2 X0 hx hZ hown (host := "") (Or.inl (hw _ (List.mem_of_getElem? (i := 20) rfl))) Via.refl e0 S_CEIL (g := (mkF m 102 #[.val (.int k0), .val (.int k1), .val (.int (k0 &&& (7 : Int32))), .val (.int ((k1 &&& (7 : Int32)) - (3 : Int32))), .unset, .unset] [])) rfl (hb hby at_102)
            have pre42 : ∀ t_, Steps p.tables e below (T41.setTop (mkF m 109 #[.val (.int k0), .val (.int k1), .val (.int (k0 &&& (7 : Int32))), .val (.int ((k1 &&& (7 : Int32)) - (3 : Int32))), .val (.ref w_CEIL), .unset] [(.int (1 : Int32)), (.int ((k1 &&& (7 : Int32)) - (3 : Int32)))])) t_ → Steps p.tables e below (s₁.setTop (entryFrame m #[(.int k0), (.int k1)] maxLocals)) t_ := fun t_ k_ => pre39 t_ (by
              show Steps p.tables e below (s₁.setTop (mkF m 99 #[.val (.int k0), .val (.int k1), .val (.int (k0 &&& (7 : Int32))), .val (.int ((k1 &&& (7 : Int32)) - (3 : Int32))), .unset, .unset] [(.int (3 : Int32)), (.int (k0 &&& (7 : Int32)))])) _
              refine XS.icmpNo X0.here hx rfl (hb hby at_99) rfl (teq hc99_40).2 ?_
              show Steps p.tables e below (s₁.setTop (mkF m 102 #[.val (.int k0), .val (.int k1), .val (.int (k0 &&& (7 : Int32))), .val (.int ((k1 &&& (7 : Int32)) - (3 : Int32))), .unset, .unset] [])) _
              refine st41 _ ?_
              show Steps p.tables e below (T41.setTop (mkF m 105 #[.val (.int k0), .val (.int k1), .val (.int (k0 &&& (7 : Int32))), .val (.int ((k1 &&& (7 : Int32)) - (3 : Int32))), .unset, .unset] [(.ref w_CEIL)])) _
              refine XS.astore X41.here hx rfl (hb hby at_105) rfl rfl (l' := #[.val (.int k0), .val (.int k1), .val (.int (k0 &&& (7 : Int32))), .val (.int ((k1 &&& (7 : Int32)) - (3 : Int32))), .val (.ref w_CEIL), .unset]) rfl ?_
              show Steps p.tables e below (T41.setTop (mkF m 107 #[.val (.int k0), .val (.int k1), .val (.int (k0 &&& (7 : Int32))), .val (.int ((k1 &&& (7 : Int32)) - (3 : Int32))), .val (.ref w_CEIL), .unset] [])) _
              refine XS.iloadN X41.here hx rfl (hb hby at_107) rfl ?_
              show Steps p.tables e below (T41.setTop (mkF m 108 #[.val (.int k0), .val (.int k1), .val (.int (k0 &&& (7 : Int32))), .val (.int ((k1 &&& (7 : Int32)) - (3 : Int32))), .val (.ref w_CEIL), .unset] [(.int ((k1 &&& (7 : Int32)) - (3 : Int32)))])) _
              refine XS.iconst X41.here hx rfl (hb hby at_108) ?_
              show Steps p.tables e below (T41.setTop (mkF m 109 #[.val (.int k0), .val (.int k1), .val (.int (k0 &&& (7 : Int32))), .val (.int ((k1 &&& (7 : Int32)) - (3 : Int32))), .val (.ref w_CEIL), .unset] [(.int (1 : Int32)), (.int ((k1 &&& (7 : Int32)) - (3 : Int32)))])) _
              exact k_)
            by_cases hc109_43 : ((k1 &&& (7 : Int32)) - (3 : Int32)) = (1 : Int32)
            · obtain ⟨cq44, kq44, q44a, q44b, q44c⟩ := isOf hZ e41 E_CEIL
              obtain ⟨v44, _, ⟨T44, L44, k44, n44⟩, -, X44, ⟨Lc44, hQ44, l44, y44, z44⟩, st44⟩ := X41.virtualBack hx (y := (⟨"com/example/atropos/atropos/lang/BuiltInFunction", "takes", "(I)Z"⟩ : MethodName)) (z := (⟨"com/example/atropos/atropos/lang/BuiltInFunction", "takes", "(I)Z"⟩ : MethodName)) hown (mvT hZ (hw _ (List.mem_of_getElem? (i := 3) rfl))) (mvT hZ (hw _ (List.mem_of_getElem? (i := 4) rfl))) (notFace_of_selects (args := #[]) (mvT hZ (hw _ (List.mem_of_getElem? (i := 6) rfl)))) (mvT hZ (hw _ (List.mem_of_getElem? (i := 6) rfl))) (mvT hZ (hw _ (List.mem_of_getElem? (i := 5) rfl))) (by decide) (backOf (W := 0) (rm_1 l Z a0 hw [] w_CEIL ((k1 &&& (7 : Int32)) - (3 : Int32)) (1 : Int32) (1 : Int32) h0 n0 Z0 F_CEIL_fewestArguments F_CEIL_mostArguments) hZ (hw _ (List.mem_of_getElem? (i := 7) rfl)) (hw _ (List.mem_of_getElem? (i := 1) rfl)) (by decide) (by decide)) q44a q44c (g := (mkF m 218 #[.val (.int k0), .val (.int k1), .val (.int (k0 &&& (7 : Int32))), .val (.int ((k1 &&& (7 : Int32)) - (3 : Int32))), .val (.ref w_CEIL), .val (.int (1 : Int32))] [(.int ((k1 &&& (7 : Int32)) - (3 : Int32))), (.ref w_CEIL)])) rfl (by rw [hml]; rfl) (Steps.refl _) (argsL := [(.int ((k1 &&& (7 : Int32)) - (3 : Int32)))]) (rest := []) (lenOf pd_0 rfl) rfl (by show 2 * 0 + _ ≤ _; exact Nat.le_of_eq rfl) (hb hby at_218) (fun _ _ => ⟨rfl, e41, (by decide : 0 + 0 ≤ _), (by decide : 0 + 0 ≤ _)⟩)
              dsimp only [Pt.U, Pt.locs, Pt.cells, Pt.slots] at X44 l44 y44 z44 st44 hQ44
              subst l44 y44 z44
              obtain ⟨hv44, N44q, e44⟩ := hQ44
              have N44 := Fr.app N0 N44q
              have hw44 : v44 = some (.int (1 : Int32)) := hv44.trans (congrArg (fun z => some (Value.int z)) (own_eq hc109_43))
              subst hw44
              have pre45 : ∀ t_, Steps p.tables e below (T44.setTop (mkF m 231 #[.val (.int k0), .val (.int k1), .val (.int (k0 &&& (7 : Int32))), .val (.int ((k1 &&& (7 : Int32)) - (3 : Int32))), .val (.ref w_CEIL), .val (.int (1 : Int32))] [(.int (1 : Int32))])) t_ → Steps p.tables e below (s₁.setTop (entryFrame m #[(.int k0), (.int k1)] maxLocals)) t_ := fun t_ k_ => pre42 t_ (by
                show Steps p.tables e below (T41.setTop (mkF m 109 #[.val (.int k0), .val (.int k1), .val (.int (k0 &&& (7 : Int32))), .val (.int ((k1 &&& (7 : Int32)) - (3 : Int32))), .val (.ref w_CEIL), .unset] [(.int (1 : Int32)), (.int ((k1 &&& (7 : Int32)) - (3 : Int32)))])) _
                refine XS.icmpNo X41.here hx rfl (hb hby at_109) rfl (teq hc109_43).2 ?_
                show Steps p.tables e below (T41.setTop (mkF m 112 #[.val (.int k0), .val (.int k1), .val (.int (k0 &&& (7 : Int32))), .val (.int ((k1 &&& (7 : Int32)) - (3 : Int32))), .val (.ref w_CEIL), .unset] [])) _
                refine XS.iconst X41.here hx rfl (hb hby at_112) ?_
                show Steps p.tables e below (T41.setTop (mkF m 113 #[.val (.int k0), .val (.int k1), .val (.int (k0 &&& (7 : Int32))), .val (.int ((k1 &&& (7 : Int32)) - (3 : Int32))), .val (.ref w_CEIL), .unset] [(.int (1 : Int32))])) _
                refine XS.goto X41.here hx rfl (pc0 := 113) (pc' := 117) rfl (hb hby at_113) (by decide) (by decide) ?_
                show Steps p.tables e below (T41.setTop (mkF m 117 #[.val (.int k0), .val (.int k1), .val (.int (k0 &&& (7 : Int32))), .val (.int ((k1 &&& (7 : Int32)) - (3 : Int32))), .val (.ref w_CEIL), .unset] [(.int (1 : Int32))])) _
                refine XS.istore X41.here hx rfl (hb hby at_117) rfl (l' := #[.val (.int k0), .val (.int k1), .val (.int (k0 &&& (7 : Int32))), .val (.int ((k1 &&& (7 : Int32)) - (3 : Int32))), .val (.ref w_CEIL), .val (.int (1 : Int32))]) rfl ?_
                show Steps p.tables e below (T41.setTop (mkF m 119 #[.val (.int k0), .val (.int k1), .val (.int (k0 &&& (7 : Int32))), .val (.int ((k1 &&& (7 : Int32)) - (3 : Int32))), .val (.ref w_CEIL), .val (.int (1 : Int32))] [])) _
                refine XS.goto X41.here hx rfl (pc0 := 119) (pc' := 215) rfl (hb hby at_119) (by decide) (by decide) ?_
                show Steps p.tables e below (T41.setTop (mkF m 215 #[.val (.int k0), .val (.int k1), .val (.int (k0 &&& (7 : Int32))), .val (.int ((k1 &&& (7 : Int32)) - (3 : Int32))), .val (.ref w_CEIL), .val (.int (1 : Int32))] [])) _
                refine XS.aload X41.here hx rfl (hb hby at_215) rfl rfl ?_
                show Steps p.tables e below (T41.setTop (mkF m 217 #[.val (.int k0), .val (.int k1), .val (.int (k0 &&& (7 : Int32))), .val (.int ((k1 &&& (7 : Int32)) - (3 : Int32))), .val (.ref w_CEIL), .val (.int (1 : Int32))] [(.ref w_CEIL)])) _
                refine XS.iloadN X41.here hx rfl (hb hby at_217) rfl ?_
                show Steps p.tables e below (T41.setTop (mkF m 218 #[.val (.int k0), .val (.int k1), .val (.int (k0 &&& (7 : Int32))), .val (.int ((k1 &&& (7 : Int32)) - (3 : Int32))), .val (.ref w_CEIL), .val (.int (1 : Int32))] [(.int ((k1 &&& (7 : Int32)) - (3 : Int32))), (.ref w_CEIL)])) _
                refine st44.trans ?_
                show Steps p.tables e below (T44.setTop (mkF m 221 #[.val (.int k0), .val (.int k1), .val (.int (k0 &&& (7 : Int32))), .val (.int ((k1 &&& (7 : Int32)) - (3 : Int32))), .val (.ref w_CEIL), .val (.int (1 : Int32))] [(.int (1 : Int32))])) _
                refine XS.iload X44.here hx rfl (hb hby at_221) rfl ?_
                show Steps p.tables e below (T44.setTop (mkF m 223 #[.val (.int k0), .val (.int k1), .val (.int (k0 &&& (7 : Int32))), .val (.int ((k1 &&& (7 : Int32)) - (3 : Int32))), .val (.ref w_CEIL), .val (.int (1 : Int32))] [(.int (1 : Int32)), (.int (1 : Int32))])) _
                refine XS.icmpNo X44.here hx rfl (hb hby at_223) rfl (teq (by decide : (1 : Int32) = (1 : Int32))).2 ?_
                show Steps p.tables e below (T44.setTop (mkF m 226 #[.val (.int k0), .val (.int k1), .val (.int (k0 &&& (7 : Int32))), .val (.int ((k1 &&& (7 : Int32)) - (3 : Int32))), .val (.ref w_CEIL), .val (.int (1 : Int32))] [])) _
                refine XS.iconst X44.here hx rfl (hb hby at_226) ?_
                show Steps p.tables e below (T44.setTop (mkF m 227 #[.val (.int k0), .val (.int k1), .val (.int (k0 &&& (7 : Int32))), .val (.int ((k1 &&& (7 : Int32)) - (3 : Int32))), .val (.ref w_CEIL), .val (.int (1 : Int32))] [(.int (1 : Int32))])) _
                refine XS.goto X44.here hx rfl (pc0 := 227) (pc' := 231) rfl (hb hby at_227) (by decide) (by decide) ?_
                show Steps p.tables e below (T44.setTop (mkF m 231 #[.val (.int k0), .val (.int k1), .val (.int (k0 &&& (7 : Int32))), .val (.int ((k1 &&& (7 : Int32)) - (3 : Int32))), .val (.ref w_CEIL), .val (.int (1 : Int32))] [(.int (1 : Int32))])) _
                exact k_)
              obtain ⟨fs, hr, hrun, hended, hW, hsame⟩ := X44.leave (v := some (.int (1 : Int32))) (fun h => by rw [Bd.returns] at h; cases h)
              refine ⟨_, _, pre45 _ ?_, hrun, hended, _, _, rfl, ?_, ⟨_, rfl⟩, hW, hsame.mono (by decide) (by decide)⟩
              · show Steps p.tables e below (T44.setTop (mkF m 231 #[.val (.int k0), .val (.int k1), .val (.int (k0 &&& (7 : Int32))), .val (.int ((k1 &&& (7 : Int32)) - (3 : Int32))), .val (.ref w_CEIL), .val (.int (1 : Int32))] [(.int (1 : Int32))])) _
                exact retN X44 hx (t := .boolean) Bd.returns (by simp) (hb hby at_231) hr
              · show Q_0 Z k0 k1 w_MIN w_MOD w_ROUND w_POW w_LOG w_CEIL w_MAX w_FLOOR h0 n0 _ T44.heap _
                rw [e44]
                exact ⟨rfl, N44⟩
            · obtain ⟨cq46, kq46, q46a, q46b, q46c⟩ := isOf hZ e41 E_CEIL
              obtain ⟨v46, _, ⟨T46, L46, k46, n46⟩, -, X46, ⟨Lc46, hQ46, l46, y46, z46⟩, st46⟩ := X41.virtualBack hx (y := (⟨"com/example/atropos/atropos/lang/BuiltInFunction", "takes", "(I)Z"⟩ : MethodName)) (z := (⟨"com/example/atropos/atropos/lang/BuiltInFunction", "takes", "(I)Z"⟩ : MethodName)) hown (mvT hZ (hw _ (List.mem_of_getElem? (i := 3) rfl))) (mvT hZ (hw _ (List.mem_of_getElem? (i := 4) rfl))) (notFace_of_selects (args := #[]) (mvT hZ (hw _ (List.mem_of_getElem? (i := 6) rfl)))) (mvT hZ (hw _ (List.mem_of_getElem? (i := 6) rfl))) (mvT hZ (hw _ (List.mem_of_getElem? (i := 5) rfl))) (by decide) (backOf (W := 0) (rm_1 l Z a0 hw [] w_CEIL ((k1 &&& (7 : Int32)) - (3 : Int32)) (1 : Int32) (1 : Int32) h0 n0 Z0 F_CEIL_fewestArguments F_CEIL_mostArguments) hZ (hw _ (List.mem_of_getElem? (i := 7) rfl)) (hw _ (List.mem_of_getElem? (i := 1) rfl)) (by decide) (by decide)) q46a q46c (g := (mkF m 218 #[.val (.int k0), .val (.int k1), .val (.int (k0 &&& (7 : Int32))), .val (.int ((k1 &&& (7 : Int32)) - (3 : Int32))), .val (.ref w_CEIL), .val (.int (0 : Int32))] [(.int ((k1 &&& (7 : Int32)) - (3 : Int32))), (.ref w_CEIL)])) rfl (by rw [hml]; rfl) (Steps.refl _) (argsL := [(.int ((k1 &&& (7 : Int32)) - (3 : Int32)))]) (rest := []) (lenOf pd_0 rfl) rfl (by show 2 * 0 + _ ≤ _; exact Nat.le_of_eq rfl) (hb hby at_218) (fun _ _ => ⟨rfl, e41, (by decide : 0 + 0 ≤ _), (by decide : 0 + 0 ≤ _)⟩)
              dsimp only [Pt.U, Pt.locs, Pt.cells, Pt.slots] at X46 l46 y46 z46 st46 hQ46
              subst l46 y46 z46
              obtain ⟨hv46, N46q, e46⟩ := hQ46
              have N46 := Fr.app N0 N46q
              have hw46 : v46 = some (.int (0 : Int32)) := hv46.trans (congrArg (fun z => some (Value.int z)) (own_ne hc109_43))
              subst hw46
              have pre47 : ∀ t_, Steps p.tables e below (T46.setTop (mkF m 231 #[.val (.int k0), .val (.int k1), .val (.int (k0 &&& (7 : Int32))), .val (.int ((k1 &&& (7 : Int32)) - (3 : Int32))), .val (.ref w_CEIL), .val (.int (0 : Int32))] [(.int (1 : Int32))])) t_ → Steps p.tables e below (s₁.setTop (entryFrame m #[(.int k0), (.int k1)] maxLocals)) t_ := fun t_ k_ => pre42 t_ (by
                show Steps p.tables e below (T41.setTop (mkF m 109 #[.val (.int k0), .val (.int k1), .val (.int (k0 &&& (7 : Int32))), .val (.int ((k1 &&& (7 : Int32)) - (3 : Int32))), .val (.ref w_CEIL), .unset] [(.int (1 : Int32)), (.int ((k1 &&& (7 : Int32)) - (3 : Int32)))])) _
                refine XS.icmpYes X41.here hx rfl (pc0 := 109) (pc' := 116) rfl (hb hby at_109) rfl (feq hc109_43).2 (by decide) (by decide) ?_
                show Steps p.tables e below (T41.setTop (mkF m 116 #[.val (.int k0), .val (.int k1), .val (.int (k0 &&& (7 : Int32))), .val (.int ((k1 &&& (7 : Int32)) - (3 : Int32))), .val (.ref w_CEIL), .unset] [])) _
                refine XS.iconst X41.here hx rfl (hb hby at_116) ?_
                show Steps p.tables e below (T41.setTop (mkF m 117 #[.val (.int k0), .val (.int k1), .val (.int (k0 &&& (7 : Int32))), .val (.int ((k1 &&& (7 : Int32)) - (3 : Int32))), .val (.ref w_CEIL), .unset] [(.int (0 : Int32))])) _
                refine XS.istore X41.here hx rfl (hb hby at_117) rfl (l' := #[.val (.int k0), .val (.int k1), .val (.int (k0 &&& (7 : Int32))), .val (.int ((k1 &&& (7 : Int32)) - (3 : Int32))), .val (.ref w_CEIL), .val (.int (0 : Int32))]) rfl ?_
                show Steps p.tables e below (T41.setTop (mkF m 119 #[.val (.int k0), .val (.int k1), .val (.int (k0 &&& (7 : Int32))), .val (.int ((k1 &&& (7 : Int32)) - (3 : Int32))), .val (.ref w_CEIL), .val (.int (0 : Int32))] [])) _
                refine XS.goto X41.here hx rfl (pc0 := 119) (pc' := 215) rfl (hb hby at_119) (by decide) (by decide) ?_
                show Steps p.tables e below (T41.setTop (mkF m 215 #[.val (.int k0), .val (.int k1), .val (.int (k0 &&& (7 : Int32))), .val (.int ((k1 &&& (7 : Int32)) - (3 : Int32))), .val (.ref w_CEIL), .val (.int (0 : Int32))] [])) _
                refine XS.aload X41.here hx rfl (hb hby at_215) rfl rfl ?_
                show Steps p.tables e below (T41.setTop (mkF m 217 #[.val (.int k0), .val (.int k1), .val (.int (k0 &&& (7 : Int32))), .val (.int ((k1 &&& (7 : Int32)) - (3 : Int32))), .val (.ref w_CEIL), .val (.int (0 : Int32))] [(.ref w_CEIL)])) _
                refine XS.iloadN X41.here hx rfl (hb hby at_217) rfl ?_
                show Steps p.tables e below (T41.setTop (mkF m 218 #[.val (.int k0), .val (.int k1), .val (.int (k0 &&& (7 : Int32))), .val (.int ((k1 &&& (7 : Int32)) - (3 : Int32))), .val (.ref w_CEIL), .val (.int (0 : Int32))] [(.int ((k1 &&& (7 : Int32)) - (3 : Int32))), (.ref w_CEIL)])) _
                refine st46.trans ?_
                show Steps p.tables e below (T46.setTop (mkF m 221 #[.val (.int k0), .val (.int k1), .val (.int (k0 &&& (7 : Int32))), .val (.int ((k1 &&& (7 : Int32)) - (3 : Int32))), .val (.ref w_CEIL), .val (.int (0 : Int32))] [(.int (0 : Int32))])) _
                refine XS.iload X46.here hx rfl (hb hby at_221) rfl ?_
                show Steps p.tables e below (T46.setTop (mkF m 223 #[.val (.int k0), .val (.int k1), .val (.int (k0 &&& (7 : Int32))), .val (.int ((k1 &&& (7 : Int32)) - (3 : Int32))), .val (.ref w_CEIL), .val (.int (0 : Int32))] [(.int (0 : Int32)), (.int (0 : Int32))])) _
                refine XS.icmpNo X46.here hx rfl (hb hby at_223) rfl (teq (by decide : (0 : Int32) = (0 : Int32))).2 ?_
                show Steps p.tables e below (T46.setTop (mkF m 226 #[.val (.int k0), .val (.int k1), .val (.int (k0 &&& (7 : Int32))), .val (.int ((k1 &&& (7 : Int32)) - (3 : Int32))), .val (.ref w_CEIL), .val (.int (0 : Int32))] [])) _
                refine XS.iconst X46.here hx rfl (hb hby at_226) ?_
                show Steps p.tables e below (T46.setTop (mkF m 227 #[.val (.int k0), .val (.int k1), .val (.int (k0 &&& (7 : Int32))), .val (.int ((k1 &&& (7 : Int32)) - (3 : Int32))), .val (.ref w_CEIL), .val (.int (0 : Int32))] [(.int (1 : Int32))])) _
                refine XS.goto X46.here hx rfl (pc0 := 227) (pc' := 231) rfl (hb hby at_227) (by decide) (by decide) ?_
                show Steps p.tables e below (T46.setTop (mkF m 231 #[.val (.int k0), .val (.int k1), .val (.int (k0 &&& (7 : Int32))), .val (.int ((k1 &&& (7 : Int32)) - (3 : Int32))), .val (.ref w_CEIL), .val (.int (0 : Int32))] [(.int (1 : Int32))])) _
                exact k_)
              obtain ⟨fs, hr, hrun, hended, hW, hsame⟩ := X46.leave (v := some (.int (1 : Int32))) (fun h => by rw [Bd.returns] at h; cases h)
              refine ⟨_, _, pre47 _ ?_, hrun, hended, _, _, rfl, ?_, ⟨_, rfl⟩, hW, hsame.mono (by decide) (by decide)⟩
              · show Steps p.tables e below (T46.setTop (mkF m 231 #[.val (.int k0), .val (.int k1), .val (.int (k0 &&& (7 : Int32))), .val (.int ((k1 &&& (7 : Int32)) - (3 : Int32))), .val (.ref w_CEIL), .val (.int (0 : Int32))] [(.int (1 : Int32))])) _
                exact retN X46 hx (t := .boolean) Bd.returns (by simp) (hb hby at_231) hr
              · show Q_0 Z k0 k1 w_MIN w_MOD w_ROUND w_POW w_LOG w_CEIL w_MAX w_FLOOR h0 n0 _ T46.heap _
                rw [e46]
                exact ⟨rfl, N46⟩
          · have pre48 : ∀ t_, Steps p.tables e below (s₁.setTop (mkF m 124 #[.val (.int k0), .val (.int k1), .val (.int (k0 &&& (7 : Int32))), .val (.int ((k1 &&& (7 : Int32)) - (3 : Int32))), .unset, .unset] [(.int (4 : Int32)), (.int (k0 &&& (7 : Int32)))])) t_ → Steps p.tables e below (s₁.setTop (entryFrame m #[(.int k0), (.int k1)] maxLocals)) t_ := fun t_ k_ => pre39 t_ (by
              show Steps p.tables e below (s₁.setTop (mkF m 99 #[.val (.int k0), .val (.int k1), .val (.int (k0 &&& (7 : Int32))), .val (.int ((k1 &&& (7 : Int32)) - (3 : Int32))), .unset, .unset] [(.int (3 : Int32)), (.int (k0 &&& (7 : Int32)))])) _
              refine XS.icmpYes X0.here hx rfl (pc0 := 99) (pc' := 122) rfl (hb hby at_99) rfl (feq hc99_40).2 (by decide) (by decide) ?_
              show Steps p.tables e below (s₁.setTop (mkF m 122 #[.val (.int k0), .val (.int k1), .val (.int (k0 &&& (7 : Int32))), .val (.int ((k1 &&& (7 : Int32)) - (3 : Int32))), .unset, .unset] [])) _
              refine XS.iloadN X0.here hx rfl (hb hby at_122) rfl ?_
              show Steps p.tables e below (s₁.setTop (mkF m 123 #[.val (.int k0), .val (.int k1), .val (.int (k0 &&& (7 : Int32))), .val (.int ((k1 &&& (7 : Int32)) - (3 : Int32))), .unset, .unset] [(.int (k0 &&& (7 : Int32)))])) _
              refine XS.iconst X0.here hx rfl (hb hby at_123) ?_
              show Steps p.tables e below (s₁.setTop (mkF m 124 #[.val (.int k0), .val (.int k1), .val (.int (k0 &&& (7 : Int32))), .val (.int ((k1 &&& (7 : Int32)) - (3 : Int32))), .unset, .unset] [(.int (4 : Int32)), (.int (k0 &&& (7 : Int32)))])) _
              exact k_)
            by_cases hc124_49 : (k0 &&& (7 : Int32)) = (4 : Int32)
            · obtain ⟨T50, X50, e50, st50⟩ := getS2 X0 hx hZ hown (host := "") (Or.inl (hw _ (List.mem_of_getElem? (i := 12) rfl))) Via.refl e0 S_ROUND (g := (mkF m 127 #[.val (.int k0), .val (.int k1), .val (.int (k0 &&& (7 : Int32))), .val (.int ((k1 &&& (7 : Int32)) - (3 : Int32))), .unset, .unset] [])) rfl (hb hby at_127)
              have pre51 : ∀ t_, Steps p.tables e below (T50.setTop (mkF m 134 #[.val (.int k0), .val (.int k1), .val (.int (k0 &&& (7 : Int32))), .val (.int ((k1 &&& (7 : Int32)) - (3 : Int32))), .val (.ref w_ROUND), .unset] [(.int (1 : Int32)), (.int ((k1 &&& (7 : Int32)) - (3 : Int32)))])) t_ → Steps p.tables e below (s₁.setTop (entryFrame m #[(.int k0), (.int k1)] maxLocals)) t_ := fun t_ k_ => pre48 t_ (by
                show Steps p.tables e below (s₁.setTop (mkF m 124 #[.val (.int k0), .val (.int k1), .val (.int (k0 &&& (7 : Int32))), .val (.int ((k1 &&& (7 : Int32)) - (3 : Int32))), .unset, .unset] [(.int (4 : Int32)), (.int (k0 &&& (7 : Int32)))])) _
                refine XS.icmpNo X0.here hx rfl (hb hby at_124) rfl (teq hc124_49).2 ?_
                show Steps p.tables e below (s₁.setTop (mkF m 127 #[.val (.int k0), .val (.int k1), .val (.int (k0 &&& (7 : Int32))), .val (.int ((k1 &&& (7 : Int32)) - (3 : Int32))), .unset, .unset] [])) _
                refine st50 _ ?_
                show Steps p.tables e below (T50.setTop (mkF m 130 #[.val (.int k0), .val (.int k1), .val (.int (k0 &&& (7 : Int32))), .val (.int ((k1 &&& (7 : Int32)) - (3 : Int32))), .unset, .unset] [(.ref w_ROUND)])) _
                refine XS.astore X50.here hx rfl (hb hby at_130) rfl rfl (l' := #[.val (.int k0), .val (.int k1), .val (.int (k0 &&& (7 : Int32))), .val (.int ((k1 &&& (7 : Int32)) - (3 : Int32))), .val (.ref w_ROUND), .unset]) rfl ?_
                show Steps p.tables e below (T50.setTop (mkF m 132 #[.val (.int k0), .val (.int k1), .val (.int (k0 &&& (7 : Int32))), .val (.int ((k1 &&& (7 : Int32)) - (3 : Int32))), .val (.ref w_ROUND), .unset] [])) _
                refine XS.iloadN X50.here hx rfl (hb hby at_132) rfl ?_
                show Steps p.tables e below (T50.setTop (mkF m 133 #[.val (.int k0), .val (.int k1), .val (.int (k0 &&& (7 : Int32))), .val (.int ((k1 &&& (7 : Int32)) - (3 : Int32))), .val (.ref w_ROUND), .unset] [(.int ((k1 &&& (7 : Int32)) - (3 : Int32)))])) _
                refine XS.iconst X50.here hx rfl (hb hby at_133) ?_
                show Steps p.tables e below (T50.setTop (mkF m 134 #[.val (.int k0), .val (.int k1), .val (.int (k0 &&& (7 : Int32))), .val (.int ((k1 &&& (7 : Int32)) - (3 : Int32))), .val (.ref w_ROUND), .unset] [(.int (1 : Int32)), (.int ((k1 &&& (7 : Int32)) - (3 : Int32)))])) _
                exact k_)
              by_cases hc134_52 : ((k1 &&& (7 : Int32)) - (3 : Int32)) = (1 : Int32)
              · obtain ⟨cq53, kq53, q53a, q53b, q53c⟩ := isOf hZ e50 E_ROUND
                obtain ⟨v53, _, ⟨T53, L53, k53, n53⟩, -, X53, ⟨Lc53, hQ53, l53, y53, z53⟩, st53⟩ := X50.virtualBack hx (y := (⟨"com/example/atropos/atropos/lang/BuiltInFunction", "takes", "(I)Z"⟩ : MethodName)) (z := (⟨"com/example/atropos/atropos/lang/BuiltInFunction", "takes", "(I)Z"⟩ : MethodName)) hown (mvT hZ (hw _ (List.mem_of_getElem? (i := 3) rfl))) (mvT hZ (hw _ (List.mem_of_getElem? (i := 4) rfl))) (notFace_of_selects (args := #[]) (mvT hZ (hw _ (List.mem_of_getElem? (i := 6) rfl)))) (mvT hZ (hw _ (List.mem_of_getElem? (i := 6) rfl))) (mvT hZ (hw _ (List.mem_of_getElem? (i := 5) rfl))) (by decide) (backOf (W := 0) (rm_1 l Z a0 hw [] w_ROUND ((k1 &&& (7 : Int32)) - (3 : Int32)) (1 : Int32) (1 : Int32) h0 n0 Z0 F_ROUND_fewestArguments F_ROUND_mostArguments) hZ (hw _ (List.mem_of_getElem? (i := 7) rfl)) (hw _ (List.mem_of_getElem? (i := 1) rfl)) (by decide) (by decide)) q53a q53c (g := (mkF m 218 #[.val (.int k0), .val (.int k1), .val (.int (k0 &&& (7 : Int32))), .val (.int ((k1 &&& (7 : Int32)) - (3 : Int32))), .val (.ref w_ROUND), .val (.int (1 : Int32))] [(.int ((k1 &&& (7 : Int32)) - (3 : Int32))), (.ref w_ROUND)])) rfl (by rw [hml]; rfl) (Steps.refl _) (argsL := [(.int ((k1 &&& (7 : Int32)) - (3 : Int32)))]) (rest := []) (lenOf pd_0 rfl) rfl (by show 2 * 0 + _ ≤ _; exact Nat.le_of_eq rfl) (hb hby at_218) (fun _ _ => ⟨rfl, e50, (by decide : 0 + 0 ≤ _), (by decide : 0 + 0 ≤ _)⟩)
                dsimp only [Pt.U, Pt.locs, Pt.cells, Pt.slots] at X53 l53 y53 z53 st53 hQ53
                subst l53 y53 z53
                obtain ⟨hv53, N53q, e53⟩ := hQ53
                have N53 := Fr.app N0 N53q
                have hw53 : v53 = some (.int (1 : Int32)) := hv53.trans (congrArg (fun z => some (Value.int z)) (own_eq hc134_52))
                subst hw53
                have pre54 : ∀ t_, Steps p.tables e below (T53.setTop (mkF m 231 #[.val (.int k0), .val (.int k1), .val (.int (k0 &&& (7 : Int32))), .val (.int ((k1 &&& (7 : Int32)) - (3 : Int32))), .val (.ref w_ROUND), .val (.int (1 : Int32))] [(.int (1 : Int32))])) t_ → Steps p.tables e below (s₁.setTop (entryFrame m #[(.int k0), (.int k1)] maxLocals)) t_ := fun t_ k_ => pre51 t_ (by
                  show Steps p.tables e below (T50.setTop (mkF m 134 #[.val (.int k0), .val (.int k1), .val (.int (k0 &&& (7 : Int32))), .val (.int ((k1 &&& (7 : Int32)) - (3 : Int32))), .val (.ref w_ROUND), .unset] [(.int (1 : Int32)), (.int ((k1 &&& (7 : Int32)) - (3 : Int32)))])) _
                  refine XS.icmpNo X50.here hx rfl (hb hby at_134) rfl (teq hc134_52).2 ?_
                  show Steps p.tables e below (T50.setTop (mkF m 137 #[.val (.int k0), .val (.int k1), .val (.int (k0 &&& (7 : Int32))), .val (.int ((k1 &&& (7 : Int32)) - (3 : Int32))), .val (.ref w_ROUND), .unset] [])) _
                  refine XS.iconst X50.here hx rfl (hb hby at_137) ?_
                  show Steps p.tables e below (T50.setTop (mkF m 138 #[.val (.int k0), .val (.int k1), .val (.int (k0 &&& (7 : Int32))), .val (.int ((k1 &&& (7 : Int32)) - (3 : Int32))), .val (.ref w_ROUND), .unset] [(.int (1 : Int32))])) _
                  refine XS.goto X50.here hx rfl (pc0 := 138) (pc' := 142) rfl (hb hby at_138) (by decide) (by decide) ?_
                  show Steps p.tables e below (T50.setTop (mkF m 142 #[.val (.int k0), .val (.int k1), .val (.int (k0 &&& (7 : Int32))), .val (.int ((k1 &&& (7 : Int32)) - (3 : Int32))), .val (.ref w_ROUND), .unset] [(.int (1 : Int32))])) _
                  refine XS.istore X50.here hx rfl (hb hby at_142) rfl (l' := #[.val (.int k0), .val (.int k1), .val (.int (k0 &&& (7 : Int32))), .val (.int ((k1 &&& (7 : Int32)) - (3 : Int32))), .val (.ref w_ROUND), .val (.int (1 : Int32))]) rfl ?_
                  show Steps p.tables e below (T50.setTop (mkF m 144 #[.val (.int k0), .val (.int k1), .val (.int (k0 &&& (7 : Int32))), .val (.int ((k1 &&& (7 : Int32)) - (3 : Int32))), .val (.ref w_ROUND), .val (.int (1 : Int32))] [])) _
                  refine XS.goto X50.here hx rfl (pc0 := 144) (pc' := 215) rfl (hb hby at_144) (by decide) (by decide) ?_
                  show Steps p.tables e below (T50.setTop (mkF m 215 #[.val (.int k0), .val (.int k1), .val (.int (k0 &&& (7 : Int32))), .val (.int ((k1 &&& (7 : Int32)) - (3 : Int32))), .val (.ref w_ROUND), .val (.int (1 : Int32))] [])) _
                  refine XS.aload X50.here hx rfl (hb hby at_215) rfl rfl ?_
                  show Steps p.tables e below (T50.setTop (mkF m 217 #[.val (.int k0), .val (.int k1), .val (.int (k0 &&& (7 : Int32))), .val (.int ((k1 &&& (7 : Int32)) - (3 : Int32))), .val (.ref w_ROUND), .val (.int (1 : Int32))] [(.ref w_ROUND)])) _
                  refine XS.iloadN X50.here hx rfl (hb hby at_217) rfl ?_
                  show Steps p.tables e below (T50.setTop (mkF m 218 #[.val (.int k0), .val (.int k1), .val (.int (k0 &&& (7 : Int32))), .val (.int ((k1 &&& (7 : Int32)) - (3 : Int32))), .val (.ref w_ROUND), .val (.int (1 : Int32))] [(.int ((k1 &&& (7 : Int32)) - (3 : Int32))), (.ref w_ROUND)])) _
                  refine st53.trans ?_
                  show Steps p.tables e below (T53.setTop (mkF m 221 #[.val (.int k0), .val (.int k1), .val (.int (k0 &&& (7 : Int32))), .val (.int ((k1 &&& (7 : Int32)) - (3 : Int32))), .val (.ref w_ROUND), .val (.int (1 : Int32))] [(.int (1 : Int32))])) _
                  refine XS.iload X53.here hx rfl (hb hby at_221) rfl ?_
                  show Steps p.tables e below (T53.setTop (mkF m 223 #[.val (.int k0), .val (.int k1), .val (.int (k0 &&& (7 : Int32))), .val (.int ((k1 &&& (7 : Int32)) - (3 : Int32))), .val (.ref w_ROUND), .val (.int (1 : Int32))] [(.int (1 : Int32)), (.int (1 : Int32))])) _
                  refine XS.icmpNo X53.here hx rfl (hb hby at_223) rfl (teq (by decide : (1 : Int32) = (1 : Int32))).2 ?_
                  show Steps p.tables e below (T53.setTop (mkF m 226 #[.val (.int k0), .val (.int k1), .val (.int (k0 &&& (7 : Int32))), .val (.int ((k1 &&& (7 : Int32)) - (3 : Int32))), .val (.ref w_ROUND), .val (.int (1 : Int32))] [])) _
                  refine XS.iconst X53.here hx rfl (hb hby at_226) ?_
                  show Steps p.tables e below (T53.setTop (mkF m 227 #[.val (.int k0), .val (.int k1), .val (.int (k0 &&& (7 : Int32))), .val (.int ((k1 &&& (7 : Int32)) - (3 : Int32))), .val (.ref w_ROUND), .val (.int (1 : Int32))] [(.int (1 : Int32))])) _
                  refine XS.goto X53.here hx rfl (pc0 := 227) (pc' := 231) rfl (hb hby at_227) (by decide) (by decide) ?_
                  show Steps p.tables e below (T53.setTop (mkF m 231 #[.val (.int k0), .val (.int k1), .val (.int (k0 &&& (7 : Int32))), .val (.int ((k1 &&& (7 : Int32)) - (3 : Int32))), .val (.ref w_ROUND), .val (.int (1 : Int32))] [(.int (1 : Int32))])) _
                  exact k_)
                obtain ⟨fs, hr, hrun, hended, hW, hsame⟩ := X53.leave (v := some (.int (1 : Int32))) (fun h => by rw [Bd.returns] at h; cases h)
                refine ⟨_, _, pre54 _ ?_, hrun, hended, _, _, rfl, ?_, ⟨_, rfl⟩, hW, hsame.mono (by decide) (by decide)⟩
                · show Steps p.tables e below (T53.setTop (mkF m 231 #[.val (.int k0), .val (.int k1), .val (.int (k0 &&& (7 : Int32))), .val (.int ((k1 &&& (7 : Int32)) - (3 : Int32))), .val (.ref w_ROUND), .val (.int (1 : Int32))] [(.int (1 : Int32))])) _
                  exact retN X53 hx (t := .boolean) Bd.returns (by simp) (hb hby at_231) hr
                · show Q_0 Z k0 k1 w_MIN w_MOD w_ROUND w_POW w_LOG w_CEIL w_MAX w_FLOOR h0 n0 _ T53.heap _
                  rw [e53]
                  exact ⟨rfl, N53⟩
              · obtain ⟨cq55, kq55, q55a, q55b, q55c⟩ := isOf hZ e50 E_ROUND
                obtain ⟨v55, _, ⟨T55, L55, k55, n55⟩, -, X55, ⟨Lc55, hQ55, l55, y55, z55⟩, st55⟩ := X50.virtualBack hx (y := (⟨"com/example/atropos/atropos/lang/BuiltInFunction", "takes", "(I)Z"⟩ : MethodName)) (z := (⟨"com/example/atropos/atropos/lang/BuiltInFunction", "takes", "(I)Z"⟩ : MethodName)) hown (mvT hZ (hw _ (List.mem_of_getElem? (i := 3) rfl))) (mvT hZ (hw _ (List.mem_of_getElem? (i := 4) rfl))) (notFace_of_selects (args := #[]) (mvT hZ (hw _ (List.mem_of_getElem? (i := 6) rfl)))) (mvT hZ (hw _ (List.mem_of_getElem? (i := 6) rfl))) (mvT hZ (hw _ (List.mem_of_getElem? (i := 5) rfl))) (by decide) (backOf (W := 0) (rm_1 l Z a0 hw [] w_ROUND ((k1 &&& (7 : Int32)) - (3 : Int32)) (1 : Int32) (1 : Int32) h0 n0 Z0 F_ROUND_fewestArguments F_ROUND_mostArguments) hZ (hw _ (List.mem_of_getElem? (i := 7) rfl)) (hw _ (List.mem_of_getElem? (i := 1) rfl)) (by decide) (by decide)) q55a q55c (g := (mkF m 218 #[.val (.int k0), .val (.int k1), .val (.int (k0 &&& (7 : Int32))), .val (.int ((k1 &&& (7 : Int32)) - (3 : Int32))), .val (.ref w_ROUND), .val (.int (0 : Int32))] [(.int ((k1 &&& (7 : Int32)) - (3 : Int32))), (.ref w_ROUND)])) rfl (by rw [hml]; rfl) (Steps.refl _) (argsL := [(.int ((k1 &&& (7 : Int32)) - (3 : Int32)))]) (rest := []) (lenOf pd_0 rfl) rfl (by show 2 * 0 + _ ≤ _; exact Nat.le_of_eq rfl) (hb hby at_218) (fun _ _ => ⟨rfl, e50, (by decide : 0 + 0 ≤ _), (by decide : 0 + 0 ≤ _)⟩)
                dsimp only [Pt.U, Pt.locs, Pt.cells, Pt.slots] at X55 l55 y55 z55 st55 hQ55
                subst l55 y55 z55
                obtain ⟨hv55, N55q, e55⟩ := hQ55
                have N55 := Fr.app N0 N55q
                have hw55 : v55 = some (.int (0 : Int32)) := hv55.trans (congrArg (fun z => some (Value.int z)) (own_ne hc134_52))
                subst hw55
                have pre56 : ∀ t_, Steps p.tables e below (T55.setTop (mkF m 231 #[.val (.int k0), .val (.int k1), .val (.int (k0 &&& (7 : Int32))), .val (.int ((k1 &&& (7 : Int32)) - (3 : Int32))), .val (.ref w_ROUND), .val (.int (0 : Int32))] [(.int (1 : Int32))])) t_ → Steps p.tables e below (s₁.setTop (entryFrame m #[(.int k0), (.int k1)] maxLocals)) t_ := fun t_ k_ => pre51 t_ (by
                  show Steps p.tables e below (T50.setTop (mkF m 134 #[.val (.int k0), .val (.int k1), .val (.int (k0 &&& (7 : Int32))), .val (.int ((k1 &&& (7 : Int32)) - (3 : Int32))), .val (.ref w_ROUND), .unset] [(.int (1 : Int32)), (.int ((k1 &&& (7 : Int32)) - (3 : Int32)))])) _
                  refine XS.icmpYes X50.here hx rfl (pc0 := 134) (pc' := 141) rfl (hb hby at_134) rfl (feq hc134_52).2 (by decide) (by decide) ?_
                  show Steps p.tables e below (T50.setTop (mkF m 141 #[.val (.int k0), .val (.int k1), .val (.int (k0 &&& (7 : Int32))), .val (.int ((k1 &&& (7 : Int32)) - (3 : Int32))), .val (.ref w_ROUND), .unset] [])) _
                  refine XS.iconst X50.here hx rfl (hb hby at_141) ?_
                  show Steps p.tables e below (T50.setTop (mkF m 142 #[.val (.int k0), .val (.int k1), .val (.int (k0 &&& (7 : Int32))), .val (.int ((k1 &&& (7 : Int32)) - (3 : Int32))), .val (.ref w_ROUND), .unset] [(.int (0 : Int32))])) _
                  refine XS.istore X50.here hx rfl (hb hby at_142) rfl (l' := #[.val (.int k0), .val (.int k1), .val (.int (k0 &&& (7 : Int32))), .val (.int ((k1 &&& (7 : Int32)) - (3 : Int32))), .val (.ref w_ROUND), .val (.int (0 : Int32))]) rfl ?_
                  show Steps p.tables e below (T50.setTop (mkF m 144 #[.val (.int k0), .val (.int k1), .val (.int (k0 &&& (7 : Int32))), .val (.int ((k1 &&& (7 : Int32)) - (3 : Int32))), .val (.ref w_ROUND), .val (.int (0 : Int32))] [])) _
                  refine XS.goto X50.here hx rfl (pc0 := 144) (pc' := 215) rfl (hb hby at_144) (by decide) (by decide) ?_
                  show Steps p.tables e below (T50.setTop (mkF m 215 #[.val (.int k0), .val (.int k1), .val (.int (k0 &&& (7 : Int32))), .val (.int ((k1 &&& (7 : Int32)) - (3 : Int32))), .val (.ref w_ROUND), .val (.int (0 : Int32))] [])) _
                  refine XS.aload X50.here hx rfl (hb hby at_215) rfl rfl ?_
                  show Steps p.tables e below (T50.setTop (mkF m 217 #[.val (.int k0), .val (.int k1), .val (.int (k0 &&& (7 : Int32))), .val (.int ((k1 &&& (7 : Int32)) - (3 : Int32))), .val (.ref w_ROUND), .val (.int (0 : Int32))] [(.ref w_ROUND)])) _
                  refine XS.iloadN X50.here hx rfl (hb hby at_217) rfl ?_
                  show Steps p.tables e below (T50.setTop (mkF m 218 #[.val (.int k0), .val (.int k1), .val (.int (k0 &&& (7 : Int32))), .val (.int ((k1 &&& (7 : Int32)) - (3 : Int32))), .val (.ref w_ROUND), .val (.int (0 : Int32))] [(.int ((k1 &&& (7 : Int32)) - (3 : Int32))), (.ref w_ROUND)])) _
                  refine st55.trans ?_
                  show Steps p.tables e below (T55.setTop (mkF m 221 #[.val (.int k0), .val (.int k1), .val (.int (k0 &&& (7 : Int32))), .val (.int ((k1 &&& (7 : Int32)) - (3 : Int32))), .val (.ref w_ROUND), .val (.int (0 : Int32))] [(.int (0 : Int32))])) _
                  refine XS.iload X55.here hx rfl (hb hby at_221) rfl ?_
                  show Steps p.tables e below (T55.setTop (mkF m 223 #[.val (.int k0), .val (.int k1), .val (.int (k0 &&& (7 : Int32))), .val (.int ((k1 &&& (7 : Int32)) - (3 : Int32))), .val (.ref w_ROUND), .val (.int (0 : Int32))] [(.int (0 : Int32)), (.int (0 : Int32))])) _
                  refine XS.icmpNo X55.here hx rfl (hb hby at_223) rfl (teq (by decide : (0 : Int32) = (0 : Int32))).2 ?_
                  show Steps p.tables e below (T55.setTop (mkF m 226 #[.val (.int k0), .val (.int k1), .val (.int (k0 &&& (7 : Int32))), .val (.int ((k1 &&& (7 : Int32)) - (3 : Int32))), .val (.ref w_ROUND), .val (.int (0 : Int32))] [])) _
                  refine XS.iconst X55.here hx rfl (hb hby at_226) ?_
                  show Steps p.tables e below (T55.setTop (mkF m 227 #[.val (.int k0), .val (.int k1), .val (.int (k0 &&& (7 : Int32))), .val (.int ((k1 &&& (7 : Int32)) - (3 : Int32))), .val (.ref w_ROUND), .val (.int (0 : Int32))] [(.int (1 : Int32))])) _
                  refine XS.goto X55.here hx rfl (pc0 := 227) (pc' := 231) rfl (hb hby at_227) (by decide) (by decide) ?_
                  show Steps p.tables e below (T55.setTop (mkF m 231 #[.val (.int k0), .val (.int k1), .val (.int (k0 &&& (7 : Int32))), .val (.int ((k1 &&& (7 : Int32)) - (3 : Int32))), .val (.ref w_ROUND), .val (.int (0 : Int32))] [(.int (1 : Int32))])) _
                  exact k_)
                obtain ⟨fs, hr, hrun, hended, hW, hsame⟩ := X55.leave (v := some (.int (1 : Int32))) (fun h => by rw [Bd.returns] at h; cases h)
                refine ⟨_, _, pre56 _ ?_, hrun, hended, _, _, rfl, ?_, ⟨_, rfl⟩, hW, hsame.mono (by decide) (by decide)⟩
                · show Steps p.tables e below (T55.setTop (mkF m 231 #[.val (.int k0), .val (.int k1), .val (.int (k0 &&& (7 : Int32))), .val (.int ((k1 &&& (7 : Int32)) - (3 : Int32))), .val (.ref w_ROUND), .val (.int (0 : Int32))] [(.int (1 : Int32))])) _
                  exact retN X55 hx (t := .boolean) Bd.returns (by simp) (hb hby at_231) hr
                · show Q_0 Z k0 k1 w_MIN w_MOD w_ROUND w_POW w_LOG w_CEIL w_MAX w_FLOOR h0 n0 _ T55.heap _
                  rw [e55]
                  exact ⟨rfl, N55⟩
            · have pre57 : ∀ t_, Steps p.tables e below (s₁.setTop (mkF m 149 #[.val (.int k0), .val (.int k1), .val (.int (k0 &&& (7 : Int32))), .val (.int ((k1 &&& (7 : Int32)) - (3 : Int32))), .unset, .unset] [(.int (5 : Int32)), (.int (k0 &&& (7 : Int32)))])) t_ → Steps p.tables e below (s₁.setTop (entryFrame m #[(.int k0), (.int k1)] maxLocals)) t_ := fun t_ k_ => pre48 t_ (by
                show Steps p.tables e below (s₁.setTop (mkF m 124 #[.val (.int k0), .val (.int k1), .val (.int (k0 &&& (7 : Int32))), .val (.int ((k1 &&& (7 : Int32)) - (3 : Int32))), .unset, .unset] [(.int (4 : Int32)), (.int (k0 &&& (7 : Int32)))])) _
                refine XS.icmpYes X0.here hx rfl (pc0 := 124) (pc' := 147) rfl (hb hby at_124) rfl (feq hc124_49).2 (by decide) (by decide) ?_
                show Steps p.tables e below (s₁.setTop (mkF m 147 #[.val (.int k0), .val (.int k1), .val (.int (k0 &&& (7 : Int32))), .val (.int ((k1 &&& (7 : Int32)) - (3 : Int32))), .unset, .unset] [])) _
                refine XS.iloadN X0.here hx rfl (hb hby at_147) rfl ?_
                show Steps p.tables e below (s₁.setTop (mkF m 148 #[.val (.int k0), .val (.int k1), .val (.int (k0 &&& (7 : Int32))), .val (.int ((k1 &&& (7 : Int32)) - (3 : Int32))), .unset, .unset] [(.int (k0 &&& (7 : Int32)))])) _
                refine XS.iconst X0.here hx rfl (hb hby at_148) ?_
                show Steps p.tables e below (s₁.setTop (mkF m 149 #[.val (.int k0), .val (.int k1), .val (.int (k0 &&& (7 : Int32))), .val (.int ((k1 &&& (7 : Int32)) - (3 : Int32))), .unset, .unset] [(.int (5 : Int32)), (.int (k0 &&& (7 : Int32)))])) _
                exact k_)
              by_cases hc149_58 : (k0 &&& (7 : Int32)) = (5 : Int32)
              · obtain ⟨T59, X59, e59, st59⟩ := getS2 X0 hx hZ hown (host := "") (Or.inl (hw _ (List.mem_of_getElem? (i := 16) rfl))) Via.refl e0 S_POW (g := (mkF m 152 #[.val (.int k0), .val (.int k1), .val (.int (k0 &&& (7 : Int32))), .val (.int ((k1 &&& (7 : Int32)) - (3 : Int32))), .unset, .unset] [])) rfl (hb hby at_152)
                have pre60 : ∀ t_, Steps p.tables e below (T59.setTop (mkF m 159 #[.val (.int k0), .val (.int k1), .val (.int (k0 &&& (7 : Int32))), .val (.int ((k1 &&& (7 : Int32)) - (3 : Int32))), .val (.ref w_POW), .unset] [(.int (2 : Int32)), (.int ((k1 &&& (7 : Int32)) - (3 : Int32)))])) t_ → Steps p.tables e below (s₁.setTop (entryFrame m #[(.int k0), (.int k1)] maxLocals)) t_ := fun t_ k_ => pre57 t_ (by
                  show Steps p.tables e below (s₁.setTop (mkF m 149 #[.val (.int k0), .val (.int k1), .val (.int (k0 &&& (7 : Int32))), .val (.int ((k1 &&& (7 : Int32)) - (3 : Int32))), .unset, .unset] [(.int (5 : Int32)), (.int (k0 &&& (7 : Int32)))])) _
                  refine XS.icmpNo X0.here hx rfl (hb hby at_149) rfl (teq hc149_58).2 ?_
                  show Steps p.tables e below (s₁.setTop (mkF m 152 #[.val (.int k0), .val (.int k1), .val (.int (k0 &&& (7 : Int32))), .val (.int ((k1 &&& (7 : Int32)) - (3 : Int32))), .unset, .unset] [])) _
                  refine st59 _ ?_
                  show Steps p.tables e below (T59.setTop (mkF m 155 #[.val (.int k0), .val (.int k1), .val (.int (k0 &&& (7 : Int32))), .val (.int ((k1 &&& (7 : Int32)) - (3 : Int32))), .unset, .unset] [(.ref w_POW)])) _
                  refine XS.astore X59.here hx rfl (hb hby at_155) rfl rfl (l' := #[.val (.int k0), .val (.int k1), .val (.int (k0 &&& (7 : Int32))), .val (.int ((k1 &&& (7 : Int32)) - (3 : Int32))), .val (.ref w_POW), .unset]) rfl ?_
                  show Steps p.tables e below (T59.setTop (mkF m 157 #[.val (.int k0), .val (.int k1), .val (.int (k0 &&& (7 : Int32))), .val (.int ((k1 &&& (7 : Int32)) - (3 : Int32))), .val (.ref w_POW), .unset] [])) _
                  refine XS.iloadN X59.here hx rfl (hb hby at_157) rfl ?_
                  show Steps p.tables e below (T59.setTop (mkF m 158 #[.val (.int k0), .val (.int k1), .val (.int (k0 &&& (7 : Int32))), .val (.int ((k1 &&& (7 : Int32)) - (3 : Int32))), .val (.ref w_POW), .unset] [(.int ((k1 &&& (7 : Int32)) - (3 : Int32)))])) _
                  refine XS.iconst X59.here hx rfl (hb hby at_158) ?_
                  show Steps p.tables e below (T59.setTop (mkF m 159 #[.val (.int k0), .val (.int k1), .val (.int (k0 &&& (7 : Int32))), .val (.int ((k1 &&& (7 : Int32)) - (3 : Int32))), .val (.ref w_POW), .unset] [(.int (2 : Int32)), (.int ((k1 &&& (7 : Int32)) - (3 : Int32)))])) _
                  exact k_)
                by_cases hc159_61 : ((k1 &&& (7 : Int32)) - (3 : Int32)) = (2 : Int32)
                · obtain ⟨cq62, kq62, q62a, q62b, q62c⟩ := isOf hZ e59 E_POW
                  obtain ⟨v62, _, ⟨T62, L62, k62, n62⟩, -, X62, ⟨Lc62, hQ62, l62, y62, z62⟩, st62⟩ := X59.virtualBack hx (y := (⟨"com/example/atropos/atropos/lang/BuiltInFunction", "takes", "(I)Z"⟩ : MethodName)) (z := (⟨"com/example/atropos/atropos/lang/BuiltInFunction", "takes", "(I)Z"⟩ : MethodName)) hown (mvT hZ (hw _ (List.mem_of_getElem? (i := 3) rfl))) (mvT hZ (hw _ (List.mem_of_getElem? (i := 4) rfl))) (notFace_of_selects (args := #[]) (mvT hZ (hw _ (List.mem_of_getElem? (i := 6) rfl)))) (mvT hZ (hw _ (List.mem_of_getElem? (i := 6) rfl))) (mvT hZ (hw _ (List.mem_of_getElem? (i := 5) rfl))) (by decide) (backOf (W := 0) (rm_1 l Z a0 hw [] w_POW ((k1 &&& (7 : Int32)) - (3 : Int32)) (2 : Int32) (2 : Int32) h0 n0 Z0 F_POW_fewestArguments F_POW_mostArguments) hZ (hw _ (List.mem_of_getElem? (i := 7) rfl)) (hw _ (List.mem_of_getElem? (i := 1) rfl)) (by decide) (by decide)) q62a q62c (g := (mkF m 218 #[.val (.int k0), .val (.int k1), .val (.int (k0 &&& (7 : Int32))), .val (.int ((k1 &&& (7 : Int32)) - (3 : Int32))), .val (.ref w_POW), .val (.int (1 : Int32))] [(.int ((k1 &&& (7 : Int32)) - (3 : Int32))), (.ref w_POW)])) rfl (by rw [hml]; rfl) (Steps.refl _) (argsL := [(.int ((k1 &&& (7 : Int32)) - (3 : Int32)))]) (rest := []) (lenOf pd_0 rfl) rfl (by show 2 * 0 + _ ≤ _; exact Nat.le_of_eq rfl) (hb hby at_218) (fun _ _ => ⟨rfl, e59, (by decide : 0 + 0 ≤ _), (by decide : 0 + 0 ≤ _)⟩)
                  dsimp only [Pt.U, Pt.locs, Pt.cells, Pt.slots] at X62 l62 y62 z62 st62 hQ62
                  subst l62 y62 z62
                  obtain ⟨hv62, N62q, e62⟩ := hQ62
                  have N62 := Fr.app N0 N62q
                  have hw62 : v62 = some (.int (1 : Int32)) := hv62.trans (congrArg (fun z => some (Value.int z)) (own_eq hc159_61))
                  subst hw62
                  have pre63 : ∀ t_, Steps p.tables e below (T62.setTop (mkF m 231 #[.val (.int k0), .val (.int k1), .val (.int (k0 &&& (7 : Int32))), .val (.int ((k1 &&& (7 : Int32)) - (3 : Int32))), .val (.ref w_POW), .val (.int (1 : Int32))] [(.int (1 : Int32))])) t_ → Steps p.tables e below (s₁.setTop (entryFrame m #[(.int k0), (.int k1)] maxLocals)) t_ := fun t_ k_ => pre60 t_ (by
                    show Steps p.tables e below (T59.setTop (mkF m 159 #[.val (.int k0), .val (.int k1), .val (.int (k0 &&& (7 : Int32))), .val (.int ((k1 &&& (7 : Int32)) - (3 : Int32))), .val (.ref w_POW), .unset] [(.int (2 : Int32)), (.int ((k1 &&& (7 : Int32)) - (3 : Int32)))])) _
                    refine XS.icmpNo X59.here hx rfl (hb hby at_159) rfl (teq hc159_61).2 ?_
                    show Steps p.tables e below (T59.setTop (mkF m 162 #[.val (.int k0), .val (.int k1), .val (.int (k0 &&& (7 : Int32))), .val (.int ((k1 &&& (7 : Int32)) - (3 : Int32))), .val (.ref w_POW), .unset] [])) _
                    refine XS.iconst X59.here hx rfl (hb hby at_162) ?_
                    show Steps p.tables e below (T59.setTop (mkF m 163 #[.val (.int k0), .val (.int k1), .val (.int (k0 &&& (7 : Int32))), .val (.int ((k1 &&& (7 : Int32)) - (3 : Int32))), .val (.ref w_POW), .unset] [(.int (1 : Int32))])) _
                    refine XS.goto X59.here hx rfl (pc0 := 163) (pc' := 167) rfl (hb hby at_163) (by decide) (by decide) ?_
                    show Steps p.tables e below (T59.setTop (mkF m 167 #[.val (.int k0), .val (.int k1), .val (.int (k0 &&& (7 : Int32))), .val (.int ((k1 &&& (7 : Int32)) - (3 : Int32))), .val (.ref w_POW), .unset] [(.int (1 : Int32))])) _
                    refine XS.istore X59.here hx rfl (hb hby at_167) rfl (l' := #[.val (.int k0), .val (.int k1), .val (.int (k0 &&& (7 : Int32))), .val (.int ((k1 &&& (7 : Int32)) - (3 : Int32))), .val (.ref w_POW), .val (.int (1 : Int32))]) rfl ?_
                    show Steps p.tables e below (T59.setTop (mkF m 169 #[.val (.int k0), .val (.int k1), .val (.int (k0 &&& (7 : Int32))), .val (.int ((k1 &&& (7 : Int32)) - (3 : Int32))), .val (.ref w_POW), .val (.int (1 : Int32))] [])) _
                    refine XS.goto X59.here hx rfl (pc0 := 169) (pc' := 215) rfl (hb hby at_169) (by decide) (by decide) ?_
                    show Steps p.tables e below (T59.setTop (mkF m 215 #[.val (.int k0), .val (.int k1), .val (.int (k0 &&& (7 : Int32))), .val (.int ((k1 &&& (7 : Int32)) - (3 : Int32))), .val (.ref w_POW), .val (.int (1 : Int32))] [])) _
                    refine XS.aload X59.here hx rfl (hb hby at_215) rfl rfl ?_
                    show Steps p.tables e below (T59.setTop (mkF m 217 #[.val (.int k0), .val (.int k1), .val (.int (k0 &&& (7 : Int32))), .val (.int ((k1 &&& (7 : Int32)) - (3 : Int32))), .val (.ref w_POW), .val (.int (1 : Int32))] [(.ref w_POW)])) _
                    refine XS.iloadN X59.here hx rfl (hb hby at_217) rfl ?_
                    show Steps p.tables e below (T59.setTop (mkF m 218 #[.val (.int k0), .val (.int k1), .val (.int (k0 &&& (7 : Int32))), .val (.int ((k1 &&& (7 : Int32)) - (3 : Int32))), .val (.ref w_POW), .val (.int (1 : Int32))] [(.int ((k1 &&& (7 : Int32)) - (3 : Int32))), (.ref w_POW)])) _
                    refine st62.trans ?_
                    show Steps p.tables e below (T62.setTop (mkF m 221 #[.val (.int k0), .val (.int k1), .val (.int (k0 &&& (7 : Int32))), .val (.int ((k1 &&& (7 : Int32)) - (3 : Int32))), .val (.ref w_POW), .val (.int (1 : Int32))] [(.int (1 : Int32))])) _
                    refine XS.iload X62.here hx rfl (hb hby at_221) rfl ?_
                    show Steps p.tables e below (T62.setTop (mkF m 223 #[.val (.int k0), .val (.int k1), .val (.int (k0 &&& (7 : Int32))), .val (.int ((k1 &&& (7 : Int32)) - (3 : Int32))), .val (.ref w_POW), .val (.int (1 : Int32))] [(.int (1 : Int32)), (.int (1 : Int32))])) _
                    refine XS.icmpNo X62.here hx rfl (hb hby at_223) rfl (teq (by decide : (1 : Int32) = (1 : Int32))).2 ?_
                    show Steps p.tables e below (T62.setTop (mkF m 226 #[.val (.int k0), .val (.int k1), .val (.int (k0 &&& (7 : Int32))), .val (.int ((k1 &&& (7 : Int32)) - (3 : Int32))), .val (.ref w_POW), .val (.int (1 : Int32))] [])) _
                    refine XS.iconst X62.here hx rfl (hb hby at_226) ?_
                    show Steps p.tables e below (T62.setTop (mkF m 227 #[.val (.int k0), .val (.int k1), .val (.int (k0 &&& (7 : Int32))), .val (.int ((k1 &&& (7 : Int32)) - (3 : Int32))), .val (.ref w_POW), .val (.int (1 : Int32))] [(.int (1 : Int32))])) _
                    refine XS.goto X62.here hx rfl (pc0 := 227) (pc' := 231) rfl (hb hby at_227) (by decide) (by decide) ?_
                    show Steps p.tables e below (T62.setTop (mkF m 231 #[.val (.int k0), .val (.int k1), .val (.int (k0 &&& (7 : Int32))), .val (.int ((k1 &&& (7 : Int32)) - (3 : Int32))), .val (.ref w_POW), .val (.int (1 : Int32))] [(.int (1 : Int32))])) _
                    exact k_)
                  obtain ⟨fs, hr, hrun, hended, hW, hsame⟩ := X62.leave (v := some (.int (1 : Int32))) (fun h => by rw [Bd.returns] at h; cases h)
                  refine ⟨_, _, pre63 _ ?_, hrun, hended, _, _, rfl, ?_, ⟨_, rfl⟩, hW, hsame.mono (by decide) (by decide)⟩
                  · show Steps p.tables e below (T62.setTop (mkF m 231 #[.val (.int k0), .val (.int k1), .val (.int (k0 &&& (7 : Int32))), .val (.int ((k1 &&& (7 : Int32)) - (3 : Int32))), .val (.ref w_POW), .val (.int (1 : Int32))] [(.int (1 : Int32))])) _
                    exact retN X62 hx (t := .boolean) Bd.returns (by simp) (hb hby at_231) hr
                  · show Q_0 Z k0 k1 w_MIN w_MOD w_ROUND w_POW w_LOG w_CEIL w_MAX w_FLOOR h0 n0 _ T62.heap _
                    rw [e62]
                    exact ⟨rfl, N62⟩
                · obtain ⟨cq64, kq64, q64a, q64b, q64c⟩ := isOf hZ e59 E_POW
                  obtain ⟨v64, _, ⟨T64, L64, k64, n64⟩, -, X64, ⟨Lc64, hQ64, l64, y64, z64⟩, st64⟩ := X59.virtualBack hx (y := (⟨"com/example/atropos/atropos/lang/BuiltInFunction", "takes", "(I)Z"⟩ : MethodName)) (z := (⟨"com/example/atropos/atropos/lang/BuiltInFunction", "takes", "(I)Z"⟩ : MethodName)) hown (mvT hZ (hw _ (List.mem_of_getElem? (i := 3) rfl))) (mvT hZ (hw _ (List.mem_of_getElem? (i := 4) rfl))) (notFace_of_selects (args := #[]) (mvT hZ (hw _ (List.mem_of_getElem? (i := 6) rfl)))) (mvT hZ (hw _ (List.mem_of_getElem? (i := 6) rfl))) (mvT hZ (hw _ (List.mem_of_getElem? (i := 5) rfl))) (by decide) (backOf (W := 0) (rm_1 l Z a0 hw [] w_POW ((k1 &&& (7 : Int32)) - (3 : Int32)) (2 : Int32) (2 : Int32) h0 n0 Z0 F_POW_fewestArguments F_POW_mostArguments) hZ (hw _ (List.mem_of_getElem? (i := 7) rfl)) (hw _ (List.mem_of_getElem? (i := 1) rfl)) (by decide) (by decide)) q64a q64c (g := (mkF m 218 #[.val (.int k0), .val (.int k1), .val (.int (k0 &&& (7 : Int32))), .val (.int ((k1 &&& (7 : Int32)) - (3 : Int32))), .val (.ref w_POW), .val (.int (0 : Int32))] [(.int ((k1 &&& (7 : Int32)) - (3 : Int32))), (.ref w_POW)])) rfl (by rw [hml]; rfl) (Steps.refl _) (argsL := [(.int ((k1 &&& (7 : Int32)) - (3 : Int32)))]) (rest := []) (lenOf pd_0 rfl) rfl (by show 2 * 0 + _ ≤ _; exact Nat.le_of_eq rfl) (hb hby at_218) (fun _ _ => ⟨rfl, e59, (by decide : 0 + 0 ≤ _), (by decide : 0 + 0 ≤ _)⟩)
                  dsimp only [Pt.U, Pt.locs, Pt.cells, Pt.slots] at X64 l64 y64 z64 st64 hQ64
                  subst l64 y64 z64
                  obtain ⟨hv64, N64q, e64⟩ := hQ64
                  have N64 := Fr.app N0 N64q
                  have hw64 : v64 = some (.int (0 : Int32)) := hv64.trans (congrArg (fun z => some (Value.int z)) (own_ne hc159_61))
                  subst hw64
                  have pre65 : ∀ t_, Steps p.tables e below (T64.setTop (mkF m 231 #[.val (.int k0), .val (.int k1), .val (.int (k0 &&& (7 : Int32))), .val (.int ((k1 &&& (7 : Int32)) - (3 : Int32))), .val (.ref w_POW), .val (.int (0 : Int32))] [(.int (1 : Int32))])) t_ → Steps p.tables e below (s₁.setTop (entryFrame m #[(.int k0), (.int k1)] maxLocals)) t_ := fun t_ k_ => pre60 t_ (by
                    show Steps p.tables e below (T59.setTop (mkF m 159 #[.val (.int k0), .val (.int k1), .val (.int (k0 &&& (7 : Int32))), .val (.int ((k1 &&& (7 : Int32)) - (3 : Int32))), .val (.ref w_POW), .unset] [(.int (2 : Int32)), (.int ((k1 &&& (7 : Int32)) - (3 : Int32)))])) _
                    refine XS.icmpYes X59.here hx rfl (pc0 := 159) (pc' := 166) rfl (hb hby at_159) rfl (feq hc159_61).2 (by decide) (by decide) ?_
                    show Steps p.tables e below (T59.setTop (mkF m 166 #[.val (.int k0), .val (.int k1), .val (.int (k0 &&& (7 : Int32))), .val (.int ((k1 &&& (7 : Int32)) - (3 : Int32))), .val (.ref w_POW), .unset] [])) _
                    refine XS.iconst X59.here hx rfl (hb hby at_166) ?_
                    show Steps p.tables e below (T59.setTop (mkF m 167 #[.val (.int k0), .val (.int k1), .val (.int (k0 &&& (7 : Int32))), .val (.int ((k1 &&& (7 : Int32)) - (3 : Int32))), .val (.ref w_POW), .unset] [(.int (0 : Int32))])) _
                    refine XS.istore X59.here hx rfl (hb hby at_167) rfl (l' := #[.val (.int k0), .val (.int k1), .val (.int (k0 &&& (7 : Int32))), .val (.int ((k1 &&& (7 : Int32)) - (3 : Int32))), .val (.ref w_POW), .val (.int (0 : Int32))]) rfl ?_
                    show Steps p.tables e below (T59.setTop (mkF m 169 #[.val (.int k0), .val (.int k1), .val (.int (k0 &&& (7 : Int32))), .val (.int ((k1 &&& (7 : Int32)) - (3 : Int32))), .val (.ref w_POW), .val (.int (0 : Int32))] [])) _
                    refine XS.goto X59.here hx rfl (pc0 := 169) (pc' := 215) rfl (hb hby at_169) (by decide) (by decide) ?_
                    show Steps p.tables e below (T59.setTop (mkF m 215 #[.val (.int k0), .val (.int k1), .val (.int (k0 &&& (7 : Int32))), .val (.int ((k1 &&& (7 : Int32)) - (3 : Int32))), .val (.ref w_POW), .val (.int (0 : Int32))] [])) _
                    refine XS.aload X59.here hx rfl (hb hby at_215) rfl rfl ?_
                    show Steps p.tables e below (T59.setTop (mkF m 217 #[.val (.int k0), .val (.int k1), .val (.int (k0 &&& (7 : Int32))), .val (.int ((k1 &&& (7 : Int32)) - (3 : Int32))), .val (.ref w_POW), .val (.int (0 : Int32))] [(.ref w_POW)])) _
                    refine XS.iloadN X59.here hx rfl (hb hby at_217) rfl ?_
                    show Steps p.tables e below (T59.setTop (mkF m 218 #[.val (.int k0), .val (.int k1), .val (.int (k0 &&& (7 : Int32))), .val (.int ((k1 &&& (7 : Int32)) - (3 : Int32))), .val (.ref w_POW), .val (.int (0 : Int32))] [(.int ((k1 &&& (7 : Int32)) - (3 : Int32))), (.ref w_POW)])) _
                    refine st64.trans ?_
                    show Steps p.tables e below (T64.setTop (mkF m 221 #[.val (.int k0), .val (.int k1), .val (.int (k0 &&& (7 : Int32))), .val (.int ((k1 &&& (7 : Int32)) - (3 : Int32))), .val (.ref w_POW), .val (.int (0 : Int32))] [(.int (0 : Int32))])) _
                    refine XS.iload X64.here hx rfl (hb hby at_221) rfl ?_
                    show Steps p.tables e below (T64.setTop (mkF m 223 #[.val (.int k0), .val (.int k1), .val (.int (k0 &&& (7 : Int32))), .val (.int ((k1 &&& (7 : Int32)) - (3 : Int32))), .val (.ref w_POW), .val (.int (0 : Int32))] [(.int (0 : Int32)), (.int (0 : Int32))])) _
                    refine XS.icmpNo X64.here hx rfl (hb hby at_223) rfl (teq (by decide : (0 : Int32) = (0 : Int32))).2 ?_
                    show Steps p.tables e below (T64.setTop (mkF m 226 #[.val (.int k0), .val (.int k1), .val (.int (k0 &&& (7 : Int32))), .val (.int ((k1 &&& (7 : Int32)) - (3 : Int32))), .val (.ref w_POW), .val (.int (0 : Int32))] [])) _
                    refine XS.iconst X64.here hx rfl (hb hby at_226) ?_
                    show Steps p.tables e below (T64.setTop (mkF m 227 #[.val (.int k0), .val (.int k1), .val (.int (k0 &&& (7 : Int32))), .val (.int ((k1 &&& (7 : Int32)) - (3 : Int32))), .val (.ref w_POW), .val (.int (0 : Int32))] [(.int (1 : Int32))])) _
                    refine XS.goto X64.here hx rfl (pc0 := 227) (pc' := 231) rfl (hb hby at_227) (by decide) (by decide) ?_
                    show Steps p.tables e below (T64.setTop (mkF m 231 #[.val (.int k0), .val (.int k1), .val (.int (k0 &&& (7 : Int32))), .val (.int ((k1 &&& (7 : Int32)) - (3 : Int32))), .val (.ref w_POW), .val (.int (0 : Int32))] [(.int (1 : Int32))])) _
                    exact k_)
                  obtain ⟨fs, hr, hrun, hended, hW, hsame⟩ := X64.leave (v := some (.int (1 : Int32))) (fun h => by rw [Bd.returns] at h; cases h)
                  refine ⟨_, _, pre65 _ ?_, hrun, hended, _, _, rfl, ?_, ⟨_, rfl⟩, hW, hsame.mono (by decide) (by decide)⟩
                  · show Steps p.tables e below (T64.setTop (mkF m 231 #[.val (.int k0), .val (.int k1), .val (.int (k0 &&& (7 : Int32))), .val (.int ((k1 &&& (7 : Int32)) - (3 : Int32))), .val (.ref w_POW), .val (.int (0 : Int32))] [(.int (1 : Int32))])) _
                    exact retN X64 hx (t := .boolean) Bd.returns (by simp) (hb hby at_231) hr
                  · show Q_0 Z k0 k1 w_MIN w_MOD w_ROUND w_POW w_LOG w_CEIL w_MAX w_FLOOR h0 n0 _ T64.heap _
                    rw [e64]
                    exact ⟨rfl, N64⟩
              · have pre66 : ∀ t_, Steps p.tables e below (s₁.setTop (mkF m 175 #[.val (.int k0), .val (.int k1), .val (.int (k0 &&& (7 : Int32))), .val (.int ((k1 &&& (7 : Int32)) - (3 : Int32))), .unset, .unset] [(.int (6 : Int32)), (.int (k0 &&& (7 : Int32)))])) t_ → Steps p.tables e below (s₁.setTop (entryFrame m #[(.int k0), (.int k1)] maxLocals)) t_ := fun t_ k_ => pre57 t_ (by
                  show Steps p.tables e below (s₁.setTop (mkF m 149 #[.val (.int k0), .val (.int k1), .val (.int (k0 &&& (7 : Int32))), .val (.int ((k1 &&& (7 : Int32)) - (3 : Int32))), .unset, .unset] [(.int (5 : Int32)), (.int (k0 &&& (7 : Int32)))])) _
                  refine XS.icmpYes X0.here hx rfl (pc0 := 149) (pc' := 172) rfl (hb hby at_149) rfl (feq hc149_58).2 (by decide) (by decide) ?_
                  show Steps p.tables e below (s₁.setTop (mkF m 172 #[.val (.int k0), .val (.int k1), .val (.int (k0 &&& (7 : Int32))), .val (.int ((k1 &&& (7 : Int32)) - (3 : Int32))), .unset, .unset] [])) _
                  refine XS.iloadN X0.here hx rfl (hb hby at_172) rfl ?_
                  show Steps p.tables e below (s₁.setTop (mkF m 173 #[.val (.int k0), .val (.int k1), .val (.int (k0 &&& (7 : Int32))), .val (.int ((k1 &&& (7 : Int32)) - (3 : Int32))), .unset, .unset] [(.int (k0 &&& (7 : Int32)))])) _
                  refine XS.bipush X0.here hx rfl (hb hby at_173) ?_
                  show Steps p.tables e below (s₁.setTop (mkF m 175 #[.val (.int k0), .val (.int k1), .val (.int (k0 &&& (7 : Int32))), .val (.int ((k1 &&& (7 : Int32)) - (3 : Int32))), .unset, .unset] [(.int (6 : Int32)), (.int (k0 &&& (7 : Int32)))])) _
                  exact k_)
                by_cases hc175_67 : (k0 &&& (7 : Int32)) = (6 : Int32)
                · obtain ⟨T68, X68, e68, st68⟩ := getS2 X0 hx hZ hown (host := "") (Or.inl (hw _ (List.mem_of_getElem? (i := 10) rfl))) Via.refl e0 S_MOD (g := (mkF m 178 #[.val (.int k0), .val (.int k1), .val (.int (k0 &&& (7 : Int32))), .val (.int ((k1 &&& (7 : Int32)) - (3 : Int32))), .unset, .unset] [])) rfl (hb hby at_178)
                  have pre69 : ∀ t_, Steps p.tables e below (T68.setTop (mkF m 185 #[.val (.int k0), .val (.int k1), .val (.int (k0 &&& (7 : Int32))), .val (.int ((k1 &&& (7 : Int32)) - (3 : Int32))), .val (.ref w_MOD), .unset] [(.int (2 : Int32)), (.int ((k1 &&& (7 : Int32)) - (3 : Int32)))])) t_ → Steps p.tables e below (s₁.setTop (entryFrame m #[(.int k0), (.int k1)] maxLocals)) t_ := fun t_ k_ => pre66 t_ (by
                    show Steps p.tables e below (s₁.setTop (mkF m 175 #[.val (.int k0), .val (.int k1), .val (.int (k0 &&& (7 : Int32))), .val (.int ((k1 &&& (7 : Int32)) - (3 : Int32))), .unset, .unset] [(.int (6 : Int32)), (.int (k0 &&& (7 : Int32)))])) _
                    refine XS.icmpNo X0.here hx rfl (hb hby at_175) rfl (teq hc175_67).2 ?_
                    show Steps p.tables e below (s₁.setTop (mkF m 178 #[.val (.int k0), .val (.int k1), .val (.int (k0 &&& (7 : Int32))), .val (.int ((k1 &&& (7 : Int32)) - (3 : Int32))), .unset, .unset] [])) _
                    refine st68 _ ?_
                    show Steps p.tables e below (T68.setTop (mkF m 181 #[.val (.int k0), .val (.int k1), .val (.int (k0 &&& (7 : Int32))), .val (.int ((k1 &&& (7 : Int32)) - (3 : Int32))), .unset, .unset] [(.ref w_MOD)])) _
                    refine XS.astore X68.here hx rfl (hb hby at_181) rfl rfl (l' := #[.val (.int k0), .val (.int k1), .val (.int (k0 &&& (7 : Int32))), .val (.int ((k1 &&& (7 : Int32)) - (3 : Int32))), .val (.ref w_MOD), .unset]) rfl ?_
                    show Steps p.tables e below (T68.setTop (mkF m 183 #[.val (.int k0), .val (.int k1), .val (.int (k0 &&& (7 : Int32))), .val (.int ((k1 &&& (7 : Int32)) - (3 : Int32))), .val (.ref w_MOD), .unset] [])) _
                    refine XS.iloadN X68.here hx rfl (hb hby at_183) rfl ?_
                    show Steps p.tables e below (T68.setTop (mkF m 184 #[.val (.int k0), .val (.int k1), .val (.int (k0 &&& (7 : Int32))), .val (.int ((k1 &&& (7 : Int32)) - (3 : Int32))), .val (.ref w_MOD), .unset] [(.int ((k1 &&& (7 : Int32)) - (3 : Int32)))])) _
                    refine XS.iconst X68.here hx rfl (hb hby at_184) ?_
                    show Steps p.tables e below (T68.setTop (mkF m 185 #[.val (.int k0), .val (.int k1), .val (.int (k0 &&& (7 : Int32))), .val (.int ((k1 &&& (7 : Int32)) - (3 : Int32))), .val (.ref w_MOD), .unset] [(.int (2 : Int32)), (.int ((k1 &&& (7 : Int32)) - (3 : Int32)))])) _
                    exact k_)
                  by_cases hc185_70 : ((k1 &&& (7 : Int32)) - (3 : Int32)) = (2 : Int32)
                  · obtain ⟨cq71, kq71, q71a, q71b, q71c⟩ := isOf hZ e68 E_MOD
                    obtain ⟨v71, _, ⟨T71, L71, k71, n71⟩, -, X71, ⟨Lc71, hQ71, l71, y71, z71⟩, st71⟩ := X68.virtualBack hx (y := (⟨"com/example/atropos/atropos/lang/BuiltInFunction", "takes", "(I)Z"⟩ : MethodName)) (z := (⟨"com/example/atropos/atropos/lang/BuiltInFunction", "takes", "(I)Z"⟩ : MethodName)) hown (mvT hZ (hw _ (List.mem_of_getElem? (i := 3) rfl))) (mvT hZ (hw _ (List.mem_of_getElem? (i := 4) rfl))) (notFace_of_selects (args := #[]) (mvT hZ (hw _ (List.mem_of_getElem? (i := 6) rfl)))) (mvT hZ (hw _ (List.mem_of_getElem? (i := 6) rfl))) (mvT hZ (hw _ (List.mem_of_getElem? (i := 5) rfl))) (by decide) (backOf (W := 0) (rm_1 l Z a0 hw [] w_MOD ((k1 &&& (7 : Int32)) - (3 : Int32)) (2 : Int32) (2 : Int32) h0 n0 Z0 F_MOD_fewestArguments F_MOD_mostArguments) hZ (hw _ (List.mem_of_getElem? (i := 7) rfl)) (hw _ (List.mem_of_getElem? (i := 1) rfl)) (by decide) (by decide)) q71a q71c (g := (mkF m 218 #[.val (.int k0), .val (.int k1), .val (.int (k0 &&& (7 : Int32))), .val (.int ((k1 &&& (7 : Int32)) - (3 : Int32))), .val (.ref w_MOD), .val (.int (1 : Int32))] [(.int ((k1 &&& (7 : Int32)) - (3 : Int32))), (.ref w_MOD)])) rfl (by rw [hml]; rfl) (Steps.refl _) (argsL := [(.int ((k1 &&& (7 : Int32)) - (3 : Int32)))]) (rest := []) (lenOf pd_0 rfl) rfl (by show 2 * 0 + _ ≤ _; exact Nat.le_of_eq rfl) (hb hby at_218) (fun _ _ => ⟨rfl, e68, (by decide : 0 + 0 ≤ _), (by decide : 0 + 0 ≤ _)⟩)
                    dsimp only [Pt.U, Pt.locs, Pt.cells, Pt.slots] at X71 l71 y71 z71 st71 hQ71
                    subst l71 y71 z71
                    obtain ⟨hv71, N71q, e71⟩ := hQ71
                    have N71 := Fr.app N0 N71q
                    have hw71 : v71 = some (.int (1 : Int32)) := hv71.trans (congrArg (fun z => some (Value.int z)) (own_eq hc185_70))
                    subst hw71
                    have pre72 : ∀ t_, Steps p.tables e below (T71.setTop (mkF m 231 #[.val (.int k0), .val (.int k1), .val (.int (k0 &&& (7 : Int32))), .val (.int ((k1 &&& (7 : Int32)) - (3 : Int32))), .val (.ref w_MOD), .val (.int (1 : Int32))] [(.int (1 : Int32))])) t_ → Steps p.tables e below (s₁.setTop (entryFrame m #[(.int k0), (.int k1)] maxLocals)) t_ := fun t_ k_ => pre69 t_ (by
                      show Steps p.tables e below (T68.setTop (mkF m 185 #[.val (.int k0), .val (.int k1), .val (.int (k0 &&& (7 : Int32))), .val (.int ((k1 &&& (7 : Int32)) - (3 : Int32))), .val (.ref w_MOD), .unset] [(.int (2 : Int32)), (.int ((k1 &&& (7 : Int32)) - (3 : Int32)))])) _
                      refine XS.icmpNo X68.here hx rfl (hb hby at_185) rfl (teq hc185_70).2 ?_
                      show Steps p.tables e below (T68.setTop (mkF m 188 #[.val (.int k0), .val (.int k1), .val (.int (k0 &&& (7 : Int32))), .val (.int ((k1 &&& (7 : Int32)) - (3 : Int32))), .val (.ref w_MOD), .unset] [])) _
                      refine XS.iconst X68.here hx rfl (hb hby at_188) ?_
                      show Steps p.tables e below (T68.setTop (mkF m 189 #[.val (.int k0), .val (.int k1), .val (.int (k0 &&& (7 : Int32))), .val (.int ((k1 &&& (7 : Int32)) - (3 : Int32))), .val (.ref w_MOD), .unset] [(.int (1 : Int32))])) _
                      refine XS.goto X68.here hx rfl (pc0 := 189) (pc' := 193) rfl (hb hby at_189) (by decide) (by decide) ?_
                      show Steps p.tables e below (T68.setTop (mkF m 193 #[.val (.int k0), .val (.int k1), .val (.int (k0 &&& (7 : Int32))), .val (.int ((k1 &&& (7 : Int32)) - (3 : Int32))), .val (.ref w_MOD), .unset] [(.int (1 : Int32))])) _
                      refine XS.istore X68.here hx rfl (hb hby at_193) rfl (l' := #[.val (.int k0), .val (.int k1), .val (.int (k0 &&& (7 : Int32))), .val (.int ((k1 &&& (7 : Int32)) - (3 : Int32))), .val (.ref w_MOD), .val (.int (1 : Int32))]) rfl ?_
                      show Steps p.tables e below (T68.setTop (mkF m 195 #[.val (.int k0), .val (.int k1), .val (.int (k0 &&& (7 : Int32))), .val (.int ((k1 &&& (7 : Int32)) - (3 : Int32))), .val (.ref w_MOD), .val (.int (1 : Int32))] [])) _
                      refine XS.goto X68.here hx rfl (pc0 := 195) (pc' := 215) rfl (hb hby at_195) (by decide) (by decide) ?_
                      show Steps p.tables e below (T68.setTop (mkF m 215 #[.val (.int k0), .val (.int k1), .val (.int (k0 &&& (7 : Int32))), .val (.int ((k1 &&& (7 : Int32)) - (3 : Int32))), .val (.ref w_MOD), .val (.int (1 : Int32))] [])) _
                      refine XS.aload X68.here hx rfl (hb hby at_215) rfl rfl ?_
                      show Steps p.tables e below (T68.setTop (mkF m 217 #[.val (.int k0), .val (.int k1), .val (.int (k0 &&& (7 : Int32))), .val (.int ((k1 &&& (7 : Int32)) - (3 : Int32))), .val (.ref w_MOD), .val (.int (1 : Int32))] [(.ref w_MOD)])) _
                      refine XS.iloadN X68.here hx rfl (hb hby at_217) rfl ?_
                      show Steps p.tables e below (T68.setTop (mkF m 218 #[.val (.int k0), .val (.int k1), .val (.int (k0 &&& (7 : Int32))), .val (.int ((k1 &&& (7 : Int32)) - (3 : Int32))), .val (.ref w_MOD), .val (.int (1 : Int32))] [(.int ((k1 &&& (7 : Int32)) - (3 : Int32))), (.ref w_MOD)])) _
                      refine st71.trans ?_
                      show Steps p.tables e below (T71.setTop (mkF m 221 #[.val (.int k0), .val (.int k1), .val (.int (k0 &&& (7 : Int32))), .val (.int ((k1 &&& (7 : Int32)) - (3 : Int32))), .val (.ref w_MOD), .val (.int (1 : Int32))] [(.int (1 : Int32))])) _
                      refine XS.iload X71.here hx rfl (hb hby at_221) rfl ?_
                      show Steps p.tables e below (T71.setTop (mkF m 223 #[.val (.int k0), .val (.int k1), .val (.int (k0 &&& (7 : Int32))), .val (.int ((k1 &&& (7 : Int32)) - (3 : Int32))), .val (.ref w_MOD), .val (.int (1 : Int32))] [(.int (1 : Int32)), (.int (1 : Int32))])) _
                      refine XS.icmpNo X71.here hx rfl (hb hby at_223) rfl (teq (by decide : (1 : Int32) = (1 : Int32))).2 ?_
                      show Steps p.tables e below (T71.setTop (mkF m 226 #[.val (.int k0), .val (.int k1), .val (.int (k0 &&& (7 : Int32))), .val (.int ((k1 &&& (7 : Int32)) - (3 : Int32))), .val (.ref w_MOD), .val (.int (1 : Int32))] [])) _
                      refine XS.iconst X71.here hx rfl (hb hby at_226) ?_
                      show Steps p.tables e below (T71.setTop (mkF m 227 #[.val (.int k0), .val (.int k1), .val (.int (k0 &&& (7 : Int32))), .val (.int ((k1 &&& (7 : Int32)) - (3 : Int32))), .val (.ref w_MOD), .val (.int (1 : Int32))] [(.int (1 : Int32))])) _
                      refine XS.goto X71.here hx rfl (pc0 := 227) (pc' := 231) rfl (hb hby at_227) (by decide) (by decide) ?_
                      show Steps p.tables e below (T71.setTop (mkF m 231 #[.val (.int k0), .val (.int k1), .val (.int (k0 &&& (7 : Int32))), .val (.int ((k1 &&& (7 : Int32)) - (3 : Int32))), .val (.ref w_MOD), .val (.int (1 : Int32))] [(.int (1 : Int32))])) _
                      exact k_)
                    obtain ⟨fs, hr, hrun, hended, hW, hsame⟩ := X71.leave (v := some (.int (1 : Int32))) (fun h => by rw [Bd.returns] at h; cases h)
                    refine ⟨_, _, pre72 _ ?_, hrun, hended, _, _, rfl, ?_, ⟨_, rfl⟩, hW, hsame.mono (by decide) (by decide)⟩
                    · show Steps p.tables e below (T71.setTop (mkF m 231 #[.val (.int k0), .val (.int k1), .val (.int (k0 &&& (7 : Int32))), .val (.int ((k1 &&& (7 : Int32)) - (3 : Int32))), .val (.ref w_MOD), .val (.int (1 : Int32))] [(.int (1 : Int32))])) _
                      exact retN X71 hx (t := .boolean) Bd.returns (by simp) (hb hby at_231) hr
                    · show Q_0 Z k0 k1 w_MIN w_MOD w_ROUND w_POW w_LOG w_CEIL w_MAX w_FLOOR h0 n0 _ T71.heap _
                      rw [e71]
                      exact ⟨rfl, N71⟩
                  · obtain ⟨cq73, kq73, q73a, q73b, q73c⟩ := isOf hZ e68 E_MOD
                    obtain ⟨v73, _, ⟨T73, L73, k73, n73⟩, -, X73, ⟨Lc73, hQ73, l73, y73, z73⟩, st73⟩ := X68.virtualBack hx (y := (⟨"com/example/atropos/atropos/lang/BuiltInFunction", "takes", "(I)Z"⟩ : MethodName)) (z := (⟨"com/example/atropos/atropos/lang/BuiltInFunction", "takes", "(I)Z"⟩ : MethodName)) hown (mvT hZ (hw _ (List.mem_of_getElem? (i := 3) rfl))) (mvT hZ (hw _ (List.mem_of_getElem? (i := 4) rfl))) (notFace_of_selects (args := #[]) (mvT hZ (hw _ (List.mem_of_getElem? (i := 6) rfl)))) (mvT hZ (hw _ (List.mem_of_getElem? (i := 6) rfl))) (mvT hZ (hw _ (List.mem_of_getElem? (i := 5) rfl))) (by decide) (backOf (W := 0) (rm_1 l Z a0 hw [] w_MOD ((k1 &&& (7 : Int32)) - (3 : Int32)) (2 : Int32) (2 : Int32) h0 n0 Z0 F_MOD_fewestArguments F_MOD_mostArguments) hZ (hw _ (List.mem_of_getElem? (i := 7) rfl)) (hw _ (List.mem_of_getElem? (i := 1) rfl)) (by decide) (by decide)) q73a q73c (g := (mkF m 218 #[.val (.int k0), .val (.int k1), .val (.int (k0 &&& (7 : Int32))), .val (.int ((k1 &&& (7 : Int32)) - (3 : Int32))), .val (.ref w_MOD), .val (.int (0 : Int32))] [(.int ((k1 &&& (7 : Int32)) - (3 : Int32))), (.ref w_MOD)])) rfl (by rw [hml]; rfl) (Steps.refl _) (argsL := [(.int ((k1 &&& (7 : Int32)) - (3 : Int32)))]) (rest := []) (lenOf pd_0 rfl) rfl (by show 2 * 0 + _ ≤ _; exact Nat.le_of_eq rfl) (hb hby at_218) (fun _ _ => ⟨rfl, e68, (by decide : 0 + 0 ≤ _), (by decide : 0 + 0 ≤ _)⟩)
                    dsimp only [Pt.U, Pt.locs, Pt.cells, Pt.slots] at X73 l73 y73 z73 st73 hQ73
                    subst l73 y73 z73
                    obtain ⟨hv73, N73q, e73⟩ := hQ73
                    have N73 := Fr.app N0 N73q
                    have hw73 : v73 = some (.int (0 : Int32)) := hv73.trans (congrArg (fun z => some (Value.int z)) (own_ne hc185_70))
                    subst hw73
                    have pre74 : ∀ t_, Steps p.tables e below (T73.setTop (mkF m 231 #[.val (.int k0), .val (.int k1), .val (.int (k0 &&& (7 : Int32))), .val (.int ((k1 &&& (7 : Int32)) - (3 : Int32))), .val (.ref w_MOD), .val (.int (0 : Int32))] [(.int (1 : Int32))])) t_ → Steps p.tables e below (s₁.setTop (entryFrame m #[(.int k0), (.int k1)] maxLocals)) t_ := fun t_ k_ => pre69 t_ (by
                      show Steps p.tables e below (T68.setTop (mkF m 185 #[.val (.int k0), .val (.int k1), .val (.int (k0 &&& (7 : Int32))), .val (.int ((k1 &&& (7 : Int32)) - (3 : Int32))), .val (.ref w_MOD), .unset] [(.int (2 : Int32)), (.int ((k1 &&& (7 : Int32)) - (3 : Int32)))])) _
                      refine XS.icmpYes X68.here hx rfl (pc0 := 185) (pc' := 192) rfl (hb hby at_185) rfl (feq hc185_70).2 (by decide) (by decide) ?_
                      show Steps p.tables e below (T68.setTop (mkF m 192 #[.val (.int k0), .val (.int k1), .val (.int (k0 &&& (7 : Int32))), .val (.int ((k1 &&& (7 : Int32)) - (3 : Int32))), .val (.ref w_MOD), .unset] [])) _
                      refine XS.iconst X68.here hx rfl (hb hby at_192) ?_
                      show Steps p.tables e below (T68.setTop (mkF m 193 #[.val (.int k0), .val (.int k1), .val (.int (k0 &&& (7 : Int32))), .val (.int ((k1 &&& (7 : Int32)) - (3 : Int32))), .val (.ref w_MOD), .unset] [(.int (0 : Int32))])) _
                      refine XS.istore X68.here hx rfl (hb hby at_193) rfl (l' := #[.val (.int k0), .val (.int k1), .val (.int (k0 &&& (7 : Int32))), .val (.int ((k1 &&& (7 : Int32)) - (3 : Int32))), .val (.ref w_MOD), .val (.int (0 : Int32))]) rfl ?_
                      show Steps p.tables e below (T68.setTop (mkF m 195 #[.val (.int k0), .val (.int k1), .val (.int (k0 &&& (7 : Int32))), .val (.int ((k1 &&& (7 : Int32)) - (3 : Int32))), .val (.ref w_MOD), .val (.int (0 : Int32))] [])) _
                      refine XS.goto X68.here hx rfl (pc0 := 195) (pc' := 215) rfl (hb hby at_195) (by decide) (by decide) ?_
                      show Steps p.tables e below (T68.setTop (mkF m 215 #[.val (.int k0), .val (.int k1), .val (.int (k0 &&& (7 : Int32))), .val (.int ((k1 &&& (7 : Int32)) - (3 : Int32))), .val (.ref w_MOD), .val (.int (0 : Int32))] [])) _
                      refine XS.aload X68.here hx rfl (hb hby at_215) rfl rfl ?_
                      show Steps p.tables e below (T68.setTop (mkF m 217 #[.val (.int k0), .val (.int k1), .val (.int (k0 &&& (7 : Int32))), .val (.int ((k1 &&& (7 : Int32)) - (3 : Int32))), .val (.ref w_MOD), .val (.int (0 : Int32))] [(.ref w_MOD)])) _
                      refine XS.iloadN X68.here hx rfl (hb hby at_217) rfl ?_
                      show Steps p.tables e below (T68.setTop (mkF m 218 #[.val (.int k0), .val (.int k1), .val (.int (k0 &&& (7 : Int32))), .val (.int ((k1 &&& (7 : Int32)) - (3 : Int32))), .val (.ref w_MOD), .val (.int (0 : Int32))] [(.int ((k1 &&& (7 : Int32)) - (3 : Int32))), (.ref w_MOD)])) _
                      refine st73.trans ?_
                      show Steps p.tables e below (T73.setTop (mkF m 221 #[.val (.int k0), .val (.int k1), .val (.int (k0 &&& (7 : Int32))), .val (.int ((k1 &&& (7 : Int32)) - (3 : Int32))), .val (.ref w_MOD), .val (.int (0 : Int32))] [(.int (0 : Int32))])) _
                      refine XS.iload X73.here hx rfl (hb hby at_221) rfl ?_
                      show Steps p.tables e below (T73.setTop (mkF m 223 #[.val (.int k0), .val (.int k1), .val (.int (k0 &&& (7 : Int32))), .val (.int ((k1 &&& (7 : Int32)) - (3 : Int32))), .val (.ref w_MOD), .val (.int (0 : Int32))] [(.int (0 : Int32)), (.int (0 : Int32))])) _
                      refine XS.icmpNo X73.here hx rfl (hb hby at_223) rfl (teq (by decide : (0 : Int32) = (0 : Int32))).2 ?_
                      show Steps p.tables e below (T73.setTop (mkF m 226 #[.val (.int k0), .val (.int k1), .val (.int (k0 &&& (7 : Int32))), .val (.int ((k1 &&& (7 : Int32)) - (3 : Int32))), .val (.ref w_MOD), .val (.int (0 : Int32))] [])) _
                      refine XS.iconst X73.here hx rfl (hb hby at_226) ?_
                      show Steps p.tables e below (T73.setTop (mkF m 227 #[.val (.int k0), .val (.int k1), .val (.int (k0 &&& (7 : Int32))), .val (.int ((k1 &&& (7 : Int32)) - (3 : Int32))), .val (.ref w_MOD), .val (.int (0 : Int32))] [(.int (1 : Int32))])) _
                      refine XS.goto X73.here hx rfl (pc0 := 227) (pc' := 231) rfl (hb hby at_227) (by decide) (by decide) ?_
                      show Steps p.tables e below (T73.setTop (mkF m 231 #[.val (.int k0), .val (.int k1), .val (.int (k0 &&& (7 : Int32))), .val (.int ((k1 &&& (7 : Int32)) - (3 : Int32))), .val (.ref w_MOD), .val (.int (0 : Int32))] [(.int (1 : Int32))])) _
                      exact k_)
                    obtain ⟨fs, hr, hrun, hended, hW, hsame⟩ := X73.leave (v := some (.int (1 : Int32))) (fun h => by rw [Bd.returns] at h; cases h)
                    refine ⟨_, _, pre74 _ ?_, hrun, hended, _, _, rfl, ?_, ⟨_, rfl⟩, hW, hsame.mono (by decide) (by decide)⟩
                    · show Steps p.tables e below (T73.setTop (mkF m 231 #[.val (.int k0), .val (.int k1), .val (.int (k0 &&& (7 : Int32))), .val (.int ((k1 &&& (7 : Int32)) - (3 : Int32))), .val (.ref w_MOD), .val (.int (0 : Int32))] [(.int (1 : Int32))])) _
                      exact retN X73 hx (t := .boolean) Bd.returns (by simp) (hb hby at_231) hr
                    · show Q_0 Z k0 k1 w_MIN w_MOD w_ROUND w_POW w_LOG w_CEIL w_MAX w_FLOOR h0 n0 _ T73.heap _
                      rw [e73]
                      exact ⟨rfl, N73⟩
                · obtain ⟨T75, X75, e75, st75⟩ := getS2 X0 hx hZ hown (host := "") (Or.inl (hw _ (List.mem_of_getElem? (i := 18) rfl))) Via.refl e0 S_LOG (g := (mkF m 198 #[.val (.int k0), .val (.int k1), .val (.int (k0 &&& (7 : Int32))), .val (.int ((k1 &&& (7 : Int32)) - (3 : Int32))), .unset, .unset] [])) rfl (hb hby at_198)
                  have pre76 : ∀ t_, Steps p.tables e below (T75.setTop (mkF m 205 #[.val (.int k0), .val (.int k1), .val (.int (k0 &&& (7 : Int32))), .val (.int ((k1 &&& (7 : Int32)) - (3 : Int32))), .val (.ref w_LOG), .unset] [(.int (2 : Int32)), (.int ((k1 &&& (7 : Int32)) - (3 : Int32)))])) t_ → Steps p.tables e below (s₁.setTop (entryFrame m #[(.int k0), (.int k1)] maxLocals)) t_ := fun t_ k_ => pre66 t_ (by
                    show Steps p.tables e below (s₁.setTop (mkF m 175 #[.val (.int k0), .val (.int k1), .val (.int (k0 &&& (7 : Int32))), .val (.int ((k1 &&& (7 : Int32)) - (3 : Int32))), .unset, .unset] [(.int (6 : Int32)), (.int (k0 &&& (7 : Int32)))])) _
                    refine XS.icmpYes X0.here hx rfl (pc0 := 175) (pc' := 198) rfl (hb hby at_175) rfl (feq hc175_67).2 (by decide) (by decide) ?_
                    show Steps p.tables e below (s₁.setTop (mkF m 198 #[.val (.int k0), .val (.int k1), .val (.int (k0 &&& (7 : Int32))), .val (.int ((k1 &&& (7 : Int32)) - (3 : Int32))), .unset, .unset] [])) _
                    refine st75 _ ?_
                    show Steps p.tables e below (T75.setTop (mkF m 201 #[.val (.int k0), .val (.int k1), .val (.int (k0 &&& (7 : Int32))), .val (.int ((k1 &&& (7 : Int32)) - (3 : Int32))), .unset, .unset] [(.ref w_LOG)])) _
                    refine XS.astore X75.here hx rfl (hb hby at_201) rfl rfl (l' := #[.val (.int k0), .val (.int k1), .val (.int (k0 &&& (7 : Int32))), .val (.int ((k1 &&& (7 : Int32)) - (3 : Int32))), .val (.ref w_LOG), .unset]) rfl ?_
                    show Steps p.tables e below (T75.setTop (mkF m 203 #[.val (.int k0), .val (.int k1), .val (.int (k0 &&& (7 : Int32))), .val (.int ((k1 &&& (7 : Int32)) - (3 : Int32))), .val (.ref w_LOG), .unset] [])) _
                    refine XS.iloadN X75.here hx rfl (hb hby at_203) rfl ?_
                    show Steps p.tables e below (T75.setTop (mkF m 204 #[.val (.int k0), .val (.int k1), .val (.int (k0 &&& (7 : Int32))), .val (.int ((k1 &&& (7 : Int32)) - (3 : Int32))), .val (.ref w_LOG), .unset] [(.int ((k1 &&& (7 : Int32)) - (3 : Int32)))])) _
                    refine XS.iconst X75.here hx rfl (hb hby at_204) ?_
                    show Steps p.tables e below (T75.setTop (mkF m 205 #[.val (.int k0), .val (.int k1), .val (.int (k0 &&& (7 : Int32))), .val (.int ((k1 &&& (7 : Int32)) - (3 : Int32))), .val (.ref w_LOG), .unset] [(.int (2 : Int32)), (.int ((k1 &&& (7 : Int32)) - (3 : Int32)))])) _
                    exact k_)
                  by_cases hc205_77 : ((k1 &&& (7 : Int32)) - (3 : Int32)) = (2 : Int32)
                  · obtain ⟨cq78, kq78, q78a, q78b, q78c⟩ := isOf hZ e75 E_LOG
                    obtain ⟨v78, _, ⟨T78, L78, k78, n78⟩, -, X78, ⟨Lc78, hQ78, l78, y78, z78⟩, st78⟩ := X75.virtualBack hx (y := (⟨"com/example/atropos/atropos/lang/BuiltInFunction", "takes", "(I)Z"⟩ : MethodName)) (z := (⟨"com/example/atropos/atropos/lang/BuiltInFunction", "takes", "(I)Z"⟩ : MethodName)) hown (mvT hZ (hw _ (List.mem_of_getElem? (i := 3) rfl))) (mvT hZ (hw _ (List.mem_of_getElem? (i := 4) rfl))) (notFace_of_selects (args := #[]) (mvT hZ (hw _ (List.mem_of_getElem? (i := 6) rfl)))) (mvT hZ (hw _ (List.mem_of_getElem? (i := 6) rfl))) (mvT hZ (hw _ (List.mem_of_getElem? (i := 5) rfl))) (by decide) (backOf (W := 0) (rm_1 l Z a0 hw [] w_LOG ((k1 &&& (7 : Int32)) - (3 : Int32)) (2 : Int32) (2 : Int32) h0 n0 Z0 F_LOG_fewestArguments F_LOG_mostArguments) hZ (hw _ (List.mem_of_getElem? (i := 7) rfl)) (hw _ (List.mem_of_getElem? (i := 1) rfl)) (by decide) (by decide)) q78a q78c (g := (mkF m 218 #[.val (.int k0), .val (.int k1), .val (.int (k0 &&& (7 : Int32))), .val (.int ((k1 &&& (7 : Int32)) - (3 : Int32))), .val (.ref w_LOG), .val (.int (1 : Int32))] [(.int ((k1 &&& (7 : Int32)) - (3 : Int32))), (.ref w_LOG)])) rfl (by rw [hml]; rfl) (Steps.refl _) (argsL := [(.int ((k1 &&& (7 : Int32)) - (3 : Int32)))]) (rest := []) (lenOf pd_0 rfl) rfl (by show 2 * 0 + _ ≤ _; exact Nat.le_of_eq rfl) (hb hby at_218) (fun _ _ => ⟨rfl, e75, (by decide : 0 + 0 ≤ _), (by decide : 0 + 0 ≤ _)⟩)
                    dsimp only [Pt.U, Pt.locs, Pt.cells, Pt.slots] at X78 l78 y78 z78 st78 hQ78
                    subst l78 y78 z78
                    obtain ⟨hv78, N78q, e78⟩ := hQ78
                    have N78 := Fr.app N0 N78q
                    have hw78 : v78 = some (.int (1 : Int32)) := hv78.trans (congrArg (fun z => some (Value.int z)) (own_eq hc205_77))
                    subst hw78
                    have pre79 : ∀ t_, Steps p.tables e below (T78.setTop (mkF m 231 #[.val (.int k0), .val (.int k1), .val (.int (k0 &&& (7 : Int32))), .val (.int ((k1 &&& (7 : Int32)) - (3 : Int32))), .val (.ref w_LOG), .val (.int (1 : Int32))] [(.int (1 : Int32))])) t_ → Steps p.tables e below (s₁.setTop (entryFrame m #[(.int k0), (.int k1)] maxLocals)) t_ := fun t_ k_ => pre76 t_ (by
                      show Steps p.tables e below (T75.setTop (mkF m 205 #[.val (.int k0), .val (.int k1), .val (.int (k0 &&& (7 : Int32))), .val (.int ((k1 &&& (7 : Int32)) - (3 : Int32))), .val (.ref w_LOG), .unset] [(.int (2 : Int32)), (.int ((k1 &&& (7 : Int32)) - (3 : Int32)))])) _
                      refine XS.icmpNo X75.here hx rfl (hb hby at_205) rfl (teq hc205_77).2 ?_
                      show Steps p.tables e below (T75.setTop (mkF m 208 #[.val (.int k0), .val (.int k1), .val (.int (k0 &&& (7 : Int32))), .val (.int ((k1 &&& (7 : Int32)) - (3 : Int32))), .val (.ref w_LOG), .unset] [])) _
                      refine XS.iconst X75.here hx rfl (hb hby at_208) ?_
                      show Steps p.tables e below (T75.setTop (mkF m 209 #[.val (.int k0), .val (.int k1), .val (.int (k0 &&& (7 : Int32))), .val (.int ((k1 &&& (7 : Int32)) - (3 : Int32))), .val (.ref w_LOG), .unset] [(.int (1 : Int32))])) _
                      refine XS.goto X75.here hx rfl (pc0 := 209) (pc' := 213) rfl (hb hby at_209) (by decide) (by decide) ?_
                      show Steps p.tables e below (T75.setTop (mkF m 213 #[.val (.int k0), .val (.int k1), .val (.int (k0 &&& (7 : Int32))), .val (.int ((k1 &&& (7 : Int32)) - (3 : Int32))), .val (.ref w_LOG), .unset] [(.int (1 : Int32))])) _
                      refine XS.istore X75.here hx rfl (hb hby at_213) rfl (l' := #[.val (.int k0), .val (.int k1), .val (.int (k0 &&& (7 : Int32))), .val (.int ((k1 &&& (7 : Int32)) - (3 : Int32))), .val (.ref w_LOG), .val (.int (1 : Int32))]) rfl ?_
                      show Steps p.tables e below (T75.setTop (mkF m 215 #[.val (.int k0), .val (.int k1), .val (.int (k0 &&& (7 : Int32))), .val (.int ((k1 &&& (7 : Int32)) - (3 : Int32))), .val (.ref w_LOG), .val (.int (1 : Int32))] [])) _
                      refine XS.aload X75.here hx rfl (hb hby at_215) rfl rfl ?_
                      show Steps p.tables e below (T75.setTop (mkF m 217 #[.val (.int k0), .val (.int k1), .val (.int (k0 &&& (7 : Int32))), .val (.int ((k1 &&& (7 : Int32)) - (3 : Int32))), .val (.ref w_LOG), .val (.int (1 : Int32))] [(.ref w_LOG)])) _
                      refine XS.iloadN X75.here hx rfl (hb hby at_217) rfl ?_
                      show Steps p.tables e below (T75.setTop (mkF m 218 #[.val (.int k0), .val (.int k1), .val (.int (k0 &&& (7 : Int32))), .val (.int ((k1 &&& (7 : Int32)) - (3 : Int32))), .val (.ref w_LOG), .val (.int (1 : Int32))] [(.int ((k1 &&& (7 : Int32)) - (3 : Int32))), (.ref w_LOG)])) _
                      refine st78.trans ?_
                      show Steps p.tables e below (T78.setTop (mkF m 221 #[.val (.int k0), .val (.int k1), .val (.int (k0 &&& (7 : Int32))), .val (.int ((k1 &&& (7 : Int32)) - (3 : Int32))), .val (.ref w_LOG), .val (.int (1 : Int32))] [(.int (1 : Int32))])) _
                      refine XS.iload X78.here hx rfl (hb hby at_221) rfl ?_
                      show Steps p.tables e below (T78.setTop (mkF m 223 #[.val (.int k0), .val (.int k1), .val (.int (k0 &&& (7 : Int32))), .val (.int ((k1 &&& (7 : Int32)) - (3 : Int32))), .val (.ref w_LOG), .val (.int (1 : Int32))] [(.int (1 : Int32)), (.int (1 : Int32))])) _
                      refine XS.icmpNo X78.here hx rfl (hb hby at_223) rfl (teq (by decide : (1 : Int32) = (1 : Int32))).2 ?_
                      show Steps p.tables e below (T78.setTop (mkF m 226 #[.val (.int k0), .val (.int k1), .val (.int (k0 &&& (7 : Int32))), .val (.int ((k1 &&& (7 : Int32)) - (3 : Int32))), .val (.ref w_LOG), .val (.int (1 : Int32))] [])) _
                      refine XS.iconst X78.here hx rfl (hb hby at_226) ?_
                      show Steps p.tables e below (T78.setTop (mkF m 227 #[.val (.int k0), .val (.int k1), .val (.int (k0 &&& (7 : Int32))), .val (.int ((k1 &&& (7 : Int32)) - (3 : Int32))), .val (.ref w_LOG), .val (.int (1 : Int32))] [(.int (1 : Int32))])) _
                      refine XS.goto X78.here hx rfl (pc0 := 227) (pc' := 231) rfl (hb hby at_227) (by decide) (by decide) ?_
                      show Steps p.tables e below (T78.setTop (mkF m 231 #[.val (.int k0), .val (.int k1), .val (.int (k0 &&& (7 : Int32))), .val (.int ((k1 &&& (7 : Int32)) - (3 : Int32))), .val (.ref w_LOG), .val (.int (1 : Int32))] [(.int (1 : Int32))])) _
                      exact k_)
                    obtain ⟨fs, hr, hrun, hended, hW, hsame⟩ := X78.leave (v := some (.int (1 : Int32))) (fun h => by rw [Bd.returns] at h; cases h)
                    refine ⟨_, _, pre79 _ ?_, hrun, hended, _, _, rfl, ?_, ⟨_, rfl⟩, hW, hsame.mono (by decide) (by decide)⟩
                    · show Steps p.tables e below (T78.setTop (mkF m 231 #[.val (.int k0), .val (.int k1), .val (.int (k0 &&& (7 : Int32))), .val (.int ((k1 &&& (7 : Int32)) - (3 : Int32))), .val (.ref w_LOG), .val (.int (1 : Int32))] [(.int (1 : Int32))])) _
                      exact retN X78 hx (t := .boolean) Bd.returns (by simp) (hb hby at_231) hr
                    · show Q_0 Z k0 k1 w_MIN w_MOD w_ROUND w_POW w_LOG w_CEIL w_MAX w_FLOOR h0 n0 _ T78.heap _
                      rw [e78]
                      exact ⟨rfl, N78⟩
                  · obtain ⟨cq80, kq80, q80a, q80b, q80c⟩ := isOf hZ e75 E_LOG
                    obtain ⟨v80, _, ⟨T80, L80, k80, n80⟩, -, X80, ⟨Lc80, hQ80, l80, y80, z80⟩, st80⟩ := X75.virtualBack hx (y := (⟨"com/example/atropos/atropos/lang/BuiltInFunction", "takes", "(I)Z"⟩ : MethodName)) (z := (⟨"com/example/atropos/atropos/lang/BuiltInFunction", "takes", "(I)Z"⟩ : MethodName)) hown (mvT hZ (hw _ (List.mem_of_getElem? (i := 3) rfl))) (mvT hZ (hw _ (List.mem_of_getElem? (i := 4) rfl))) (notFace_of_selects (args := #[]) (mvT hZ (hw _ (List.mem_of_getElem? (i := 6) rfl)))) (mvT hZ (hw _ (List.mem_of_getElem? (i := 6) rfl))) (mvT hZ (hw _ (List.mem_of_getElem? (i := 5) rfl))) (by decide) (backOf (W := 0) (rm_1 l Z a0 hw [] w_LOG ((k1 &&& (7 : Int32)) - (3 : Int32)) (2 : Int32) (2 : Int32) h0 n0 Z0 F_LOG_fewestArguments F_LOG_mostArguments) hZ (hw _ (List.mem_of_getElem? (i := 7) rfl)) (hw _ (List.mem_of_getElem? (i := 1) rfl)) (by decide) (by decide)) q80a q80c (g := (mkF m 218 #[.val (.int k0), .val (.int k1), .val (.int (k0 &&& (7 : Int32))), .val (.int ((k1 &&& (7 : Int32)) - (3 : Int32))), .val (.ref w_LOG), .val (.int (0 : Int32))] [(.int ((k1 &&& (7 : Int32)) - (3 : Int32))), (.ref w_LOG)])) rfl (by rw [hml]; rfl) (Steps.refl _) (argsL := [(.int ((k1 &&& (7 : Int32)) - (3 : Int32)))]) (rest := []) (lenOf pd_0 rfl) rfl (by show 2 * 0 + _ ≤ _; exact Nat.le_of_eq rfl) (hb hby at_218) (fun _ _ => ⟨rfl, e75, (by decide : 0 + 0 ≤ _), (by decide : 0 + 0 ≤ _)⟩)
                    dsimp only [Pt.U, Pt.locs, Pt.cells, Pt.slots] at X80 l80 y80 z80 st80 hQ80
                    subst l80 y80 z80
                    obtain ⟨hv80, N80q, e80⟩ := hQ80
                    have N80 := Fr.app N0 N80q
                    have hw80 : v80 = some (.int (0 : Int32)) := hv80.trans (congrArg (fun z => some (Value.int z)) (own_ne hc205_77))
                    subst hw80
                    have pre81 : ∀ t_, Steps p.tables e below (T80.setTop (mkF m 231 #[.val (.int k0), .val (.int k1), .val (.int (k0 &&& (7 : Int32))), .val (.int ((k1 &&& (7 : Int32)) - (3 : Int32))), .val (.ref w_LOG), .val (.int (0 : Int32))] [(.int (1 : Int32))])) t_ → Steps p.tables e below (s₁.setTop (entryFrame m #[(.int k0), (.int k1)] maxLocals)) t_ := fun t_ k_ => pre76 t_ (by
                      show Steps p.tables e below (T75.setTop (mkF m 205 #[.val (.int k0), .val (.int k1), .val (.int (k0 &&& (7 : Int32))), .val (.int ((k1 &&& (7 : Int32)) - (3 : Int32))), .val (.ref w_LOG), .unset] [(.int (2 : Int32)), (.int ((k1 &&& (7 : Int32)) - (3 : Int32)))])) _
                      refine XS.icmpYes X75.here hx rfl (pc0 := 205) (pc' := 212) rfl (hb hby at_205) rfl (feq hc205_77).2 (by decide) (by decide) ?_
                      show Steps p.tables e below (T75.setTop (mkF m 212 #[.val (.int k0), .val (.int k1), .val (.int (k0 &&& (7 : Int32))), .val (.int ((k1 &&& (7 : Int32)) - (3 : Int32))), .val (.ref w_LOG), .unset] [])) _
                      refine XS.iconst X75.here hx rfl (hb hby at_212) ?_
                      show Steps p.tables e below (T75.setTop (mkF m 213 #[.val (.int k0), .val (.int k1), .val (.int (k0 &&& (7 : Int32))), .val (.int ((k1 &&& (7 : Int32)) - (3 : Int32))), .val (.ref w_LOG), .unset] [(.int (0 : Int32))])) _
                      refine XS.istore X75.here hx rfl (hb hby at_213) rfl (l' := #[.val (.int k0), .val (.int k1), .val (.int (k0 &&& (7 : Int32))), .val (.int ((k1 &&& (7 : Int32)) - (3 : Int32))), .val (.ref w_LOG), .val (.int (0 : Int32))]) rfl ?_
                      show Steps p.tables e below (T75.setTop (mkF m 215 #[.val (.int k0), .val (.int k1), .val (.int (k0 &&& (7 : Int32))), .val (.int ((k1 &&& (7 : Int32)) - (3 : Int32))), .val (.ref w_LOG), .val (.int (0 : Int32))] [])) _
                      refine XS.aload X75.here hx rfl (hb hby at_215) rfl rfl ?_
                      show Steps p.tables e below (T75.setTop (mkF m 217 #[.val (.int k0), .val (.int k1), .val (.int (k0 &&& (7 : Int32))), .val (.int ((k1 &&& (7 : Int32)) - (3 : Int32))), .val (.ref w_LOG), .val (.int (0 : Int32))] [(.ref w_LOG)])) _
                      refine XS.iloadN X75.here hx rfl (hb hby at_217) rfl ?_
                      show Steps p.tables e below (T75.setTop (mkF m 218 #[.val (.int k0), .val (.int k1), .val (.int (k0 &&& (7 : Int32))), .val (.int ((k1 &&& (7 : Int32)) - (3 : Int32))), .val (.ref w_LOG), .val (.int (0 : Int32))] [(.int ((k1 &&& (7 : Int32)) - (3 : Int32))), (.ref w_LOG)])) _
                      refine st80.trans ?_
                      show Steps p.tables e below (T80.setTop (mkF m 221 #[.val (.int k0), .val (.int k1), .val (.int (k0 &&& (7 : Int32))), .val (.int ((k1 &&& (7 : Int32)) - (3 : Int32))), .val (.ref w_LOG), .val (.int (0 : Int32))] [(.int (0 : Int32))])) _
                      refine XS.iload X80.here hx rfl (hb hby at_221) rfl ?_
                      show Steps p.tables e below (T80.setTop (mkF m 223 #[.val (.int k0), .val (.int k1), .val (.int (k0 &&& (7 : Int32))), .val (.int ((k1 &&& (7 : Int32)) - (3 : Int32))), .val (.ref w_LOG), .val (.int (0 : Int32))] [(.int (0 : Int32)), (.int (0 : Int32))])) _
                      refine XS.icmpNo X80.here hx rfl (hb hby at_223) rfl (teq (by decide : (0 : Int32) = (0 : Int32))).2 ?_
                      show Steps p.tables e below (T80.setTop (mkF m 226 #[.val (.int k0), .val (.int k1), .val (.int (k0 &&& (7 : Int32))), .val (.int ((k1 &&& (7 : Int32)) - (3 : Int32))), .val (.ref w_LOG), .val (.int (0 : Int32))] [])) _
                      refine XS.iconst X80.here hx rfl (hb hby at_226) ?_
                      show Steps p.tables e below (T80.setTop (mkF m 227 #[.val (.int k0), .val (.int k1), .val (.int (k0 &&& (7 : Int32))), .val (.int ((k1 &&& (7 : Int32)) - (3 : Int32))), .val (.ref w_LOG), .val (.int (0 : Int32))] [(.int (1 : Int32))])) _
                      refine XS.goto X80.here hx rfl (pc0 := 227) (pc' := 231) rfl (hb hby at_227) (by decide) (by decide) ?_
                      show Steps p.tables e below (T80.setTop (mkF m 231 #[.val (.int k0), .val (.int k1), .val (.int (k0 &&& (7 : Int32))), .val (.int ((k1 &&& (7 : Int32)) - (3 : Int32))), .val (.ref w_LOG), .val (.int (0 : Int32))] [(.int (1 : Int32))])) _
                      exact k_)
                    obtain ⟨fs, hr, hrun, hended, hW, hsame⟩ := X80.leave (v := some (.int (1 : Int32))) (fun h => by rw [Bd.returns] at h; cases h)
                    refine ⟨_, _, pre81 _ ?_, hrun, hended, _, _, rfl, ?_, ⟨_, rfl⟩, hW, hsame.mono (by decide) (by decide)⟩
                    · show Steps p.tables e below (T80.setTop (mkF m 231 #[.val (.int k0), .val (.int k1), .val (.int (k0 &&& (7 : Int32))), .val (.int ((k1 &&& (7 : Int32)) - (3 : Int32))), .val (.ref w_LOG), .val (.int (0 : Int32))] [(.int (1 : Int32))])) _
                      exact retN X80 hx (t := .boolean) Bd.returns (by simp) (hb hby at_231) hr
                    · show Q_0 Z k0 k1 w_MIN w_MOD w_ROUND w_POW w_LOG w_CEIL w_MAX w_FLOOR h0 n0 _ T80.heap _
                      rw [e80]
                      exact ⟨rfl, N80⟩
  · have pre82 : ∀ t_, Steps p.tables e below (s₁.setTop (mkF m 24 #[.val (.int k0), .val (.int k1), .val (.int (k0 &&& (7 : Int32))), .val (.int k1), .unset, .unset] [(.int (k0 &&& (7 : Int32)))])) t_ → Steps p.tables e below (s₁.setTop (entryFrame m #[(.int k0), (.int k1)] maxLocals)) t_ := fun t_ k_ => pre10 t_ (by
      show Steps p.tables e below (s₁.setTop (mkF m 9 #[.val (.int k0), .val (.int k1), .val (.int (k0 &&& (7 : Int32))), .unset, .unset, .unset] [(.int (k0 &&& (8 : Int32)))])) _
      refine XS.ifNo X0.here hx rfl (hb hby at_9) rfl ((if0 _ _).trans (feq hc9_11).1) ?_
      show Steps p.tables e below (s₁.setTop (mkF m 12 #[.val (.int k0), .val (.int k1), .val (.int (k0 &&& (7 : Int32))), .unset, .unset, .unset] [])) _
      refine XS.iloadN X0.here hx rfl (hb hby at_12) rfl ?_
      show Steps p.tables e below (s₁.setTop (mkF m 13 #[.val (.int k0), .val (.int k1), .val (.int (k0 &&& (7 : Int32))), .unset, .unset, .unset] [(.int k1)])) _
      refine XS.goto X0.here hx rfl (pc0 := 13) (pc' := 22) rfl (hb hby at_13) (by decide) (by decide) ?_
      show Steps p.tables e below (s₁.setTop (mkF m 22 #[.val (.int k0), .val (.int k1), .val (.int (k0 &&& (7 : Int32))), .unset, .unset, .unset] [(.int k1)])) _
      refine XS.istoreN X0.here hx rfl (hb hby at_22) rfl (l' := #[.val (.int k0), .val (.int k1), .val (.int (k0 &&& (7 : Int32))), .val (.int k1), .unset, .unset]) rfl ?_
      show Steps p.tables e below (s₁.setTop (mkF m 23 #[.val (.int k0), .val (.int k1), .val (.int (k0 &&& (7 : Int32))), .val (.int k1), .unset, .unset] [])) _
      refine XS.iloadN X0.here hx rfl (hb hby at_23) rfl ?_
      show Steps p.tables e below (s₁.setTop (mkF m 24 #[.val (.int k0), .val (.int k1), .val (.int (k0 &&& (7 : Int32))), .val (.int k1), .unset, .unset] [(.int (k0 &&& (7 : Int32)))])) _
      exact k_)
    by_cases hc24_83 : (k0 &&& (7 : Int32)) = (0 : Int32)
    · obtain ⟨T84, X84, e84, st84⟩ := getS2 X0 hx hZ hown (host := "") (Or.inl (hw _ (List.mem_of_getElem? (i := 0) rfl))) Via.refl e0 S_MIN (g := (mkF m 27 #[.val (.int k0), .val (.int k1), .val (.int (k0 &&& (7 : Int32))), .val (.int k1), .unset, .unset] [])) rfl (hb hby at_27)
      have pre85 : ∀ t_, Steps p.tables e below (T84.setTop (mkF m 34 #[.val (.int k0), .val (.int k1), .val (.int (k0 &&& (7 : Int32))), .val (.int k1), .val (.ref w_MIN), .unset] [(.int (2 : Int32)), (.int k1)])) t_ → Steps p.tables e below (s₁.setTop (entryFrame m #[(.int k0), (.int k1)] maxLocals)) t_ := fun t_ k_ => pre82 t_ (by
        show Steps p.tables e below (s₁.setTop (mkF m 24 #[.val (.int k0), .val (.int k1), .val (.int (k0 &&& (7 : Int32))), .val (.int k1), .unset, .unset] [(.int (k0 &&& (7 : Int32)))])) _
        refine XS.ifNo X0.here hx rfl (hb hby at_24) rfl ((if0 _ _).trans (teq hc24_83).2) ?_
        show Steps p.tables e below (s₁.setTop (mkF m 27 #[.val (.int k0), .val (.int k1), .val (.int (k0 &&& (7 : Int32))), .val (.int k1), .unset, .unset] [])) _
        refine st84 _ ?_
        show Steps p.tables e below (T84.setTop (mkF m 30 #[.val (.int k0), .val (.int k1), .val (.int (k0 &&& (7 : Int32))), .val (.int k1), .unset, .unset] [(.ref w_MIN)])) _
        refine XS.astore X84.here hx rfl (hb hby at_30) rfl rfl (l' := #[.val (.int k0), .val (.int k1), .val (.int (k0 &&& (7 : Int32))), .val (.int k1), .val (.ref w_MIN), .unset]) rfl ?_
        show Steps p.tables e below (T84.setTop (mkF m 32 #[.val (.int k0), .val (.int k1), .val (.int (k0 &&& (7 : Int32))), .val (.int k1), .val (.ref w_MIN), .unset] [])) _
        refine XS.iloadN X84.here hx rfl (hb hby at_32) rfl ?_
        show Steps p.tables e below (T84.setTop (mkF m 33 #[.val (.int k0), .val (.int k1), .val (.int (k0 &&& (7 : Int32))), .val (.int k1), .val (.ref w_MIN), .unset] [(.int k1)])) _
        refine XS.iconst X84.here hx rfl (hb hby at_33) ?_
        show Steps p.tables e below (T84.setTop (mkF m 34 #[.val (.int k0), .val (.int k1), .val (.int (k0 &&& (7 : Int32))), .val (.int k1), .val (.ref w_MIN), .unset] [(.int (2 : Int32)), (.int k1)])) _
        exact k_)
      by_cases hc34_86 : k1 < (2 : Int32)
      · obtain ⟨cq87, kq87, q87a, q87b, q87c⟩ := isOf hZ e84 E_MIN
        obtain ⟨v87, _, ⟨T87, L87, k87, n87⟩, -, X87, ⟨Lc87, hQ87, l87, y87, z87⟩, st87⟩ := X84.virtualBack hx (y := (⟨"com/example/atropos/atropos/lang/BuiltInFunction", "takes", "(I)Z"⟩ : MethodName)) (z := (⟨"com/example/atropos/atropos/lang/BuiltInFunction", "takes", "(I)Z"⟩ : MethodName)) hown (mvT hZ (hw _ (List.mem_of_getElem? (i := 3) rfl))) (mvT hZ (hw _ (List.mem_of_getElem? (i := 4) rfl))) (notFace_of_selects (args := #[]) (mvT hZ (hw _ (List.mem_of_getElem? (i := 6) rfl)))) (mvT hZ (hw _ (List.mem_of_getElem? (i := 6) rfl))) (mvT hZ (hw _ (List.mem_of_getElem? (i := 5) rfl))) (by decide) (backOf (W := 0) (rm_1 l Z a0 hw [] w_MIN k1 (2 : Int32) (2147483647 : Int32) h0 n0 Z0 F_MIN_fewestArguments F_MIN_mostArguments) hZ (hw _ (List.mem_of_getElem? (i := 7) rfl)) (hw _ (List.mem_of_getElem? (i := 1) rfl)) (by decide) (by decide)) q87a q87c (g := (mkF m 218 #[.val (.int k0), .val (.int k1), .val (.int (k0 &&& (7 : Int32))), .val (.int k1), .val (.ref w_MIN), .val (.int (0 : Int32))] [(.int k1), (.ref w_MIN)])) rfl (by rw [hml]; rfl) (Steps.refl _) (argsL := [(.int k1)]) (rest := []) (lenOf pd_0 rfl) rfl (by show 2 * 0 + _ ≤ _; exact Nat.le_of_eq rfl) (hb hby at_218) (fun _ _ => ⟨rfl, e84, (by decide : 0 + 0 ≤ _), (by decide : 0 + 0 ≤ _)⟩)
        dsimp only [Pt.U, Pt.locs, Pt.cells, Pt.slots] at X87 l87 y87 z87 st87 hQ87
        subst l87 y87 z87
        obtain ⟨hv87, N87q, e87⟩ := hQ87
        have N87 := Fr.app N0 N87q
        have hw87 : v87 = some (.int (0 : Int32)) := hv87.trans (congrArg (fun z => some (Value.int z)) (own_lt hc34_86))
        subst hw87
        have pre88 : ∀ t_, Steps p.tables e below (T87.setTop (mkF m 231 #[.val (.int k0), .val (.int k1), .val (.int (k0 &&& (7 : Int32))), .val (.int k1), .val (.ref w_MIN), .val (.int (0 : Int32))] [(.int (1 : Int32))])) t_ → Steps p.tables e below (s₁.setTop (entryFrame m #[(.int k0), (.int k1)] maxLocals)) t_ := fun t_ k_ => pre85 t_ (by
          show Steps p.tables e below (T84.setTop (mkF m 34 #[.val (.int k0), .val (.int k1), .val (.int (k0 &&& (7 : Int32))), .val (.int k1), .val (.ref w_MIN), .unset] [(.int (2 : Int32)), (.int k1)])) _
          refine XS.icmpYes X84.here hx rfl (pc0 := 34) (pc' := 41) rfl (hb hby at_34) rfl (tlt hc34_86).1 (by decide) (by decide) ?_
          show Steps p.tables e below (T84.setTop (mkF m 41 #[.val (.int k0), .val (.int k1), .val (.int (k0 &&& (7 : Int32))), .val (.int k1), .val (.ref w_MIN), .unset] [])) _
          refine XS.iconst X84.here hx rfl (hb hby at_41) ?_
          show Steps p.tables e below (T84.setTop (mkF m 42 #[.val (.int k0), .val (.int k1), .val (.int (k0 &&& (7 : Int32))), .val (.int k1), .val (.ref w_MIN), .unset] [(.int (0 : Int32))])) _
          refine XS.istore X84.here hx rfl (hb hby at_42) rfl (l' := #[.val (.int k0), .val (.int k1), .val (.int (k0 &&& (7 : Int32))), .val (.int k1), .val (.ref w_MIN), .val (.int (0 : Int32))]) rfl ?_
          show Steps p.tables e below (T84.setTop (mkF m 44 #[.val (.int k0), .val (.int k1), .val (.int (k0 &&& (7 : Int32))), .val (.int k1), .val (.ref w_MIN), .val (.int (0 : Int32))] [])) _
          refine XS.goto X84.here hx rfl (pc0 := 44) (pc' := 215) rfl (hb hby at_44) (by decide) (by decide) ?_
          show Steps p.tables e below (T84.setTop (mkF m 215 #[.val (.int k0), .val (.int k1), .val (.int (k0 &&& (7 : Int32))), .val (.int k1), .val (.ref w_MIN), .val (.int (0 : Int32))] [])) _
          refine XS.aload X84.here hx rfl (hb hby at_215) rfl rfl ?_
          show Steps p.tables e below (T84.setTop (mkF m 217 #[.val (.int k0), .val (.int k1), .val (.int (k0 &&& (7 : Int32))), .val (.int k1), .val (.ref w_MIN), .val (.int (0 : Int32))] [(.ref w_MIN)])) _
          refine XS.iloadN X84.here hx rfl (hb hby at_217) rfl ?_
          show Steps p.tables e below (T84.setTop (mkF m 218 #[.val (.int k0), .val (.int k1), .val (.int (k0 &&& (7 : Int32))), .val (.int k1), .val (.ref w_MIN), .val (.int (0 : Int32))] [(.int k1), (.ref w_MIN)])) _
          refine st87.trans ?_
          show Steps p.tables e below (T87.setTop (mkF m 221 #[.val (.int k0), .val (.int k1), .val (.int (k0 &&& (7 : Int32))), .val (.int k1), .val (.ref w_MIN), .val (.int (0 : Int32))] [(.int (0 : Int32))])) _
          refine XS.iload X87.here hx rfl (hb hby at_221) rfl ?_
          show Steps p.tables e below (T87.setTop (mkF m 223 #[.val (.int k0), .val (.int k1), .val (.int (k0 &&& (7 : Int32))), .val (.int k1), .val (.ref w_MIN), .val (.int (0 : Int32))] [(.int (0 : Int32)), (.int (0 : Int32))])) _
          refine XS.icmpNo X87.here hx rfl (hb hby at_223) rfl (teq (by decide : (0 : Int32) = (0 : Int32))).2 ?_
          show Steps p.tables e below (T87.setTop (mkF m 226 #[.val (.int k0), .val (.int k1), .val (.int (k0 &&& (7 : Int32))), .val (.int k1), .val (.ref w_MIN), .val (.int (0 : Int32))] [])) _
          refine XS.iconst X87.here hx rfl (hb hby at_226) ?_
          show Steps p.tables e below (T87.setTop (mkF m 227 #[.val (.int k0), .val (.int k1), .val (.int (k0 &&& (7 : Int32))), .val (.int k1), .val (.ref w_MIN), .val (.int (0 : Int32))] [(.int (1 : Int32))])) _
          refine XS.goto X87.here hx rfl (pc0 := 227) (pc' := 231) rfl (hb hby at_227) (by decide) (by decide) ?_
          show Steps p.tables e below (T87.setTop (mkF m 231 #[.val (.int k0), .val (.int k1), .val (.int (k0 &&& (7 : Int32))), .val (.int k1), .val (.ref w_MIN), .val (.int (0 : Int32))] [(.int (1 : Int32))])) _
          exact k_)
        obtain ⟨fs, hr, hrun, hended, hW, hsame⟩ := X87.leave (v := some (.int (1 : Int32))) (fun h => by rw [Bd.returns] at h; cases h)
        refine ⟨_, _, pre88 _ ?_, hrun, hended, _, _, rfl, ?_, ⟨_, rfl⟩, hW, hsame.mono (by decide) (by decide)⟩
        · show Steps p.tables e below (T87.setTop (mkF m 231 #[.val (.int k0), .val (.int k1), .val (.int (k0 &&& (7 : Int32))), .val (.int k1), .val (.ref w_MIN), .val (.int (0 : Int32))] [(.int (1 : Int32))])) _
          exact retN X87 hx (t := .boolean) Bd.returns (by simp) (hb hby at_231) hr
        · show Q_0 Z k0 k1 w_MIN w_MOD w_ROUND w_POW w_LOG w_CEIL w_MAX w_FLOOR h0 n0 _ T87.heap _
          rw [e87]
          exact ⟨rfl, N87⟩
      · obtain ⟨cq89, kq89, q89a, q89b, q89c⟩ := isOf hZ e84 E_MIN
        obtain ⟨v89, _, ⟨T89, L89, k89, n89⟩, -, X89, ⟨Lc89, hQ89, l89, y89, z89⟩, st89⟩ := X84.virtualBack hx (y := (⟨"com/example/atropos/atropos/lang/BuiltInFunction", "takes", "(I)Z"⟩ : MethodName)) (z := (⟨"com/example/atropos/atropos/lang/BuiltInFunction", "takes", "(I)Z"⟩ : MethodName)) hown (mvT hZ (hw _ (List.mem_of_getElem? (i := 3) rfl))) (mvT hZ (hw _ (List.mem_of_getElem? (i := 4) rfl))) (notFace_of_selects (args := #[]) (mvT hZ (hw _ (List.mem_of_getElem? (i := 6) rfl)))) (mvT hZ (hw _ (List.mem_of_getElem? (i := 6) rfl))) (mvT hZ (hw _ (List.mem_of_getElem? (i := 5) rfl))) (by decide) (backOf (W := 0) (rm_1 l Z a0 hw [] w_MIN k1 (2 : Int32) (2147483647 : Int32) h0 n0 Z0 F_MIN_fewestArguments F_MIN_mostArguments) hZ (hw _ (List.mem_of_getElem? (i := 7) rfl)) (hw _ (List.mem_of_getElem? (i := 1) rfl)) (by decide) (by decide)) q89a q89c (g := (mkF m 218 #[.val (.int k0), .val (.int k1), .val (.int (k0 &&& (7 : Int32))), .val (.int k1), .val (.ref w_MIN), .val (.int (1 : Int32))] [(.int k1), (.ref w_MIN)])) rfl (by rw [hml]; rfl) (Steps.refl _) (argsL := [(.int k1)]) (rest := []) (lenOf pd_0 rfl) rfl (by show 2 * 0 + _ ≤ _; exact Nat.le_of_eq rfl) (hb hby at_218) (fun _ _ => ⟨rfl, e84, (by decide : 0 + 0 ≤ _), (by decide : 0 + 0 ≤ _)⟩)
        dsimp only [Pt.U, Pt.locs, Pt.cells, Pt.slots] at X89 l89 y89 z89 st89 hQ89
        subst l89 y89 z89
        obtain ⟨hv89, N89q, e89⟩ := hQ89
        have N89 := Fr.app N0 N89q
        have hw89 : v89 = some (.int (1 : Int32)) := hv89.trans (congrArg (fun z => some (Value.int z)) (own_ge hc34_86))
        subst hw89
        have pre90 : ∀ t_, Steps p.tables e below (T89.setTop (mkF m 231 #[.val (.int k0), .val (.int k1), .val (.int (k0 &&& (7 : Int32))), .val (.int k1), .val (.ref w_MIN), .val (.int (1 : Int32))] [(.int (1 : Int32))])) t_ → Steps p.tables e below (s₁.setTop (entryFrame m #[(.int k0), (.int k1)] maxLocals)) t_ := fun t_ k_ => pre85 t_ (by
          show Steps p.tables e below (T84.setTop (mkF m 34 #[.val (.int k0), .val (.int k1), .val (.int (k0 &&& (7 : Int32))), .val (.int k1), .val (.ref w_MIN), .unset] [(.int (2 : Int32)), (.int k1)])) _
          refine XS.icmpNo X84.here hx rfl (hb hby at_34) rfl (flt hc34_86).1 ?_
          show Steps p.tables e below (T84.setTop (mkF m 37 #[.val (.int k0), .val (.int k1), .val (.int (k0 &&& (7 : Int32))), .val (.int k1), .val (.ref w_MIN), .unset] [])) _
          refine XS.iconst X84.here hx rfl (hb hby at_37) ?_
          show Steps p.tables e below (T84.setTop (mkF m 38 #[.val (.int k0), .val (.int k1), .val (.int (k0 &&& (7 : Int32))), .val (.int k1), .val (.ref w_MIN), .unset] [(.int (1 : Int32))])) _
          refine XS.goto X84.here hx rfl (pc0 := 38) (pc' := 42) rfl (hb hby at_38) (by decide) (by decide) ?_
          show Steps p.tables e below (T84.setTop (mkF m 42 #[.val (.int k0), .val (.int k1), .val (.int (k0 &&& (7 : Int32))), .val (.int k1), .val (.ref w_MIN), .unset] [(.int (1 : Int32))])) _
          refine XS.istore X84.here hx rfl (hb hby at_42) rfl (l' := #[.val (.int k0), .val (.int k1), .val (.int (k0 &&& (7 : Int32))), .val (.int k1), .val (.ref w_MIN), .val (.int (1 : Int32))]) rfl ?_
          show Steps p.tables e below (T84.setTop (mkF m 44 #[.val (.int k0), .val (.int k1), .val (.int (k0 &&& (7 : Int32))), .val (.int k1), .val (.ref w_MIN), .val (.int (1 : Int32))] [])) _
          refine XS.goto X84.here hx rfl (pc0 := 44) (pc' := 215) rfl (hb hby at_44) (by decide) (by decide) ?_
          show Steps p.tables e below (T84.setTop (mkF m 215 #[.val (.int k0), .val (.int k1), .val (.int (k0 &&& (7 : Int32))), .val (.int k1), .val (.ref w_MIN), .val (.int (1 : Int32))] [])) _
          refine XS.aload X84.here hx rfl (hb hby at_215) rfl rfl ?_
          show Steps p.tables e below (T84.setTop (mkF m 217 #[.val (.int k0), .val (.int k1), .val (.int (k0 &&& (7 : Int32))), .val (.int k1), .val (.ref w_MIN), .val (.int (1 : Int32))] [(.ref w_MIN)])) _
          refine XS.iloadN X84.here hx rfl (hb hby at_217) rfl ?_
          show Steps p.tables e below (T84.setTop (mkF m 218 #[.val (.int k0), .val (.int k1), .val (.int (k0 &&& (7 : Int32))), .val (.int k1), .val (.ref w_MIN), .val (.int (1 : Int32))] [(.int k1), (.ref w_MIN)])) _
          refine st89.trans ?_
          show Steps p.tables e below (T89.setTop (mkF m 221 #[.val (.int k0), .val (.int k1), .val (.int (k0 &&& (7 : Int32))), .val (.int k1), .val (.ref w_MIN), .val (.int (1 : Int32))] [(.int (1 : Int32))])) _
          refine XS.iload X89.here hx rfl (hb hby at_221) rfl ?_
          show Steps p.tables e below (T89.setTop (mkF m 223 #[.val (.int k0), .val (.int k1), .val (.int (k0 &&& (7 : Int32))), .val (.int k1), .val (.ref w_MIN), .val (.int (1 : Int32))] [(.int (1 : Int32)), (.int (1 : Int32))])) _
          refine XS.icmpNo X89.here hx rfl (hb hby at_223) rfl (teq (by decide : (1 : Int32) = (1 : Int32))).2 ?_
          show Steps p.tables e below (T89.setTop (mkF m 226 #[.val (.int k0), .val (.int k1), .val (.int (k0 &&& (7 : Int32))), .val (.int k1), .val (.ref w_MIN), .val (.int (1 : Int32))] [])) _
          refine XS.iconst X89.here hx rfl (hb hby at_226) ?_
          show Steps p.tables e below (T89.setTop (mkF m 227 #[.val (.int k0), .val (.int k1), .val (.int (k0 &&& (7 : Int32))), .val (.int k1), .val (.ref w_MIN), .val (.int (1 : Int32))] [(.int (1 : Int32))])) _
          refine XS.goto X89.here hx rfl (pc0 := 227) (pc' := 231) rfl (hb hby at_227) (by decide) (by decide) ?_
          show Steps p.tables e below (T89.setTop (mkF m 231 #[.val (.int k0), .val (.int k1), .val (.int (k0 &&& (7 : Int32))), .val (.int k1), .val (.ref w_MIN), .val (.int (1 : Int32))] [(.int (1 : Int32))])) _
          exact k_)
        obtain ⟨fs, hr, hrun, hended, hW, hsame⟩ := X89.leave (v := some (.int (1 : Int32))) (fun h => by rw [Bd.returns] at h; cases h)
        refine ⟨_, _, pre90 _ ?_, hrun, hended, _, _, rfl, ?_, ⟨_, rfl⟩, hW, hsame.mono (by decide) (by decide)⟩
        · show Steps p.tables e below (T89.setTop (mkF m 231 #[.val (.int k0), .val (.int k1), .val (.int (k0 &&& (7 : Int32))), .val (.int k1), .val (.ref w_MIN), .val (.int (1 : Int32))] [(.int (1 : Int32))])) _
          exact retN X89 hx (t := .boolean) Bd.returns (by simp) (hb hby at_231) hr
        · show Q_0 Z k0 k1 w_MIN w_MOD w_ROUND w_POW w_LOG w_CEIL w_MAX w_FLOOR h0 n0 _ T89.heap _
          rw [e89]
          exact ⟨rfl, N89⟩
    · have pre91 : ∀ t_, Steps p.tables e below (s₁.setTop (mkF m 49 #[.val (.int k0), .val (.int k1), .val (.int (k0 &&& (7 : Int32))), .val (.int k1), .unset, .unset] [(.int (1 : Int32)), (.int (k0 &&& (7 : Int32)))])) t_ → Steps p.tables e below (s₁.setTop (entryFrame m #[(.int k0), (.int k1)] maxLocals)) t_ := fun t_ k_ => pre82 t_ (by
        show Steps p.tables e below (s₁.setTop (mkF m 24 #[.val (.int k0), .val (.int k1), .val (.int (k0 &&& (7 : Int32))), .val (.int k1), .unset, .unset] [(.int (k0 &&& (7 : Int32)))])) _
        refine XS.ifYes X0.here hx rfl (pc0 := 24) (pc' := 47) rfl (hb hby at_24) rfl ((if0 _ _).trans (feq hc24_83).2) (by decide) (by decide) ?_
        show Steps p.tables e below (s₁.setTop (mkF m 47 #[.val (.int k0), .val (.int k1), .val (.int (k0 &&& (7 : Int32))), .val (.int k1), .unset, .unset] [])) _
        refine XS.iloadN X0.here hx rfl (hb hby at_47) rfl ?_
        show Steps p.tables e below (s₁.setTop (mkF m 48 #[.val (.int k0), .val (.int k1), .val (.int (k0 &&& (7 : Int32))), .val (.int k1), .unset, .unset] [(.int (k0 &&& (7 : Int32)))])) _
        refine XS.iconst X0.here hx rfl (hb hby at_48) ?_
        show Steps p.tables e below (s₁.setTop (mkF m 49 #[.val (.int k0), .val (.int k1), .val (.int (k0 &&& (7 : Int32))), .val (.int k1), .unset, .unset] [(.int (1 : Int32)), (.int (k0 &&& (7 : Int32)))])) _
        exact k_)
      by_cases hc49_92 : (k0 &&& (7 : Int32)) = (1 : Int32)
      · obtain ⟨T93, X93, e93, st93⟩ := getS2 X0 hx hZ hown (host := "") (Or.inl (hw _ (List.mem_of_getElem? (i := 22) rfl))) Via.refl e0 S_MAX (g := (mkF m 52 #[.val (.int k0), .val (.int k1), .val (.int (k0 &&& (7 : Int32))), .val (.int k1), .unset, .unset] [])) rfl (hb hby at_52)
        have pre94 : ∀ t_, Steps p.tables e below (T93.setTop (mkF m 59 #[.val (.int k0), .val (.int k1), .val (.int (k0 &&& (7 : Int32))), .val (.int k1), .val (.ref w_MAX), .unset] [(.int (2 : Int32)), (.int k1)])) t_ → Steps p.tables e below (s₁.setTop (entryFrame m #[(.int k0), (.int k1)] maxLocals)) t_ := fun t_ k_ => pre91 t_ (by
          show Steps p.tables e below (s₁.setTop (mkF m 49 #[.val (.int k0), .val (.int k1), .val (.int (k0 &&& (7 : Int32))), .val (.int k1), .unset, .unset] [(.int (1 : Int32)), (.int (k0 &&& (7 : Int32)))])) _
          refine XS.icmpNo X0.here hx rfl (hb hby at_49) rfl (teq hc49_92).2 ?_
          show Steps p.tables e below (s₁.setTop (mkF m 52 #[.val (.int k0), .val (.int k1), .val (.int (k0 &&& (7 : Int32))), .val (.int k1), .unset, .unset] [])) _
          refine st93 _ ?_
          show Steps p.tables e below (T93.setTop (mkF m 55 #[.val (.int k0), .val (.int k1), .val (.int (k0 &&& (7 : Int32))), .val (.int k1), .unset, .unset] [(.ref w_MAX)])) _
          refine XS.astore X93.here hx rfl (hb hby at_55) rfl rfl (l' := #[.val (.int k0), .val (.int k1), .val (.int (k0 &&& (7 : Int32))), .val (.int k1), .val (.ref w_MAX), .unset]) rfl ?_
          show Steps p.tables e below (T93.setTop (mkF m 57 #[.val (.int k0), .val (.int k1), .val (.int (k0 &&& (7 : Int32))), .val (.int k1), .val (.ref w_MAX), .unset] [])) _
          refine XS.iloadN X93.here hx rfl (hb hby at_57) rfl ?_
          show Steps p.tables e below (T93.setTop (mkF m 58 #[.val (.int k0), .val (.int k1), .val (.int (k0 &&& (7 : Int32))), .val (.int k1), .val (.ref w_MAX), .unset] [(.int k1)])) _
          refine XS.iconst X93.here hx rfl (hb hby at_58) ?_
          show Steps p.tables e below (T93.setTop (mkF m 59 #[.val (.int k0), .val (.int k1), .val (.int (k0 &&& (7 : Int32))), .val (.int k1), .val (.ref w_MAX), .unset] [(.int (2 : Int32)), (.int k1)])) _
          exact k_)
        by_cases hc59_95 : k1 < (2 : Int32)
        · obtain ⟨cq96, kq96, q96a, q96b, q96c⟩ := isOf hZ e93 E_MAX
          obtain ⟨v96, _, ⟨T96, L96, k96, n96⟩, -, X96, ⟨Lc96, hQ96, l96, y96, z96⟩, st96⟩ := X93.virtualBack hx (y := (⟨"com/example/atropos/atropos/lang/BuiltInFunction", "takes", "(I)Z"⟩ : MethodName)) (z := (⟨"com/example/atropos/atropos/lang/BuiltInFunction", "takes", "(I)Z"⟩ : MethodName)) hown (mvT hZ (hw _ (List.mem_of_getElem? (i := 3) rfl))) (mvT hZ (hw _ (List.mem_of_getElem? (i := 4) rfl))) (notFace_of_selects (args := #[]) (mvT hZ (hw _ (List.mem_of_getElem? (i := 6) rfl)))) (mvT hZ (hw _ (List.mem_of_getElem? (i := 6) rfl))) (mvT hZ (hw _ (List.mem_of_getElem? (i := 5) rfl))) (by decide) (backOf (W := 0) (rm_1 l Z a0 hw [] w_MAX k1 (2 : Int32) (2147483647 : Int32) h0 n0 Z0 F_MAX_fewestArguments F_MAX_mostArguments) hZ (hw _ (List.mem_of_getElem? (i := 7) rfl)) (hw _ (List.mem_of_getElem? (i := 1) rfl)) (by decide) (by decide)) q96a q96c (g := (mkF m 218 #[.val (.int k0), .val (.int k1), .val (.int (k0 &&& (7 : Int32))), .val (.int k1), .val (.ref w_MAX), .val (.int (0 : Int32))] [(.int k1), (.ref w_MAX)])) rfl (by rw [hml]; rfl) (Steps.refl _) (argsL := [(.int k1)]) (rest := []) (lenOf pd_0 rfl) rfl (by show 2 * 0 + _ ≤ _; exact Nat.le_of_eq rfl) (hb hby at_218) (fun _ _ => ⟨rfl, e93, (by decide : 0 + 0 ≤ _), (by decide : 0 + 0 ≤ _)⟩)
          dsimp only [Pt.U, Pt.locs, Pt.cells, Pt.slots] at X96 l96 y96 z96 st96 hQ96
          subst l96 y96 z96
          obtain ⟨hv96, N96q, e96⟩ := hQ96
          have N96 := Fr.app N0 N96q
          have hw96 : v96 = some (.int (0 : Int32)) := hv96.trans (congrArg (fun z => some (Value.int z)) (own_lt hc59_95))
          subst hw96
          have pre97 : ∀ t_, Steps p.tables e below (T96.setTop (mkF m 231 #[.val (.int k0), .val (.int k1), .val (.int (k0 &&& (7 : Int32))), .val (.int k1), .val (.ref w_MAX), .val (.int (0 : Int32))] [(.int (1 : Int32))])) t_ → Steps p.tables e below (s₁.setTop (entryFrame m #[(.int k0), (.int k1)] maxLocals)) t_ := fun t_ k_ => pre94 t_ (by
            show Steps p.tables e below (T93.setTop (mkF m 59 #[.val (.int k0), .val (.int k1), .val (.int (k0 &&& (7 : Int32))), .val (.int k1), .val (.ref w_MAX), .unset] [(.int (2 : Int32)), (.int k1)])) _
            refine XS.icmpYes X93.here hx rfl (pc0 := 59) (pc' := 66) rfl (hb hby at_59) rfl (tlt hc59_95).1 (by decide) (by decide) ?_
            show Steps p.tables e below (T93.setTop (mkF m 66 #[.val (.int k0), .val (.int k1), .val (.int (k0 &&& (7 : Int32))), .val (.int k1), .val (.ref w_MAX), .unset] [])) _
            refine XS.iconst X93.here hx rfl (hb hby at_66) ?_
            show Steps p.tables e below (T93.setTop (mkF m 67 #[.val (.int k0), .val (.int k1), .val (.int (k0 &&& (7 : Int32))), .val (.int k1), .val (.ref w_MAX), .unset] [(.int (0 : Int32))])) _
            refine XS.istore X93.here hx rfl (hb hby at_67) rfl (l' := #[.val (.int k0), .val (.int k1), .val (.int (k0 &&& (7 : Int32))), .val (.int k1), .val (.ref w_MAX), .val (.int (0 : Int32))]) rfl ?_
            show Steps p.tables e below (T93.setTop (mkF m 69 #[.val (.int k0), .val (.int k1), .val (.int (k0 &&& (7 : Int32))), .val (.int k1), .val (.ref w_MAX), .val (.int (0 : Int32))] [])) _
            refine XS.goto X93.here hx rfl (pc0 := 69) (pc' := 215) rfl (hb hby at_69) (by decide) (by decide) ?_
            show Steps p.tables e below (T93.setTop (mkF m 215 #[.val (.int k0), .val (.int k1), .val (.int (k0 &&& (7 : Int32))), .val (.int k1), .val (.ref w_MAX), .val (.int (0 : Int32))] [])) _
            refine XS.aload X93.here hx rfl (hb hby at_215) rfl rfl ?_
            show Steps p.tables e below (T93.setTop (mkF m 217 #[.val (.int k0), .val (.int k1), .val (.int (k0 &&& (7 : Int32))), .val (.int k1), .val (.ref w_MAX), .val (.int (0 : Int32))] [(.ref w_MAX)])) _
            refine XS.iloadN X93.here hx rfl (hb hby at_217) rfl ?_
            show Steps p.tables e below (T93.setTop (mkF m 218 #[.val (.int k0), .val (.int k1), .val (.int (k0 &&& (7 : Int32))), .val (.int k1), .val (.ref w_MAX), .val (.int (0 : Int32))] [(.int k1), (.ref w_MAX)])) _
            refine st96.trans ?_
            show Steps p.tables e below (T96.setTop (mkF m 221 #[.val (.int k0), .val (.int k1), .val (.int (k0 &&& (7 : Int32))), .val (.int k1), .val (.ref w_MAX), .val (.int (0 : Int32))] [(.int (0 : Int32))])) _
            refine XS.iload X96.here hx rfl (hb hby at_221) rfl ?_
            show Steps p.tables e below (T96.setTop (mkF m 223 #[.val (.int k0), .val (.int k1), .val (.int (k0 &&& (7 : Int32))), .val (.int k1), .val (.ref w_MAX), .val (.int (0 : Int32))] [(.int (0 : Int32)), (.int (0 : Int32))])) _
            refine XS.icmpNo X96.here hx rfl (hb hby at_223) rfl (teq (by decide : (0 : Int32) = (0 : Int32))).2 ?_
            show Steps p.tables e below (T96.setTop (mkF m 226 #[.val (.int k0), .val (.int k1), .val (.int (k0 &&& (7 : Int32))), .val (.int k1), .val (.ref w_MAX), .val (.int (0 : Int32))] [])) _
            refine XS.iconst X96.here hx rfl (hb hby at_226) ?_
            show Steps p.tables e below (T96.setTop (mkF m 227 #[.val (.int k0), .val (.int k1), .val (.int (k0 &&& (7 : Int32))), .val (.int k1), .val (.ref w_MAX), .val (.int (0 : Int32))] [(.int (1 : Int32))])) _
            refine XS.goto X96.here hx rfl (pc0 := 227) (pc' := 231) rfl (hb hby at_227) (by decide) (by decide) ?_
            show Steps p.tables e below (T96.setTop (mkF m 231 #[.val (.int k0), .val (.int k1), .val (.int (k0 &&& (7 : Int32))), .val (.int k1), .val (.ref w_MAX), .val (.int (0 : Int32))] [(.int (1 : Int32))])) _
            exact k_)
          obtain ⟨fs, hr, hrun, hended, hW, hsame⟩ := X96.leave (v := some (.int (1 : Int32))) (fun h => by rw [Bd.returns] at h; cases h)
          refine ⟨_, _, pre97 _ ?_, hrun, hended, _, _, rfl, ?_, ⟨_, rfl⟩, hW, hsame.mono (by decide) (by decide)⟩
          · show Steps p.tables e below (T96.setTop (mkF m 231 #[.val (.int k0), .val (.int k1), .val (.int (k0 &&& (7 : Int32))), .val (.int k1), .val (.ref w_MAX), .val (.int (0 : Int32))] [(.int (1 : Int32))])) _
            exact retN X96 hx (t := .boolean) Bd.returns (by simp) (hb hby at_231) hr
          · show Q_0 Z k0 k1 w_MIN w_MOD w_ROUND w_POW w_LOG w_CEIL w_MAX w_FLOOR h0 n0 _ T96.heap _
            rw [e96]
            exact ⟨rfl, N96⟩
        · obtain ⟨cq98, kq98, q98a, q98b, q98c⟩ := isOf hZ e93 E_MAX
          obtain ⟨v98, _, ⟨T98, L98, k98, n98⟩, -, X98, ⟨Lc98, hQ98, l98, y98, z98⟩, st98⟩ := X93.virtualBack hx (y := (⟨"com/example/atropos/atropos/lang/BuiltInFunction", "takes", "(I)Z"⟩ : MethodName)) (z := (⟨"com/example/atropos/atropos/lang/BuiltInFunction", "takes", "(I)Z"⟩ : MethodName)) hown (mvT hZ (hw _ (List.mem_of_getElem? (i := 3) rfl))) (mvT hZ (hw _ (List.mem_of_getElem? (i := 4) rfl))) (notFace_of_selects (args := #[]) (mvT hZ (hw _ (List.mem_of_getElem? (i := 6) rfl)))) (mvT hZ (hw _ (List.mem_of_getElem? (i := 6) rfl))) (mvT hZ (hw _ (List.mem_of_getElem? (i := 5) rfl))) (by decide) (backOf (W := 0) (rm_1 l Z a0 hw [] w_MAX k1 (2 : Int32) (2147483647 : Int32) h0 n0 Z0 F_MAX_fewestArguments F_MAX_mostArguments) hZ (hw _ (List.mem_of_getElem? (i := 7) rfl)) (hw _ (List.mem_of_getElem? (i := 1) rfl)) (by decide) (by decide)) q98a q98c (g := (mkF m 218 #[.val (.int k0), .val (.int k1), .val (.int (k0 &&& (7 : Int32))), .val (.int k1), .val (.ref w_MAX), .val (.int (1 : Int32))] [(.int k1), (.ref w_MAX)])) rfl (by rw [hml]; rfl) (Steps.refl _) (argsL := [(.int k1)]) (rest := []) (lenOf pd_0 rfl) rfl (by show 2 * 0 + _ ≤ _; exact Nat.le_of_eq rfl) (hb hby at_218) (fun _ _ => ⟨rfl, e93, (by decide : 0 + 0 ≤ _), (by decide : 0 + 0 ≤ _)⟩)
          dsimp only [Pt.U, Pt.locs, Pt.cells, Pt.slots] at X98 l98 y98 z98 st98 hQ98
          subst l98 y98 z98
          obtain ⟨hv98, N98q, e98⟩ := hQ98
          have N98 := Fr.app N0 N98q
          have hw98 : v98 = some (.int (1 : Int32)) := hv98.trans (congrArg (fun z => some (Value.int z)) (own_ge hc59_95))
          subst hw98
          have pre99 : ∀ t_, Steps p.tables e below (T98.setTop (mkF m 231 #[.val (.int k0), .val (.int k1), .val (.int (k0 &&& (7 : Int32))), .val (.int k1), .val (.ref w_MAX), .val (.int (1 : Int32))] [(.int (1 : Int32))])) t_ → Steps p.tables e below (s₁.setTop (entryFrame m #[(.int k0), (.int k1)] maxLocals)) t_ := fun t_ k_ => pre94 t_ (by
            show Steps p.tables e below (T93.setTop (mkF m 59 #[.val (.int k0), .val (.int k1), .val (.int (k0 &&& (7 : Int32))), .val (.int k1), .val (.ref w_MAX), .unset] [(.int (2 : Int32)), (.int k1)])) _
            refine XS.icmpNo X93.here hx rfl (hb hby at_59) rfl (flt hc59_95).1 ?_
            show Steps p.tables e below (T93.setTop (mkF m 62 #[.val (.int k0), .val (.int k1), .val (.int (k0 &&& (7 : Int32))), .val (.int k1), .val (.ref w_MAX), .unset] [])) _
            refine XS.iconst X93.here hx rfl (hb hby at_62) ?_
            show Steps p.tables e below (T93.setTop (mkF m 63 #[.val (.int k0), .val (.int k1), .val (.int (k0 &&& (7 : Int32))), .val (.int k1), .val (.ref w_MAX), .unset] [(.int (1 : Int32))])) _
            refine XS.goto X93.here hx rfl (pc0 := 63) (pc' := 67) rfl (hb hby at_63) (by decide) (by decide) ?_
            show Steps p.tables e below (T93.setTop (mkF m 67 #[.val (.int k0), .val (.int k1), .val (.int (k0 &&& (7 : Int32))), .val (.int k1), .val (.ref w_MAX), .unset] [(.int (1 : Int32))])) _
            refine XS.istore X93.here hx rfl (hb hby at_67) rfl (l' := #[.val (.int k0), .val (.int k1), .val (.int (k0 &&& (7 : Int32))), .val (.int k1), .val (.ref w_MAX), .val (.int (1 : Int32))]) rfl ?_
            show Steps p.tables e below (T93.setTop (mkF m 69 #[.val (.int k0), .val (.int k1), .val (.int (k0 &&& (7 : Int32))), .val (.int k1), .val (.ref w_MAX), .val (.int (1 : Int32))] [])) _
            refine XS.goto X93.here hx rfl (pc0 := 69) (pc' := 215) rfl (hb hby at_69) (by decide) (by decide) ?_
            show Steps p.tables e below (T93.setTop (mkF m 215 #[.val (.int k0), .val (.int k1), .val (.int (k0 &&& (7 : Int32))), .val (.int k1), .val (.ref w_MAX), .val (.int (1 : Int32))] [])) _
            refine XS.aload X93.here hx rfl (hb hby at_215) rfl rfl ?_
            show Steps p.tables e below (T93.setTop (mkF m 217 #[.val (.int k0), .val (.int k1), .val (.int (k0 &&& (7 : Int32))), .val (.int k1), .val (.ref w_MAX), .val (.int (1 : Int32))] [(.ref w_MAX)])) _
            refine XS.iloadN X93.here hx rfl (hb hby at_217) rfl ?_
            show Steps p.tables e below (T93.setTop (mkF m 218 #[.val (.int k0), .val (.int k1), .val (.int (k0 &&& (7 : Int32))), .val (.int k1), .val (.ref w_MAX), .val (.int (1 : Int32))] [(.int k1), (.ref w_MAX)])) _
            refine st98.trans ?_
            show Steps p.tables e below (T98.setTop (mkF m 221 #[.val (.int k0), .val (.int k1), .val (.int (k0 &&& (7 : Int32))), .val (.int k1), .val (.ref w_MAX), .val (.int (1 : Int32))] [(.int (1 : Int32))])) _
            refine XS.iload X98.here hx rfl (hb hby at_221) rfl ?_
            show Steps p.tables e below (T98.setTop (mkF m 223 #[.val (.int k0), .val (.int k1), .val (.int (k0 &&& (7 : Int32))), .val (.int k1), .val (.ref w_MAX), .val (.int (1 : Int32))] [(.int (1 : Int32)), (.int (1 : Int32))])) _
            refine XS.icmpNo X98.here hx rfl (hb hby at_223) rfl (teq (by decide : (1 : Int32) = (1 : Int32))).2 ?_
            show Steps p.tables e below (T98.setTop (mkF m 226 #[.val (.int k0), .val (.int k1), .val (.int (k0 &&& (7 : Int32))), .val (.int k1), .val (.ref w_MAX), .val (.int (1 : Int32))] [])) _
            refine XS.iconst X98.here hx rfl (hb hby at_226) ?_
            show Steps p.tables e below (T98.setTop (mkF m 227 #[.val (.int k0), .val (.int k1), .val (.int (k0 &&& (7 : Int32))), .val (.int k1), .val (.ref w_MAX), .val (.int (1 : Int32))] [(.int (1 : Int32))])) _
            refine XS.goto X98.here hx rfl (pc0 := 227) (pc' := 231) rfl (hb hby at_227) (by decide) (by decide) ?_
            show Steps p.tables e below (T98.setTop (mkF m 231 #[.val (.int k0), .val (.int k1), .val (.int (k0 &&& (7 : Int32))), .val (.int k1), .val (.ref w_MAX), .val (.int (1 : Int32))] [(.int (1 : Int32))])) _
            exact k_)
          obtain ⟨fs, hr, hrun, hended, hW, hsame⟩ := X98.leave (v := some (.int (1 : Int32))) (fun h => by rw [Bd.returns] at h; cases h)
          refine ⟨_, _, pre99 _ ?_, hrun, hended, _, _, rfl, ?_, ⟨_, rfl⟩, hW, hsame.mono (by decide) (by decide)⟩
          · show Steps p.tables e below (T98.setTop (mkF m 231 #[.val (.int k0), .val (.int k1), .val (.int (k0 &&& (7 : Int32))), .val (.int k1), .val (.ref w_MAX), .val (.int (1 : Int32))] [(.int (1 : Int32))])) _
            exact retN X98 hx (t := .boolean) Bd.returns (by simp) (hb hby at_231) hr
          · show Q_0 Z k0 k1 w_MIN w_MOD w_ROUND w_POW w_LOG w_CEIL w_MAX w_FLOOR h0 n0 _ T98.heap _
            rw [e98]
            exact ⟨rfl, N98⟩
      · have pre100 : ∀ t_, Steps p.tables e below (s₁.setTop (mkF m 74 #[.val (.int k0), .val (.int k1), .val (.int (k0 &&& (7 : Int32))), .val (.int k1), .unset, .unset] [(.int (2 : Int32)), (.int (k0 &&& (7 : Int32)))])) t_ → Steps p.tables e below (s₁.setTop (entryFrame m #[(.int k0), (.int k1)] maxLocals)) t_ := fun t_ k_ => pre91 t_ (by
          show Steps p.tables e below (s₁.setTop (mkF m 49 #[.val (.int k0), .val (.int k1), .val (.int (k0 &&& (7 : Int32))), .val (.int k1), .unset, .unset] [(.int (1 : Int32)), (.int (k0 &&& (7 : Int32)))])) _
          refine XS.icmpYes X0.here hx rfl (pc0 := 49) (pc' := 72) rfl (hb hby at_49) rfl (feq hc49_92).2 (by decide) (by decide) ?_
          show Steps p.tables e below (s₁.setTop (mkF m 72 #[.val (.int k0), .val (.int k1), .val (.int (k0 &&& (7 : Int32))), .val (.int k1), .unset, .unset] [])) _
          refine XS.iloadN X0.here hx rfl (hb hby at_72) rfl ?_
          show Steps p.tables e below (s₁.setTop (mkF m 73 #[.val (.int k0), .val (.int k1), .val (.int (k0 &&& (7 : Int32))), .val (.int k1), .unset, .unset] [(.int (k0 &&& (7 : Int32)))])) _
          refine XS.iconst X0.here hx rfl (hb hby at_73) ?_
          show Steps p.tables e below (s₁.setTop (mkF m 74 #[.val (.int k0), .val (.int k1), .val (.int (k0 &&& (7 : Int32))), .val (.int k1), .unset, .unset] [(.int (2 : Int32)), (.int (k0 &&& (7 : Int32)))])) _
          exact k_)
        by_cases hc74_101 : (k0 &&& (7 : Int32)) = (2 : Int32)
        · obtain ⟨T102, X102, e102, st102⟩ := getS2 X0 hx hZ hown (host := "") (Or.inl (hw _ (List.mem_of_getElem? (i := 24) rfl))) Via.refl e0 S_FLOOR (g := (mkF m 77 #[.val (.int k0), .val (.int k1), .val (.int (k0 &&& (7 : Int32))), .val (.int k1), .unset, .unset] [])) rfl (hb hby at_77)
          have pre103 : ∀ t_, Steps p.tables e below (T102.setTop (mkF m 84 #[.val (.int k0), .val (.int k1), .val (.int (k0 &&& (7 : Int32))), .val (.int k1), .val (.ref w_FLOOR), .unset] [(.int (1 : Int32)), (.int k1)])) t_ → Steps p.tables e below (s₁.setTop (entryFrame m #[(.int k0), (.int k1)] maxLocals)) t_ := fun t_ k_ => pre100 t_ (by
            show Steps p.tables e below (s₁.setTop (mkF m 74 #[.val (.int k0), .val (.int k1), .val (.int (k0 &&& (7 : Int32))), .val (.int k1), .unset, .unset] [(.int (2 : Int32)), (.int (k0 &&& (7 : Int32)))])) _
            refine XS.icmpNo X0.here hx rfl (hb hby at_74) rfl (teq hc74_101).2 ?_
            show Steps p.tables e below (s₁.setTop (mkF m 77 #[.val (.int k0), .val (.int k1), .val (.int (k0 &&& (7 : Int32))), .val (.int k1), .unset, .unset] [])) _
            refine st102 _ ?_
            show Steps p.tables e below (T102.setTop (mkF m 80 #[.val (.int k0), .val (.int k1), .val (.int (k0 &&& (7 : Int32))), .val (.int k1), .unset, .unset] [(.ref w_FLOOR)])) _
            refine XS.astore X102.here hx rfl (hb hby at_80) rfl rfl (l' := #[.val (.int k0), .val (.int k1), .val (.int (k0 &&& (7 : Int32))), .val (.int k1), .val (.ref w_FLOOR), .unset]) rfl ?_
            show Steps p.tables e below (T102.setTop (mkF m 82 #[.val (.int k0), .val (.int k1), .val (.int (k0 &&& (7 : Int32))), .val (.int k1), .val (.ref w_FLOOR), .unset] [])) _
            refine XS.iloadN X102.here hx rfl (hb hby at_82) rfl ?_
            show Steps p.tables e below (T102.setTop (mkF m 83 #[.val (.int k0), .val (.int k1), .val (.int (k0 &&& (7 : Int32))), .val (.int k1), .val (.ref w_FLOOR), .unset] [(.int k1)])) _
            refine XS.iconst X102.here hx rfl (hb hby at_83) ?_
            show Steps p.tables e below (T102.setTop (mkF m 84 #[.val (.int k0), .val (.int k1), .val (.int (k0 &&& (7 : Int32))), .val (.int k1), .val (.ref w_FLOOR), .unset] [(.int (1 : Int32)), (.int k1)])) _
            exact k_)
          by_cases hc84_104 : k1 = (1 : Int32)
          · obtain ⟨cq105, kq105, q105a, q105b, q105c⟩ := isOf hZ e102 E_FLOOR
            obtain ⟨v105, _, ⟨T105, L105, k105, n105⟩, -, X105, ⟨Lc105, hQ105, l105, y105, z105⟩, st105⟩ := X102.virtualBack hx (y := (⟨"com/example/atropos/atropos/lang/BuiltInFunction", "takes", "(I)Z"⟩ : MethodName)) (z := (⟨"com/example/atropos/atropos/lang/BuiltInFunction", "takes", "(I)Z"⟩ : MethodName)) hown (mvT hZ (hw _ (List.mem_of_getElem? (i := 3) rfl))) (mvT hZ (hw _ (List.mem_of_getElem? (i := 4) rfl))) (notFace_of_selects (args := #[]) (mvT hZ (hw _ (List.mem_of_getElem? (i := 6) rfl)))) (mvT hZ (hw _ (List.mem_of_getElem? (i := 6) rfl))) (mvT hZ (hw _ (List.mem_of_getElem? (i := 5) rfl))) (by decide) (backOf (W := 0) (rm_1 l Z a0 hw [] w_FLOOR k1 (1 : Int32) (1 : Int32) h0 n0 Z0 F_FLOOR_fewestArguments F_FLOOR_mostArguments) hZ (hw _ (List.mem_of_getElem? (i := 7) rfl)) (hw _ (List.mem_of_getElem? (i := 1) rfl)) (by decide) (by decide)) q105a q105c (g := (mkF m 218 #[.val (.int k0), .val (.int k1), .val (.int (k0 &&& (7 : Int32))), .val (.int k1), .val (.ref w_FLOOR), .val (.int (1 : Int32))] [(.int k1), (.ref w_FLOOR)])) rfl (by rw [hml]; rfl) (Steps.refl _) (argsL := [(.int k1)]) (rest := []) (lenOf pd_0 rfl) rfl (by show 2 * 0 + _ ≤ _; exact Nat.le_of_eq rfl) (hb hby at_218) (fun _ _ => ⟨rfl, e102, (by decide : 0 + 0 ≤ _), (by decide : 0 + 0 ≤ _)⟩)
            dsimp only [Pt.U, Pt.locs, Pt.cells, Pt.slots] at X105 l105 y105 z105 st105 hQ105
            subst l105 y105 z105
            obtain ⟨hv105, N105q, e105⟩ := hQ105
            have N105 := Fr.app N0 N105q
            have hw105 : v105 = some (.int (1 : Int32)) := hv105.trans (congrArg (fun z => some (Value.int z)) (own_eq hc84_104))
            subst hw105
            have pre106 : ∀ t_, Steps p.tables e below (T105.setTop (mkF m 231 #[.val (.int k0), .val (.int k1), .val (.int (k0 &&& (7 : Int32))), .val (.int k1), .val (.ref w_FLOOR), .val (.int (1 : Int32))] [(.int (1 : Int32))])) t_ → Steps p.tables e below (s₁.setTop (entryFrame m #[(.int k0), (.int k1)] maxLocals)) t_ := fun t_ k_ => pre103 t_ (by
              show Steps p.tables e below (T102.setTop (mkF m 84 #[.val (.int k0), .val (.int k1), .val (.int (k0 &&& (7 : Int32))), .val (.int k1), .val (.ref w_FLOOR), .unset] [(.int (1 : Int32)), (.int k1)])) _
              refine XS.icmpNo X102.here hx rfl (hb hby at_84) rfl (teq hc84_104).2 ?_
              show Steps p.tables e below (T102.setTop (mkF m 87 #[.val (.int k0), .val (.int k1), .val (.int (k0 &&& (7 : Int32))), .val (.int k1), .val (.ref w_FLOOR), .unset] [])) _
              refine XS.iconst X102.here hx rfl (hb hby at_87) ?_
              show Steps p.tables e below (T102.setTop (mkF m 88 #[.val (.int k0), .val (.int k1), .val (.int (k0 &&& (7 : Int32))), .val (.int k1), .val (.ref w_FLOOR), .unset] [(.int (1 : Int32))])) _
              refine XS.goto X102.here hx rfl (pc0 := 88) (pc' := 92) rfl (hb hby at_88) (by decide) (by decide) ?_
              show Steps p.tables e below (T102.setTop (mkF m 92 #[.val (.int k0), .val (.int k1), .val (.int (k0 &&& (7 : Int32))), .val (.int k1), .val (.ref w_FLOOR), .unset] [(.int (1 : Int32))])) _
              refine XS.istore X102.here hx rfl (hb hby at_92) rfl (l' := #[.val (.int k0), .val (.int k1), .val (.int (k0 &&& (7 : Int32))), .val (.int k1), .val (.ref w_FLOOR), .val (.int (1 : Int32))]) rfl ?_
              show Steps p.tables e below (T102.setTop (mkF m 94 #[.val (.int k0), .val (.int k1), .val (.int (k0 &&& (7 : Int32))), .val (.int k1), .val (.ref w_FLOOR), .val (.int (1 : Int32))] [])) _
              refine XS.goto X102.here hx rfl (pc0 := 94) (pc' := 215) rfl (hb hby at_94) (by decide) (by decide) ?_
              show Steps p.tables e below (T102.setTop (mkF m 215 #[.val (.int k0), .val (.int k1), .val (.int (k0 &&& (7 : Int32))), .val (.int k1), .val (.ref w_FLOOR), .val (.int (1 : Int32))] [])) _
              refine XS.aload X102.here hx rfl (hb hby at_215) rfl rfl ?_
              show Steps p.tables e below (T102.setTop (mkF m 217 #[.val (.int k0), .val (.int k1), .val (.int (k0 &&& (7 : Int32))), .val (.int k1), .val (.ref w_FLOOR), .val (.int (1 : Int32))] [(.ref w_FLOOR)])) _
              refine XS.iloadN X102.here hx rfl (hb hby at_217) rfl ?_
              show Steps p.tables e below (T102.setTop (mkF m 218 #[.val (.int k0), .val (.int k1), .val (.int (k0 &&& (7 : Int32))), .val (.int k1), .val (.ref w_FLOOR), .val (.int (1 : Int32))] [(.int k1), (.ref w_FLOOR)])) _
              refine st105.trans ?_
              show Steps p.tables e below (T105.setTop (mkF m 221 #[.val (.int k0), .val (.int k1), .val (.int (k0 &&& (7 : Int32))), .val (.int k1), .val (.ref w_FLOOR), .val (.int (1 : Int32))] [(.int (1 : Int32))])) _
              refine XS.iload X105.here hx rfl (hb hby at_221) rfl ?_
              show Steps p.tables e below (T105.setTop (mkF m 223 #[.val (.int k0), .val (.int k1), .val (.int (k0 &&& (7 : Int32))), .val (.int k1), .val (.ref w_FLOOR), .val (.int (1 : Int32))] [(.int (1 : Int32)), (.int (1 : Int32))])) _
              refine XS.icmpNo X105.here hx rfl (hb hby at_223) rfl (teq (by decide : (1 : Int32) = (1 : Int32))).2 ?_
              show Steps p.tables e below (T105.setTop (mkF m 226 #[.val (.int k0), .val (.int k1), .val (.int (k0 &&& (7 : Int32))), .val (.int k1), .val (.ref w_FLOOR), .val (.int (1 : Int32))] [])) _
              refine XS.iconst X105.here hx rfl (hb hby at_226) ?_
              show Steps p.tables e below (T105.setTop (mkF m 227 #[.val (.int k0), .val (.int k1), .val (.int (k0 &&& (7 : Int32))), .val (.int k1), .val (.ref w_FLOOR), .val (.int (1 : Int32))] [(.int (1 : Int32))])) _
              refine XS.goto X105.here hx rfl (pc0 := 227) (pc' := 231) rfl (hb hby at_227) (by decide) (by decide) ?_
              show Steps p.tables e below (T105.setTop (mkF m 231 #[.val (.int k0), .val (.int k1), .val (.int (k0 &&& (7 : Int32))), .val (.int k1), .val (.ref w_FLOOR), .val (.int (1 : Int32))] [(.int (1 : Int32))])) _
              exact k_)
            obtain ⟨fs, hr, hrun, hended, hW, hsame⟩ := X105.leave (v := some (.int (1 : Int32))) (fun h => by rw [Bd.returns] at h; cases h)
            refine ⟨_, _, pre106 _ ?_, hrun, hended, _, _, rfl, ?_, ⟨_, rfl⟩, hW, hsame.mono (by decide) (by decide)⟩
            · show Steps p.tables e below (T105.setTop (mkF m 231 #[.val (.int k0), .val (.int k1), .val (.int (k0 &&& (7 : Int32))), .val (.int k1), .val (.ref w_FLOOR), .val (.int (1 : Int32))] [(.int (1 : Int32))])) _
              exact retN X105 hx (t := .boolean) Bd.returns (by simp) (hb hby at_231) hr
            · show Q_0 Z k0 k1 w_MIN w_MOD w_ROUND w_POW w_LOG w_CEIL w_MAX w_FLOOR h0 n0 _ T105.heap _
              rw [e105]
              exact ⟨rfl, N105⟩
          · obtain ⟨cq107, kq107, q107a, q107b, q107c⟩ := isOf hZ e102 E_FLOOR
            obtain ⟨v107, _, ⟨T107, L107, k107, n107⟩, -, X107, ⟨Lc107, hQ107, l107, y107, z107⟩, st107⟩ := X102.virtualBack hx (y := (⟨"com/example/atropos/atropos/lang/BuiltInFunction", "takes", "(I)Z"⟩ : MethodName)) (z := (⟨"com/example/atropos/atropos/lang/BuiltInFunction", "takes", "(I)Z"⟩ : MethodName)) hown (mvT hZ (hw _ (List.mem_of_getElem? (i := 3) rfl))) (mvT hZ (hw _ (List.mem_of_getElem? (i := 4) rfl))) (notFace_of_selects (args := #[]) (mvT hZ (hw _ (List.mem_of_getElem? (i := 6) rfl)))) (mvT hZ (hw _ (List.mem_of_getElem? (i := 6) rfl))) (mvT hZ (hw _ (List.mem_of_getElem? (i := 5) rfl))) (by decide) (backOf (W := 0) (rm_1 l Z a0 hw [] w_FLOOR k1 (1 : Int32) (1 : Int32) h0 n0 Z0 F_FLOOR_fewestArguments F_FLOOR_mostArguments) hZ (hw _ (List.mem_of_getElem? (i := 7) rfl)) (hw _ (List.mem_of_getElem? (i := 1) rfl)) (by decide) (by decide)) q107a q107c (g := (mkF m 218 #[.val (.int k0), .val (.int k1), .val (.int (k0 &&& (7 : Int32))), .val (.int k1), .val (.ref w_FLOOR), .val (.int (0 : Int32))] [(.int k1), (.ref w_FLOOR)])) rfl (by rw [hml]; rfl) (Steps.refl _) (argsL := [(.int k1)]) (rest := []) (lenOf pd_0 rfl) rfl (by show 2 * 0 + _ ≤ _; exact Nat.le_of_eq rfl) (hb hby at_218) (fun _ _ => ⟨rfl, e102, (by decide : 0 + 0 ≤ _), (by decide : 0 + 0 ≤ _)⟩)
            dsimp only [Pt.U, Pt.locs, Pt.cells, Pt.slots] at X107 l107 y107 z107 st107 hQ107
            subst l107 y107 z107
            obtain ⟨hv107, N107q, e107⟩ := hQ107
            have N107 := Fr.app N0 N107q
            have hw107 : v107 = some (.int (0 : Int32)) := hv107.trans (congrArg (fun z => some (Value.int z)) (own_ne hc84_104))
            subst hw107
            have pre108 : ∀ t_, Steps p.tables e below (T107.setTop (mkF m 231 #[.val (.int k0), .val (.int k1), .val (.int (k0 &&& (7 : Int32))), .val (.int k1), .val (.ref w_FLOOR), .val (.int (0 : Int32))] [(.int (1 : Int32))])) t_ → Steps p.tables e below (s₁.setTop (entryFrame m #[(.int k0), (.int k1)] maxLocals)) t_ := fun t_ k_ => pre103 t_ (by
              show Steps p.tables e below (T102.setTop (mkF m 84 #[.val (.int k0), .val (.int k1), .val (.int (k0 &&& (7 : Int32))), .val (.int k1), .val (.ref w_FLOOR), .unset] [(.int (1 : Int32)), (.int k1)])) _
              refine XS.icmpYes X102.here hx rfl (pc0 := 84) (pc' := 91) rfl (hb hby at_84) rfl (feq hc84_104).2 (by decide) (by decide) ?_
              show Steps p.tables e below (T102.setTop (mkF m 91 #[.val (.int k0), .val (.int k1), .val (.int (k0 &&& (7 : Int32))), .val (.int k1), .val (.ref w_FLOOR), .unset] [])) _
              refine XS.iconst X102.here hx rfl (hb hby at_91) ?_
              show Steps p.tables e below (T102.setTop (mkF m 92 #[.val (.int k0), .val (.int k1), .val (.int (k0 &&& (7 : Int32))), .val (.int k1), .val (.ref w_FLOOR), .unset] [(.int (0 : Int32))])) _
              refine XS.istore X102.here hx rfl (hb hby at_92) rfl (l' := #[.val (.int k0), .val (.int k1), .val (.int (k0 &&& (7 : Int32))), .val (.int k1), .val (.ref w_FLOOR), .val (.int (0 : Int32))]) rfl ?_
              show Steps p.tables e below (T102.setTop (mkF m 94 #[.val (.int k0), .val (.int k1), .val (.int (k0 &&& (7 : Int32))), .val (.int k1), .val (.ref w_FLOOR), .val (.int (0 : Int32))] [])) _
              refine XS.goto X102.here hx rfl (pc0 := 94) (pc' := 215) rfl (hb hby at_94) (by decide) (by decide) ?_
              show Steps p.tables e below (T102.setTop (mkF m 215 #[.val (.int k0), .val (.int k1), .val (.int (k0 &&& (7 : Int32))), .val (.int k1), .val (.ref w_FLOOR), .val (.int (0 : Int32))] [])) _
              refine XS.aload X102.here hx rfl (hb hby at_215) rfl rfl ?_
              show Steps p.tables e below (T102.setTop (mkF m 217 #[.val (.int k0), .val (.int k1), .val (.int (k0 &&& (7 : Int32))), .val (.int k1), .val (.ref w_FLOOR), .val (.int (0 : Int32))] [(.ref w_FLOOR)])) _
              refine XS.iloadN X102.here hx rfl (hb hby at_217) rfl ?_
              show Steps p.tables e below (T102.setTop (mkF m 218 #[.val (.int k0), .val (.int k1), .val (.int (k0 &&& (7 : Int32))), .val (.int k1), .val (.ref w_FLOOR), .val (.int (0 : Int32))] [(.int k1), (.ref w_FLOOR)])) _
              refine st107.trans ?_
              show Steps p.tables e below (T107.setTop (mkF m 221 #[.val (.int k0), .val (.int k1), .val (.int (k0 &&& (7 : Int32))), .val (.int k1), .val (.ref w_FLOOR), .val (.int (0 : Int32))] [(.int (0 : Int32))])) _
              refine XS.iload X107.here hx rfl (hb hby at_221) rfl ?_
              show Steps p.tables e below (T107.setTop (mkF m 223 #[.val (.int k0), .val (.int k1), .val (.int (k0 &&& (7 : Int32))), .val (.int k1), .val (.ref w_FLOOR), .val (.int (0 : Int32))] [(.int (0 : Int32)), (.int (0 : Int32))])) _
              refine XS.icmpNo X107.here hx rfl (hb hby at_223) rfl (teq (by decide : (0 : Int32) = (0 : Int32))).2 ?_
              show Steps p.tables e below (T107.setTop (mkF m 226 #[.val (.int k0), .val (.int k1), .val (.int (k0 &&& (7 : Int32))), .val (.int k1), .val (.ref w_FLOOR), .val (.int (0 : Int32))] [])) _
              refine XS.iconst X107.here hx rfl (hb hby at_226) ?_
              show Steps p.tables e below (T107.setTop (mkF m 227 #[.val (.int k0), .val (.int k1), .val (.int (k0 &&& (7 : Int32))), .val (.int k1), .val (.ref w_FLOOR), .val (.int (0 : Int32))] [(.int (1 : Int32))])) _
              refine XS.goto X107.here hx rfl (pc0 := 227) (pc' := 231) rfl (hb hby at_227) (by decide) (by decide) ?_
              show Steps p.tables e below (T107.setTop (mkF m 231 #[.val (.int k0), .val (.int k1), .val (.int (k0 &&& (7 : Int32))), .val (.int k1), .val (.ref w_FLOOR), .val (.int (0 : Int32))] [(.int (1 : Int32))])) _
              exact k_)
            obtain ⟨fs, hr, hrun, hended, hW, hsame⟩ := X107.leave (v := some (.int (1 : Int32))) (fun h => by rw [Bd.returns] at h; cases h)
            refine ⟨_, _, pre108 _ ?_, hrun, hended, _, _, rfl, ?_, ⟨_, rfl⟩, hW, hsame.mono (by decide) (by decide)⟩
            · show Steps p.tables e below (T107.setTop (mkF m 231 #[.val (.int k0), .val (.int k1), .val (.int (k0 &&& (7 : Int32))), .val (.int k1), .val (.ref w_FLOOR), .val (.int (0 : Int32))] [(.int (1 : Int32))])) _
              exact retN X107 hx (t := .boolean) Bd.returns (by simp) (hb hby at_231) hr
            · show Q_0 Z k0 k1 w_MIN w_MOD w_ROUND w_POW w_LOG w_CEIL w_MAX w_FLOOR h0 n0 _ T107.heap _
              rw [e107]
              exact ⟨rfl, N107⟩
        · have pre109 : ∀ t_, Steps p.tables e below (s₁.setTop (mkF m 99 #[.val (.int k0), .val (.int k1), .val (.int (k0 &&& (7 : Int32))), .val (.int k1), .unset, .unset] [(.int (3 : Int32)), (.int (k0 &&& (7 : Int32)))])) t_ → Steps p.tables e below (s₁.setTop (entryFrame m #[(.int k0), (.int k1)] maxLocals)) t_ := fun t_ k_ => pre100 t_ (by
            show Steps p.tables e below (s₁.setTop (mkF m 74 #[.val (.int k0), .val (.int k1), .val (.int (k0 &&& (7 : Int32))), .val (.int k1), .unset, .unset] [(.int (2 : Int32)), (.int (k0 &&& (7 : Int32)))])) _
            refine XS.icmpYes X0.here hx rfl (pc0 := 74) (pc' := 97) rfl (hb hby at_74) rfl (feq hc74_101).2 (by decide) (by decide) ?_
            show Steps p.tables e below (s₁.setTop (mkF m 97 #[.val (.int k0), .val (.int k1), .val (.int (k0 &&& (7 : Int32))), .val (.int k1), .unset, .unset] [])) _
            refine XS.iloadN X0.here hx rfl (hb hby at_97) rfl ?_
            show Steps p.tables e below (s₁.setTop (mkF m 98 #[.val (.int k0), .val (.int k1), .val (.int (k0 &&& (7 : Int32))), .val (.int k1), .unset, .unset] [(.int (k0 &&& (7 : Int32)))])) _
            refine XS.iconst X0.here hx rfl (hb hby at_98) ?_
            show Steps p.tables e below (s₁.setTop (mkF m 99 #[.val (.int k0), .val (.int k1), .val (.int (k0 &&& (7 : Int32))), .val (.int k1), .unset, .unset] [(.int (3 : Int32)), (.int (k0 &&& (7 : Int32)))])) _
            exact k_)
          by_cases hc99_110 : (k0 &&& (7 : Int32)) = (3 : Int32)
          · obtain ⟨T111, X111, e111, st111⟩ := getS2 X0 hx hZ hown (host := "") (Or.inl (hw _ (List.mem_of_getElem? (i := 20) rfl))) Via.refl e0 S_CEIL (g := (mkF m 102 #[.val (.int k0), .val (.int k1), .val (.int (k0 &&& (7 : Int32))), .val (.int k1), .unset, .unset] [])) rfl (hb hby at_102)
            have pre112 : ∀ t_, Steps p.tables e below (T111.setTop (mkF m 109 #[.val (.int k0), .val (.int k1), .val (.int (k0 &&& (7 : Int32))), .val (.int k1), .val (.ref w_CEIL), .unset] [(.int (1 : Int32)), (.int k1)])) t_ → Steps p.tables e below (s₁.setTop (entryFrame m #[(.int k0), (.int k1)] maxLocals)) t_ := fun t_ k_ => pre109 t_ (by
              show Steps p.tables e below (s₁.setTop (mkF m 99 #[.val (.int k0), .val (.int k1), .val (.int (k0 &&& (7 : Int32))), .val (.int k1), .unset, .unset] [(.int (3 : Int32)), (.int (k0 &&& (7 : Int32)))])) _
              refine XS.icmpNo X0.here hx rfl (hb hby at_99) rfl (teq hc99_110).2 ?_
              show Steps p.tables e below (s₁.setTop (mkF m 102 #[.val (.int k0), .val (.int k1), .val (.int (k0 &&& (7 : Int32))), .val (.int k1), .unset, .unset] [])) _
              refine st111 _ ?_
              show Steps p.tables e below (T111.setTop (mkF m 105 #[.val (.int k0), .val (.int k1), .val (.int (k0 &&& (7 : Int32))), .val (.int k1), .unset, .unset] [(.ref w_CEIL)])) _
              refine XS.astore X111.here hx rfl (hb hby at_105) rfl rfl (l' := #[.val (.int k0), .val (.int k1), .val (.int (k0 &&& (7 : Int32))), .val (.int k1), .val (.ref w_CEIL), .unset]) rfl ?_
              show Steps p.tables e below (T111.setTop (mkF m 107 #[.val (.int k0), .val (.int k1), .val (.int (k0 &&& (7 : Int32))), .val (.int k1), .val (.ref w_CEIL), .unset] [])) _
              refine XS.iloadN X111.here hx rfl (hb hby at_107) rfl ?_
              show Steps p.tables e below (T111.setTop (mkF m 108 #[.val (.int k0), .val (.int k1), .val (.int (k0 &&& (7 : Int32))), .val (.int k1), .val (.ref w_CEIL), .unset] [(.int k1)])) _
              refine XS.iconst X111.here hx rfl (hb hby at_108) ?_
              show Steps p.tables e below (T111.setTop (mkF m 109 #[.val (.int k0), .val (.int k1), .val (.int (k0 &&& (7 : Int32))), .val (.int k1), .val (.ref w_CEIL), .unset] [(.int (1 : Int32)), (.int k1)])) _
              exact k_)
            by_cases hc109_113 : k1 = (1 : Int32)
            · obtain ⟨cq114, kq114, q114a, q114b, q114c⟩ := isOf hZ e111 E_CEIL
              obtain ⟨v114, _, ⟨T114, L114, k114, n114⟩, -, X114, ⟨Lc114, hQ114, l114, y114, z114⟩, st114⟩ := X111.virtualBack hx (y := (⟨"com/example/atropos/atropos/lang/BuiltInFunction", "takes", "(I)Z"⟩ : MethodName)) (z := (⟨"com/example/atropos/atropos/lang/BuiltInFunction", "takes", "(I)Z"⟩ : MethodName)) hown (mvT hZ (hw _ (List.mem_of_getElem? (i := 3) rfl))) (mvT hZ (hw _ (List.mem_of_getElem? (i := 4) rfl))) (notFace_of_selects (args := #[]) (mvT hZ (hw _ (List.mem_of_getElem? (i := 6) rfl)))) (mvT hZ (hw _ (List.mem_of_getElem? (i := 6) rfl))) (mvT hZ (hw _ (List.mem_of_getElem? (i := 5) rfl))) (by decide) (backOf (W := 0) (rm_1 l Z a0 hw [] w_CEIL k1 (1 : Int32) (1 : Int32) h0 n0 Z0 F_CEIL_fewestArguments F_CEIL_mostArguments) hZ (hw _ (List.mem_of_getElem? (i := 7) rfl)) (hw _ (List.mem_of_getElem? (i := 1) rfl)) (by decide) (by decide)) q114a q114c (g := (mkF m 218 #[.val (.int k0), .val (.int k1), .val (.int (k0 &&& (7 : Int32))), .val (.int k1), .val (.ref w_CEIL), .val (.int (1 : Int32))] [(.int k1), (.ref w_CEIL)])) rfl (by rw [hml]; rfl) (Steps.refl _) (argsL := [(.int k1)]) (rest := []) (lenOf pd_0 rfl) rfl (by show 2 * 0 + _ ≤ _; exact Nat.le_of_eq rfl) (hb hby at_218) (fun _ _ => ⟨rfl, e111, (by decide : 0 + 0 ≤ _), (by decide : 0 + 0 ≤ _)⟩)
              dsimp only [Pt.U, Pt.locs, Pt.cells, Pt.slots] at X114 l114 y114 z114 st114 hQ114
              subst l114 y114 z114
              obtain ⟨hv114, N114q, e114⟩ := hQ114
              have N114 := Fr.app N0 N114q
              have hw114 : v114 = some (.int (1 : Int32)) := hv114.trans (congrArg (fun z => some (Value.int z)) (own_eq hc109_113))
              subst hw114
              have pre115 : ∀ t_, Steps p.tables e below (T114.setTop (mkF m 231 #[.val (.int k0), .val (.int k1), .val (.int (k0 &&& (7 : Int32))), .val (.int k1), .val (.ref w_CEIL), .val (.int (1 : Int32))] [(.int (1 : Int32))])) t_ → Steps p.tables e below (s₁.setTop (entryFrame m #[(.int k0), (.int k1)] maxLocals)) t_ := fun t_ k_ => pre112 t_ (by
                show Steps p.tables e below (T111.setTop (mkF m 109 #[.val (.int k0), .val (.int k1), .val (.int (k0 &&& (7 : Int32))), .val (.int k1), .val (.ref w_CEIL), .unset] [(.int (1 : Int32)), (.int k1)])) _
                refine XS.icmpNo X111.here hx rfl (hb hby at_109) rfl (teq hc109_113).2 ?_
                show Steps p.tables e below (T111.setTop (mkF m 112 #[.val (.int k0), .val (.int k1), .val (.int (k0 &&& (7 : Int32))), .val (.int k1), .val (.ref w_CEIL), .unset] [])) _
                refine XS.iconst X111.here hx rfl (hb hby at_112) ?_
                show Steps p.tables e below (T111.setTop (mkF m 113 #[.val (.int k0), .val (.int k1), .val (.int (k0 &&& (7 : Int32))), .val (.int k1), .val (.ref w_CEIL), .unset] [(.int (1 : Int32))])) _
                refine XS.goto X111.here hx rfl (pc0 := 113) (pc' := 117) rfl (hb hby at_113) (by decide) (by decide) ?_
                show Steps p.tables e below (T111.setTop (mkF m 117 #[.val (.int k0), .val (.int k1), .val (.int (k0 &&& (7 : Int32))), .val (.int k1), .val (.ref w_CEIL), .unset] [(.int (1 : Int32))])) _
                refine XS.istore X111.here hx rfl (hb hby at_117) rfl (l' := #[.val (.int k0), .val (.int k1), .val (.int (k0 &&& (7 : Int32))), .val (.int k1), .val (.ref w_CEIL), .val (.int (1 : Int32))]) rfl ?_
                show Steps p.tables e below (T111.setTop (mkF m 119 #[.val (.int k0), .val (.int k1), .val (.int (k0 &&& (7 : Int32))), .val (.int k1), .val (.ref w_CEIL), .val (.int (1 : Int32))] [])) _
                refine XS.goto X111.here hx rfl (pc0 := 119) (pc' := 215) rfl (hb hby at_119) (by decide) (by decide) ?_
                show Steps p.tables e below (T111.setTop (mkF m 215 #[.val (.int k0), .val (.int k1), .val (.int (k0 &&& (7 : Int32))), .val (.int k1), .val (.ref w_CEIL), .val (.int (1 : Int32))] [])) _
                refine XS.aload X111.here hx rfl (hb hby at_215) rfl rfl ?_
                show Steps p.tables e below (T111.setTop (mkF m 217 #[.val (.int k0), .val (.int k1), .val (.int (k0 &&& (7 : Int32))), .val (.int k1), .val (.ref w_CEIL), .val (.int (1 : Int32))] [(.ref w_CEIL)])) _
                refine XS.iloadN X111.here hx rfl (hb hby at_217) rfl ?_
                show Steps p.tables e below (T111.setTop (mkF m 218 #[.val (.int k0), .val (.int k1), .val (.int (k0 &&& (7 : Int32))), .val (.int k1), .val (.ref w_CEIL), .val (.int (1 : Int32))] [(.int k1), (.ref w_CEIL)])) _
                refine st114.trans ?_
                show Steps p.tables e below (T114.setTop (mkF m 221 #[.val (.int k0), .val (.int k1), .val (.int (k0 &&& (7 : Int32))), .val (.int k1), .val (.ref w_CEIL), .val (.int (1 : Int32))] [(.int (1 : Int32))])) _
                refine XS.iload X114.here hx rfl (hb hby at_221) rfl ?_
                show Steps p.tables e below (T114.setTop (mkF m 223 #[.val (.int k0), .val (.int k1), .val (.int (k0 &&& (7 : Int32))), .val (.int k1), .val (.ref w_CEIL), .val (.int (1 : Int32))] [(.int (1 : Int32)), (.int (1 : Int32))])) _
                refine XS.icmpNo X114.here hx rfl (hb hby at_223) rfl (teq (by decide : (1 : Int32) = (1 : Int32))).2 ?_
                show Steps p.tables e below (T114.setTop (mkF m 226 #[.val (.int k0), .val (.int k1), .val (.int (k0 &&& (7 : Int32))), .val (.int k1), .val (.ref w_CEIL), .val (.int (1 : Int32))] [])) _
                refine XS.iconst X114.here hx rfl (hb hby at_226) ?_
                show Steps p.tables e below (T114.setTop (mkF m 227 #[.val (.int k0), .val (.int k1), .val (.int (k0 &&& (7 : Int32))), .val (.int k1), .val (.ref w_CEIL), .val (.int (1 : Int32))] [(.int (1 : Int32))])) _
                refine XS.goto X114.here hx rfl (pc0 := 227) (pc' := 231) rfl (hb hby at_227) (by decide) (by decide) ?_
                show Steps p.tables e below (T114.setTop (mkF m 231 #[.val (.int k0), .val (.int k1), .val (.int (k0 &&& (7 : Int32))), .val (.int k1), .val (.ref w_CEIL), .val (.int (1 : Int32))] [(.int (1 : Int32))])) _
                exact k_)
              obtain ⟨fs, hr, hrun, hended, hW, hsame⟩ := X114.leave (v := some (.int (1 : Int32))) (fun h => by rw [Bd.returns] at h; cases h)
              refine ⟨_, _, pre115 _ ?_, hrun, hended, _, _, rfl, ?_, ⟨_, rfl⟩, hW, hsame.mono (by decide) (by decide)⟩
              · show Steps p.tables e below (T114.setTop (mkF m 231 #[.val (.int k0), .val (.int k1), .val (.int (k0 &&& (7 : Int32))), .val (.int k1), .val (.ref w_CEIL), .val (.int (1 : Int32))] [(.int (1 : Int32))])) _
                exact retN X114 hx (t := .boolean) Bd.returns (by simp) (hb hby at_231) hr
              · show Q_0 Z k0 k1 w_MIN w_MOD w_ROUND w_POW w_LOG w_CEIL w_MAX w_FLOOR h0 n0 _ T114.heap _
                rw [e114]
                exact ⟨rfl, N114⟩
            · obtain ⟨cq116, kq116, q116a, q116b, q116c⟩ := isOf hZ e111 E_CEIL
              obtain ⟨v116, _, ⟨T116, L116, k116, n116⟩, -, X116, ⟨Lc116, hQ116, l116, y116, z116⟩, st116⟩ := X111.virtualBack hx (y := (⟨"com/example/atropos/atropos/lang/BuiltInFunction", "takes", "(I)Z"⟩ : MethodName)) (z := (⟨"com/example/atropos/atropos/lang/BuiltInFunction", "takes", "(I)Z"⟩ : MethodName)) hown (mvT hZ (hw _ (List.mem_of_getElem? (i := 3) rfl))) (mvT hZ (hw _ (List.mem_of_getElem? (i := 4) rfl))) (notFace_of_selects (args := #[]) (mvT hZ (hw _ (List.mem_of_getElem? (i := 6) rfl)))) (mvT hZ (hw _ (List.mem_of_getElem? (i := 6) rfl))) (mvT hZ (hw _ (List.mem_of_getElem? (i := 5) rfl))) (by decide) (backOf (W := 0) (rm_1 l Z a0 hw [] w_CEIL k1 (1 : Int32) (1 : Int32) h0 n0 Z0 F_CEIL_fewestArguments F_CEIL_mostArguments) hZ (hw _ (List.mem_of_getElem? (i := 7) rfl)) (hw _ (List.mem_of_getElem? (i := 1) rfl)) (by decide) (by decide)) q116a q116c (g := (mkF m 218 #[.val (.int k0), .val (.int k1), .val (.int (k0 &&& (7 : Int32))), .val (.int k1), .val (.ref w_CEIL), .val (.int (0 : Int32))] [(.int k1), (.ref w_CEIL)])) rfl (by rw [hml]; rfl) (Steps.refl _) (argsL := [(.int k1)]) (rest := []) (lenOf pd_0 rfl) rfl (by show 2 * 0 + _ ≤ _; exact Nat.le_of_eq rfl) (hb hby at_218) (fun _ _ => ⟨rfl, e111, (by decide : 0 + 0 ≤ _), (by decide : 0 + 0 ≤ _)⟩)
              dsimp only [Pt.U, Pt.locs, Pt.cells, Pt.slots] at X116 l116 y116 z116 st116 hQ116
              subst l116 y116 z116
              obtain ⟨hv116, N116q, e116⟩ := hQ116
              have N116 := Fr.app N0 N116q
              have hw116 : v116 = some (.int (0 : Int32)) := hv116.trans (congrArg (fun z => some (Value.int z)) (own_ne hc109_113))
              subst hw116
              have pre117 : ∀ t_, Steps p.tables e below (T116.setTop (mkF m 231 #[.val (.int k0), .val (.int k1), .val (.int (k0 &&& (7 : Int32))), .val (.int k1), .val (.ref w_CEIL), .val (.int (0 : Int32))] [(.int (1 : Int32))])) t_ → Steps p.tables e below (s₁.setTop (entryFrame m #[(.int k0), (.int k1)] maxLocals)) t_ := fun t_ k_ => pre112 t_ (by
                show Steps p.tables e below (T111.setTop (mkF m 109 #[.val (.int k0), .val (.int k1), .val (.int (k0 &&& (7 : Int32))), .val (.int k1), .val (.ref w_CEIL), .unset] [(.int (1 : Int32)), (.int k1)])) _
                refine XS.icmpYes X111.here hx rfl (pc0 := 109) (pc' := 116) rfl (hb hby at_109) rfl (feq hc109_113).2 (by decide) (by decide) ?_
                show Steps p.tables e below (T111.setTop (mkF m 116 #[.val (.int k0), .val (.int k1), .val (.int (k0 &&& (7 : Int32))), .val (.int k1), .val (.ref w_CEIL), .unset] [])) _
                refine XS.iconst X111.here hx rfl (hb hby at_116) ?_
                show Steps p.tables e below (T111.setTop (mkF m 117 #[.val (.int k0), .val (.int k1), .val (.int (k0 &&& (7 : Int32))), .val (.int k1), .val (.ref w_CEIL), .unset] [(.int (0 : Int32))])) _
                refine XS.istore X111.here hx rfl (hb hby at_117) rfl (l' := #[.val (.int k0), .val (.int k1), .val (.int (k0 &&& (7 : Int32))), .val (.int k1), .val (.ref w_CEIL), .val (.int (0 : Int32))]) rfl ?_
                show Steps p.tables e below (T111.setTop (mkF m 119 #[.val (.int k0), .val (.int k1), .val (.int (k0 &&& (7 : Int32))), .val (.int k1), .val (.ref w_CEIL), .val (.int (0 : Int32))] [])) _
                refine XS.goto X111.here hx rfl (pc0 := 119) (pc' := 215) rfl (hb hby at_119) (by decide) (by decide) ?_
                show Steps p.tables e below (T111.setTop (mkF m 215 #[.val (.int k0), .val (.int k1), .val (.int (k0 &&& (7 : Int32))), .val (.int k1), .val (.ref w_CEIL), .val (.int (0 : Int32))] [])) _
                refine XS.aload X111.here hx rfl (hb hby at_215) rfl rfl ?_
                show Steps p.tables e below (T111.setTop (mkF m 217 #[.val (.int k0), .val (.int k1), .val (.int (k0 &&& (7 : Int32))), .val (.int k1), .val (.ref w_CEIL), .val (.int (0 : Int32))] [(.ref w_CEIL)])) _
                refine XS.iloadN X111.here hx rfl (hb hby at_217) rfl ?_
                show Steps p.tables e below (T111.setTop (mkF m 218 #[.val (.int k0), .val (.int k1), .val (.int (k0 &&& (7 : Int32))), .val (.int k1), .val (.ref w_CEIL), .val (.int (0 : Int32))] [(.int k1), (.ref w_CEIL)])) _
                refine st116.trans ?_
                show Steps p.tables e below (T116.setTop (mkF m 221 #[.val (.int k0), .val (.int k1), .val (.int (k0 &&& (7 : Int32))), .val (.int k1), .val (.ref w_CEIL), .val (.int (0 : Int32))] [(.int (0 : Int32))])) _
                refine XS.iload X116.here hx rfl (hb hby at_221) rfl ?_
                show Steps p.tables e below (T116.setTop (mkF m 223 #[.val (.int k0), .val (.int k1), .val (.int (k0 &&& (7 : Int32))), .val (.int k1), .val (.ref w_CEIL), .val (.int (0 : Int32))] [(.int (0 : Int32)), (.int (0 : Int32))])) _
                refine XS.icmpNo X116.here hx rfl (hb hby at_223) rfl (teq (by decide : (0 : Int32) = (0 : Int32))).2 ?_
                show Steps p.tables e below (T116.setTop (mkF m 226 #[.val (.int k0), .val (.int k1), .val (.int (k0 &&& (7 : Int32))), .val (.int k1), .val (.ref w_CEIL), .val (.int (0 : Int32))] [])) _
                refine XS.iconst X116.here hx rfl (hb hby at_226) ?_
                show Steps p.tables e below (T116.setTop (mkF m 227 #[.val (.int k0), .val (.int k1), .val (.int (k0 &&& (7 : Int32))), .val (.int k1), .val (.ref w_CEIL), .val (.int (0 : Int32))] [(.int (1 : Int32))])) _
                refine XS.goto X116.here hx rfl (pc0 := 227) (pc' := 231) rfl (hb hby at_227) (by decide) (by decide) ?_
                show Steps p.tables e below (T116.setTop (mkF m 231 #[.val (.int k0), .val (.int k1), .val (.int (k0 &&& (7 : Int32))), .val (.int k1), .val (.ref w_CEIL), .val (.int (0 : Int32))] [(.int (1 : Int32))])) _
                exact k_)
              obtain ⟨fs, hr, hrun, hended, hW, hsame⟩ := X116.leave (v := some (.int (1 : Int32))) (fun h => by rw [Bd.returns] at h; cases h)
              refine ⟨_, _, pre117 _ ?_, hrun, hended, _, _, rfl, ?_, ⟨_, rfl⟩, hW, hsame.mono (by decide) (by decide)⟩
              · show Steps p.tables e below (T116.setTop (mkF m 231 #[.val (.int k0), .val (.int k1), .val (.int (k0 &&& (7 : Int32))), .val (.int k1), .val (.ref w_CEIL), .val (.int (0 : Int32))] [(.int (1 : Int32))])) _
                exact retN X116 hx (t := .boolean) Bd.returns (by simp) (hb hby at_231) hr
              · show Q_0 Z k0 k1 w_MIN w_MOD w_ROUND w_POW w_LOG w_CEIL w_MAX w_FLOOR h0 n0 _ T116.heap _
                rw [e116]
                exact ⟨rfl, N116⟩
          · have pre118 : ∀ t_, Steps p.tables e below (s₁.setTop (mkF m 124 #[.val (.int k0), .val (.int k1), .val (.int (k0 &&& (7 : Int32))), .val (.int k1), .unset, .unset] [(.int (4 : Int32)), (.int (k0 &&& (7 : Int32)))])) t_ → Steps p.tables e below (s₁.setTop (entryFrame m #[(.int k0), (.int k1)] maxLocals)) t_ := fun t_ k_ => pre109 t_ (by
              show Steps p.tables e below (s₁.setTop (mkF m 99 #[.val (.int k0), .val (.int k1), .val (.int (k0 &&& (7 : Int32))), .val (.int k1), .unset, .unset] [(.int (3 : Int32)), (.int (k0 &&& (7 : Int32)))])) _
              refine XS.icmpYes X0.here hx rfl (pc0 := 99) (pc' := 122) rfl (hb hby at_99) rfl (feq hc99_110).2 (by decide) (by decide) ?_
              show Steps p.tables e below (s₁.setTop (mkF m 122 #[.val (.int k0), .val (.int k1), .val (.int (k0 &&& (7 : Int32))), .val (.int k1), .unset, .unset] [])) _
              refine XS.iloadN X0.here hx rfl (hb hby at_122) rfl ?_
              show Steps p.tables e below (s₁.setTop (mkF m 123 #[.val (.int k0), .val (.int k1), .val (.int (k0 &&& (7 : Int32))), .val (.int k1), .unset, .unset] [(.int (k0 &&& (7 : Int32)))])) _
              refine XS.iconst X0.here hx rfl (hb hby at_123) ?_
              show Steps p.tables e below (s₁.setTop (mkF m 124 #[.val (.int k0), .val (.int k1), .val (.int (k0 &&& (7 : Int32))), .val (.int k1), .unset, .unset] [(.int (4 : Int32)), (.int (k0 &&& (7 : Int32)))])) _
              exact k_)
            by_cases hc124_119 : (k0 &&& (7 : Int32)) = (4 : Int32)
            · obtain ⟨T120, X120, e120, st120⟩ := getS2 X0 hx hZ hown (host := "") (Or.inl (hw _ (List.mem_of_getElem? (i := 12) rfl))) Via.refl e0 S_ROUND (g := (mkF m 127 #[.val (.int k0), .val (.int k1), .val (.int (k0 &&& (7 : Int32))), .val (.int k1), .unset, .unset] [])) rfl (hb hby at_127)
              have pre121 : ∀ t_, Steps p.tables e below (T120.setTop (mkF m 134 #[.val (.int k0), .val (.int k1), .val (.int (k0 &&& (7 : Int32))), .val (.int k1), .val (.ref w_ROUND), .unset] [(.int (1 : Int32)), (.int k1)])) t_ → Steps p.tables e below (s₁.setTop (entryFrame m #[(.int k0), (.int k1)] maxLocals)) t_ := fun t_ k_ => pre118 t_ (by
                show Steps p.tables e below (s₁.setTop (mkF m 124 #[.val (.int k0), .val (.int k1), .val (.int (k0 &&& (7 : Int32))), .val (.int k1), .unset, .unset] [(.int (4 : Int32)), (.int (k0 &&& (7 : Int32)))])) _
                refine XS.icmpNo X0.here hx rfl (hb hby at_124) rfl (teq hc124_119).2 ?_
                show Steps p.tables e below (s₁.setTop (mkF m 127 #[.val (.int k0), .val (.int k1), .val (.int (k0 &&& (7 : Int32))), .val (.int k1), .unset, .unset] [])) _
                refine st120 _ ?_
                show Steps p.tables e below (T120.setTop (mkF m 130 #[.val (.int k0), .val (.int k1), .val (.int (k0 &&& (7 : Int32))), .val (.int k1), .unset, .unset] [(.ref w_ROUND)])) _
                refine XS.astore X120.here hx rfl (hb hby at_130) rfl rfl (l' := #[.val (.int k0), .val (.int k1), .val (.int (k0 &&& (7 : Int32))), .val (.int k1), .val (.ref w_ROUND), .unset]) rfl ?_
                show Steps p.tables e below (T120.setTop (mkF m 132 #[.val (.int k0), .val (.int k1), .val (.int (k0 &&& (7 : Int32))), .val (.int k1), .val (.ref w_ROUND), .unset] [])) _
                refine XS.iloadN X120.here hx rfl (hb hby at_132) rfl ?_
                show Steps p.tables e below (T120.setTop (mkF m 133 #[.val (.int k0), .val (.int k1), .val (.int (k0 &&& (7 : Int32))), .val (.int k1), .val (.ref w_ROUND), .unset] [(.int k1)])) _
                refine XS.iconst X120.here hx rfl (hb hby at_133) ?_
                show Steps p.tables e below (T120.setTop (mkF m 134 #[.val (.int k0), .val (.int k1), .val (.int (k0 &&& (7 : Int32))), .val (.int k1), .val (.ref w_ROUND), .unset] [(.int (1 : Int32)), (.int k1)])) _
                exact k_)
              by_cases hc134_122 : k1 = (1 : Int32)
              · obtain ⟨cq123, kq123, q123a, q123b, q123c⟩ := isOf hZ e120 E_ROUND
                obtain ⟨v123, _, ⟨T123, L123, k123, n123⟩, -, X123, ⟨Lc123, hQ123, l123, y123, z123⟩, st123⟩ := X120.virtualBack hx (y := (⟨"com/example/atropos/atropos/lang/BuiltInFunction", "takes", "(I)Z"⟩ : MethodName)) (z := (⟨"com/example/atropos/atropos/lang/BuiltInFunction", "takes", "(I)Z"⟩ : MethodName)) hown (mvT hZ (hw _ (List.mem_of_getElem? (i := 3) rfl))) (mvT hZ (hw _ (List.mem_of_getElem? (i := 4) rfl))) (notFace_of_selects (args := #[]) (mvT hZ (hw _ (List.mem_of_getElem? (i := 6) rfl)))) (mvT hZ (hw _ (List.mem_of_getElem? (i := 6) rfl))) (mvT hZ (hw _ (List.mem_of_getElem? (i := 5) rfl))) (by decide) (backOf (W := 0) (rm_1 l Z a0 hw [] w_ROUND k1 (1 : Int32) (1 : Int32) h0 n0 Z0 F_ROUND_fewestArguments F_ROUND_mostArguments) hZ (hw _ (List.mem_of_getElem? (i := 7) rfl)) (hw _ (List.mem_of_getElem? (i := 1) rfl)) (by decide) (by decide)) q123a q123c (g := (mkF m 218 #[.val (.int k0), .val (.int k1), .val (.int (k0 &&& (7 : Int32))), .val (.int k1), .val (.ref w_ROUND), .val (.int (1 : Int32))] [(.int k1), (.ref w_ROUND)])) rfl (by rw [hml]; rfl) (Steps.refl _) (argsL := [(.int k1)]) (rest := []) (lenOf pd_0 rfl) rfl (by show 2 * 0 + _ ≤ _; exact Nat.le_of_eq rfl) (hb hby at_218) (fun _ _ => ⟨rfl, e120, (by decide : 0 + 0 ≤ _), (by decide : 0 + 0 ≤ _)⟩)
                dsimp only [Pt.U, Pt.locs, Pt.cells, Pt.slots] at X123 l123 y123 z123 st123 hQ123
                subst l123 y123 z123
                obtain ⟨hv123, N123q, e123⟩ := hQ123
                have N123 := Fr.app N0 N123q
                have hw123 : v123 = some (.int (1 : Int32)) := hv123.trans (congrArg (fun z => some (Value.int z)) (own_eq hc134_122))
                subst hw123
                have pre124 : ∀ t_, Steps p.tables e below (T123.setTop (mkF m 231 #[.val (.int k0), .val (.int k1), .val (.int (k0 &&& (7 : Int32))), .val (.int k1), .val (.ref w_ROUND), .val (.int (1 : Int32))] [(.int (1 : Int32))])) t_ → Steps p.tables e below (s₁.setTop (entryFrame m #[(.int k0), (.int k1)] maxLocals)) t_ := fun t_ k_ => pre121 t_ (by
                  show Steps p.tables e below (T120.setTop (mkF m 134 #[.val (.int k0), .val (.int k1), .val (.int (k0 &&& (7 : Int32))), .val (.int k1), .val (.ref w_ROUND), .unset] [(.int (1 : Int32)), (.int k1)])) _
                  refine XS.icmpNo X120.here hx rfl (hb hby at_134) rfl (teq hc134_122).2 ?_
                  show Steps p.tables e below (T120.setTop (mkF m 137 #[.val (.int k0), .val (.int k1), .val (.int (k0 &&& (7 : Int32))), .val (.int k1), .val (.ref w_ROUND), .unset] [])) _
                  refine XS.iconst X120.here hx rfl (hb hby at_137) ?_
                  show Steps p.tables e below (T120.setTop (mkF m 138 #[.val (.int k0), .val (.int k1), .val (.int (k0 &&& (7 : Int32))), .val (.int k1), .val (.ref w_ROUND), .unset] [(.int (1 : Int32))])) _
                  refine XS.goto X120.here hx rfl (pc0 := 138) (pc' := 142) rfl (hb hby at_138) (by decide) (by decide) ?_
                  show Steps p.tables e below (T120.setTop (mkF m 142 #[.val (.int k0), .val (.int k1), .val (.int (k0 &&& (7 : Int32))), .val (.int k1), .val (.ref w_ROUND), .unset] [(.int (1 : Int32))])) _
                  refine XS.istore X120.here hx rfl (hb hby at_142) rfl (l' := #[.val (.int k0), .val (.int k1), .val (.int (k0 &&& (7 : Int32))), .val (.int k1), .val (.ref w_ROUND), .val (.int (1 : Int32))]) rfl ?_
                  show Steps p.tables e below (T120.setTop (mkF m 144 #[.val (.int k0), .val (.int k1), .val (.int (k0 &&& (7 : Int32))), .val (.int k1), .val (.ref w_ROUND), .val (.int (1 : Int32))] [])) _
                  refine XS.goto X120.here hx rfl (pc0 := 144) (pc' := 215) rfl (hb hby at_144) (by decide) (by decide) ?_
                  show Steps p.tables e below (T120.setTop (mkF m 215 #[.val (.int k0), .val (.int k1), .val (.int (k0 &&& (7 : Int32))), .val (.int k1), .val (.ref w_ROUND), .val (.int (1 : Int32))] [])) _
                  refine XS.aload X120.here hx rfl (hb hby at_215) rfl rfl ?_
                  show Steps p.tables e below (T120.setTop (mkF m 217 #[.val (.int k0), .val (.int k1), .val (.int (k0 &&& (7 : Int32))), .val (.int k1), .val (.ref w_ROUND), .val (.int (1 : Int32))] [(.ref w_ROUND)])) _
                  refine XS.iloadN X120.here hx rfl (hb hby at_217) rfl ?_
                  show Steps p.tables e below (T120.setTop (mkF m 218 #[.val (.int k0), .val (.int k1), .val (.int (k0 &&& (7 : Int32))), .val (.int k1), .val (.ref w_ROUND), .val (.int (1 : Int32))] [(.int k1), (.ref w_ROUND)])) _
                  refine st123.trans ?_
                  show Steps p.tables e below (T123.setTop (mkF m 221 #[.val (.int k0), .val (.int k1), .val (.int (k0 &&& (7 : Int32))), .val (.int k1), .val (.ref w_ROUND), .val (.int (1 : Int32))] [(.int (1 : Int32))])) _
                  refine XS.iload X123.here hx rfl (hb hby at_221) rfl ?_
                  show Steps p.tables e below (T123.setTop (mkF m 223 #[.val (.int k0), .val (.int k1), .val (.int (k0 &&& (7 : Int32))), .val (.int k1), .val (.ref w_ROUND), .val (.int (1 : Int32))] [(.int (1 : Int32)), (.int (1 : Int32))])) _
                  refine XS.icmpNo X123.here hx rfl (hb hby at_223) rfl (teq (by decide : (1 : Int32) = (1 : Int32))).2 ?_
                  show Steps p.tables e below (T123.setTop (mkF m 226 #[.val (.int k0), .val (.int k1), .val (.int (k0 &&& (7 : Int32))), .val (.int k1), .val (.ref w_ROUND), .val (.int (1 : Int32))] [])) _
                  refine XS.iconst X123.here hx rfl (hb hby at_226) ?_
                  show Steps p.tables e below (T123.setTop (mkF m 227 #[.val (.int k0), .val (.int k1), .val (.int (k0 &&& (7 : Int32))), .val (.int k1), .val (.ref w_ROUND), .val (.int (1 : Int32))] [(.int (1 : Int32))])) _
                  refine XS.goto X123.here hx rfl (pc0 := 227) (pc' := 231) rfl (hb hby at_227) (by decide) (by decide) ?_
                  show Steps p.tables e below (T123.setTop (mkF m 231 #[.val (.int k0), .val (.int k1), .val (.int (k0 &&& (7 : Int32))), .val (.int k1), .val (.ref w_ROUND), .val (.int (1 : Int32))] [(.int (1 : Int32))])) _
                  exact k_)
                obtain ⟨fs, hr, hrun, hended, hW, hsame⟩ := X123.leave (v := some (.int (1 : Int32))) (fun h => by rw [Bd.returns] at h; cases h)
                refine ⟨_, _, pre124 _ ?_, hrun, hended, _, _, rfl, ?_, ⟨_, rfl⟩, hW, hsame.mono (by decide) (by decide)⟩
                · show Steps p.tables e below (T123.setTop (mkF m 231 #[.val (.int k0), .val (.int k1), .val (.int (k0 &&& (7 : Int32))), .val (.int k1), .val (.ref w_ROUND), .val (.int (1 : Int32))] [(.int (1 : Int32))])) _
                  exact retN X123 hx (t := .boolean) Bd.returns (by simp) (hb hby at_231) hr
                · show Q_0 Z k0 k1 w_MIN w_MOD w_ROUND w_POW w_LOG w_CEIL w_MAX w_FLOOR h0 n0 _ T123.heap _
                  rw [e123]
                  exact ⟨rfl, N123⟩
              · obtain ⟨cq125, kq125, q125a, q125b, q125c⟩ := isOf hZ e120 E_ROUND
                obtain ⟨v125, _, ⟨T125, L125, k125, n125⟩, -, X125, ⟨Lc125, hQ125, l125, y125, z125⟩, st125⟩ := X120.virtualBack hx (y := (⟨"com/example/atropos/atropos/lang/BuiltInFunction", "takes", "(I)Z"⟩ : MethodName)) (z := (⟨"com/example/atropos/atropos/lang/BuiltInFunction", "takes", "(I)Z"⟩ : MethodName)) hown (mvT hZ (hw _ (List.mem_of_getElem? (i := 3) rfl))) (mvT hZ (hw _ (List.mem_of_getElem? (i := 4) rfl))) (notFace_of_selects (args := #[]) (mvT hZ (hw _ (List.mem_of_getElem? (i := 6) rfl)))) (mvT hZ (hw _ (List.mem_of_getElem? (i := 6) rfl))) (mvT hZ (hw _ (List.mem_of_getElem? (i := 5) rfl))) (by decide) (backOf (W := 0) (rm_1 l Z a0 hw [] w_ROUND k1 (1 : Int32) (1 : Int32) h0 n0 Z0 F_ROUND_fewestArguments F_ROUND_mostArguments) hZ (hw _ (List.mem_of_getElem? (i := 7) rfl)) (hw _ (List.mem_of_getElem? (i := 1) rfl)) (by decide) (by decide)) q125a q125c (g := (mkF m 218 #[.val (.int k0), .val (.int k1), .val (.int (k0 &&& (7 : Int32))), .val (.int k1), .val (.ref w_ROUND), .val (.int (0 : Int32))] [(.int k1), (.ref w_ROUND)])) rfl (by rw [hml]; rfl) (Steps.refl _) (argsL := [(.int k1)]) (rest := []) (lenOf pd_0 rfl) rfl (by show 2 * 0 + _ ≤ _; exact Nat.le_of_eq rfl) (hb hby at_218) (fun _ _ => ⟨rfl, e120, (by decide : 0 + 0 ≤ _), (by decide : 0 + 0 ≤ _)⟩)
                dsimp only [Pt.U, Pt.locs, Pt.cells, Pt.slots] at X125 l125 y125 z125 st125 hQ125
                subst l125 y125 z125
                obtain ⟨hv125, N125q, e125⟩ := hQ125
                have N125 := Fr.app N0 N125q
                have hw125 : v125 = some (.int (0 : Int32)) := hv125.trans (congrArg (fun z => some (Value.int z)) (own_ne hc134_122))
                subst hw125
                have pre126 : ∀ t_, Steps p.tables e below (T125.setTop (mkF m 231 #[.val (.int k0), .val (.int k1), .val (.int (k0 &&& (7 : Int32))), .val (.int k1), .val (.ref w_ROUND), .val (.int (0 : Int32))] [(.int (1 : Int32))])) t_ → Steps p.tables e below (s₁.setTop (entryFrame m #[(.int k0), (.int k1)] maxLocals)) t_ := fun t_ k_ => pre121 t_ (by
                  show Steps p.tables e below (T120.setTop (mkF m 134 #[.val (.int k0), .val (.int k1), .val (.int (k0 &&& (7 : Int32))), .val (.int k1), .val (.ref w_ROUND), .unset] [(.int (1 : Int32)), (.int k1)])) _
                  refine XS.icmpYes X120.here hx rfl (pc0 := 134) (pc' := 141) rfl (hb hby at_134) rfl (feq hc134_122).2 (by decide) (by decide) ?_
                  show Steps p.tables e below (T120.setTop (mkF m 141 #[.val (.int k0), .val (.int k1), .val (.int (k0 &&& (7 : Int32))), .val (.int k1), .val (.ref w_ROUND), .unset] [])) _
                  refine XS.iconst X120.here hx rfl (hb hby at_141) ?_
                  show Steps p.tables e below (T120.setTop (mkF m 142 #[.val (.int k0), .val (.int k1), .val (.int (k0 &&& (7 : Int32))), .val (.int k1), .val (.ref w_ROUND), .unset] [(.int (0 : Int32))])) _
                  refine XS.istore X120.here hx rfl (hb hby at_142) rfl (l' := #[.val (.int k0), .val (.int k1), .val (.int (k0 &&& (7 : Int32))), .val (.int k1), .val (.ref w_ROUND), .val (.int (0 : Int32))]) rfl ?_
                  show Steps p.tables e below (T120.setTop (mkF m 144 #[.val (.int k0), .val (.int k1), .val (.int (k0 &&& (7 : Int32))), .val (.int k1), .val (.ref w_ROUND), .val (.int (0 : Int32))] [])) _
                  refine XS.goto X120.here hx rfl (pc0 := 144) (pc' := 215) rfl (hb hby at_144) (by decide) (by decide) ?_
                  show Steps p.tables e below (T120.setTop (mkF m 215 #[.val (.int k0), .val (.int k1), .val (.int (k0 &&& (7 : Int32))), .val (.int k1), .val (.ref w_ROUND), .val (.int (0 : Int32))] [])) _
                  refine XS.aload X120.here hx rfl (hb hby at_215) rfl rfl ?_
                  show Steps p.tables e below (T120.setTop (mkF m 217 #[.val (.int k0), .val (.int k1), .val (.int (k0 &&& (7 : Int32))), .val (.int k1), .val (.ref w_ROUND), .val (.int (0 : Int32))] [(.ref w_ROUND)])) _
                  refine XS.iloadN X120.here hx rfl (hb hby at_217) rfl ?_
                  show Steps p.tables e below (T120.setTop (mkF m 218 #[.val (.int k0), .val (.int k1), .val (.int (k0 &&& (7 : Int32))), .val (.int k1), .val (.ref w_ROUND), .val (.int (0 : Int32))] [(.int k1), (.ref w_ROUND)])) _
                  refine st125.trans ?_
                  show Steps p.tables e below (T125.setTop (mkF m 221 #[.val (.int k0), .val (.int k1), .val (.int (k0 &&& (7 : Int32))), .val (.int k1), .val (.ref w_ROUND), .val (.int (0 : Int32))] [(.int (0 : Int32))])) _
                  refine XS.iload X125.here hx rfl (hb hby at_221) rfl ?_
                  show Steps p.tables e below (T125.setTop (mkF m 223 #[.val (.int k0), .val (.int k1), .val (.int (k0 &&& (7 : Int32))), .val (.int k1), .val (.ref w_ROUND), .val (.int (0 : Int32))] [(.int (0 : Int32)), (.int (0 : Int32))])) _
                  refine XS.icmpNo X125.here hx rfl (hb hby at_223) rfl (teq (by decide : (0 : Int32) = (0 : Int32))).2 ?_
                  show Steps p.tables e below (T125.setTop (mkF m 226 #[.val (.int k0), .val (.int k1), .val (.int (k0 &&& (7 : Int32))), .val (.int k1), .val (.ref w_ROUND), .val (.int (0 : Int32))] [])) _
                  refine XS.iconst X125.here hx rfl (hb hby at_226) ?_
                  show Steps p.tables e below (T125.setTop (mkF m 227 #[.val (.int k0), .val (.int k1), .val (.int (k0 &&& (7 : Int32))), .val (.int k1), .val (.ref w_ROUND), .val (.int (0 : Int32))] [(.int (1 : Int32))])) _
                  refine XS.goto X125.here hx rfl (pc0 := 227) (pc' := 231) rfl (hb hby at_227) (by decide) (by decide) ?_
                  show Steps p.tables e below (T125.setTop (mkF m 231 #[.val (.int k0), .val (.int k1), .val (.int (k0 &&& (7 : Int32))), .val (.int k1), .val (.ref w_ROUND), .val (.int (0 : Int32))] [(.int (1 : Int32))])) _
                  exact k_)
                obtain ⟨fs, hr, hrun, hended, hW, hsame⟩ := X125.leave (v := some (.int (1 : Int32))) (fun h => by rw [Bd.returns] at h; cases h)
                refine ⟨_, _, pre126 _ ?_, hrun, hended, _, _, rfl, ?_, ⟨_, rfl⟩, hW, hsame.mono (by decide) (by decide)⟩
                · show Steps p.tables e below (T125.setTop (mkF m 231 #[.val (.int k0), .val (.int k1), .val (.int (k0 &&& (7 : Int32))), .val (.int k1), .val (.ref w_ROUND), .val (.int (0 : Int32))] [(.int (1 : Int32))])) _
                  exact retN X125 hx (t := .boolean) Bd.returns (by simp) (hb hby at_231) hr
                · show Q_0 Z k0 k1 w_MIN w_MOD w_ROUND w_POW w_LOG w_CEIL w_MAX w_FLOOR h0 n0 _ T125.heap _
                  rw [e125]
                  exact ⟨rfl, N125⟩
            · have pre127 : ∀ t_, Steps p.tables e below (s₁.setTop (mkF m 149 #[.val (.int k0), .val (.int k1), .val (.int (k0 &&& (7 : Int32))), .val (.int k1), .unset, .unset] [(.int (5 : Int32)), (.int (k0 &&& (7 : Int32)))])) t_ → Steps p.tables e below (s₁.setTop (entryFrame m #[(.int k0), (.int k1)] maxLocals)) t_ := fun t_ k_ => pre118 t_ (by
                show Steps p.tables e below (s₁.setTop (mkF m 124 #[.val (.int k0), .val (.int k1), .val (.int (k0 &&& (7 : Int32))), .val (.int k1), .unset, .unset] [(.int (4 : Int32)), (.int (k0 &&& (7 : Int32)))])) _
                refine XS.icmpYes X0.here hx rfl (pc0 := 124) (pc' := 147) rfl (hb hby at_124) rfl (feq hc124_119).2 (by decide) (by decide) ?_
                show Steps p.tables e below (s₁.setTop (mkF m 147 #[.val (.int k0), .val (.int k1), .val (.int (k0 &&& (7 : Int32))), .val (.int k1), .unset, .unset] [])) _
                refine XS.iloadN X0.here hx rfl (hb hby at_147) rfl ?_
                show Steps p.tables e below (s₁.setTop (mkF m 148 #[.val (.int k0), .val (.int k1), .val (.int (k0 &&& (7 : Int32))), .val (.int k1), .unset, .unset] [(.int (k0 &&& (7 : Int32)))])) _
                refine XS.iconst X0.here hx rfl (hb hby at_148) ?_
                show Steps p.tables e below (s₁.setTop (mkF m 149 #[.val (.int k0), .val (.int k1), .val (.int (k0 &&& (7 : Int32))), .val (.int k1), .unset, .unset] [(.int (5 : Int32)), (.int (k0 &&& (7 : Int32)))])) _
                exact k_)
              by_cases hc149_128 : (k0 &&& (7 : Int32)) = (5 : Int32)
              · obtain ⟨T129, X129, e129, st129⟩ := getS2 X0 hx hZ hown (host := "") (Or.inl (hw _ (List.mem_of_getElem? (i := 16) rfl))) Via.refl e0 S_POW (g := (mkF m 152 #[.val (.int k0), .val (.int k1), .val (.int (k0 &&& (7 : Int32))), .val (.int k1), .unset, .unset] [])) rfl (hb hby at_152)
                have pre130 : ∀ t_, Steps p.tables e below (T129.setTop (mkF m 159 #[.val (.int k0), .val (.int k1), .val (.int (k0 &&& (7 : Int32))), .val (.int k1), .val (.ref w_POW), .unset] [(.int (2 : Int32)), (.int k1)])) t_ → Steps p.tables e below (s₁.setTop (entryFrame m #[(.int k0), (.int k1)] maxLocals)) t_ := fun t_ k_ => pre127 t_ (by
                  show Steps p.tables e below (s₁.setTop (mkF m 149 #[.val (.int k0), .val (.int k1), .val (.int (k0 &&& (7 : Int32))), .val (.int k1), .unset, .unset] [(.int (5 : Int32)), (.int (k0 &&& (7 : Int32)))])) _
                  refine XS.icmpNo X0.here hx rfl (hb hby at_149) rfl (teq hc149_128).2 ?_
                  show Steps p.tables e below (s₁.setTop (mkF m 152 #[.val (.int k0), .val (.int k1), .val (.int (k0 &&& (7 : Int32))), .val (.int k1), .unset, .unset] [])) _
                  refine st129 _ ?_
                  show Steps p.tables e below (T129.setTop (mkF m 155 #[.val (.int k0), .val (.int k1), .val (.int (k0 &&& (7 : Int32))), .val (.int k1), .unset, .unset] [(.ref w_POW)])) _
                  refine XS.astore X129.here hx rfl (hb hby at_155) rfl rfl (l' := #[.val (.int k0), .val (.int k1), .val (.int (k0 &&& (7 : Int32))), .val (.int k1), .val (.ref w_POW), .unset]) rfl ?_
                  show Steps p.tables e below (T129.setTop (mkF m 157 #[.val (.int k0), .val (.int k1), .val (.int (k0 &&& (7 : Int32))), .val (.int k1), .val (.ref w_POW), .unset] [])) _
                  refine XS.iloadN X129.here hx rfl (hb hby at_157) rfl ?_
                  show Steps p.tables e below (T129.setTop (mkF m 158 #[.val (.int k0), .val (.int k1), .val (.int (k0 &&& (7 : Int32))), .val (.int k1), .val (.ref w_POW), .unset] [(.int k1)])) _
                  refine XS.iconst X129.here hx rfl (hb hby at_158) ?_
                  show Steps p.tables e below (T129.setTop (mkF m 159 #[.val (.int k0), .val (.int k1), .val (.int (k0 &&& (7 : Int32))), .val (.int k1), .val (.ref w_POW), .unset] [(.int (2 : Int32)), (.int k1)])) _
                  exact k_)
                by_cases hc159_131 : k1 = (2 : Int32)
                · obtain ⟨cq132, kq132, q132a, q132b, q132c⟩ := isOf hZ e129 E_POW
                  obtain ⟨v132, _, ⟨T132, L132, k132, n132⟩, -, X132, ⟨Lc132, hQ132, l132, y132, z132⟩, st132⟩ := X129.virtualBack hx (y := (⟨"com/example/atropos/atropos/lang/BuiltInFunction", "takes", "(I)Z"⟩ : MethodName)) (z := (⟨"com/example/atropos/atropos/lang/BuiltInFunction", "takes", "(I)Z"⟩ : MethodName)) hown (mvT hZ (hw _ (List.mem_of_getElem? (i := 3) rfl))) (mvT hZ (hw _ (List.mem_of_getElem? (i := 4) rfl))) (notFace_of_selects (args := #[]) (mvT hZ (hw _ (List.mem_of_getElem? (i := 6) rfl)))) (mvT hZ (hw _ (List.mem_of_getElem? (i := 6) rfl))) (mvT hZ (hw _ (List.mem_of_getElem? (i := 5) rfl))) (by decide) (backOf (W := 0) (rm_1 l Z a0 hw [] w_POW k1 (2 : Int32) (2 : Int32) h0 n0 Z0 F_POW_fewestArguments F_POW_mostArguments) hZ (hw _ (List.mem_of_getElem? (i := 7) rfl)) (hw _ (List.mem_of_getElem? (i := 1) rfl)) (by decide) (by decide)) q132a q132c (g := (mkF m 218 #[.val (.int k0), .val (.int k1), .val (.int (k0 &&& (7 : Int32))), .val (.int k1), .val (.ref w_POW), .val (.int (1 : Int32))] [(.int k1), (.ref w_POW)])) rfl (by rw [hml]; rfl) (Steps.refl _) (argsL := [(.int k1)]) (rest := []) (lenOf pd_0 rfl) rfl (by show 2 * 0 + _ ≤ _; exact Nat.le_of_eq rfl) (hb hby at_218) (fun _ _ => ⟨rfl, e129, (by decide : 0 + 0 ≤ _), (by decide : 0 + 0 ≤ _)⟩)
                  dsimp only [Pt.U, Pt.locs, Pt.cells, Pt.slots] at X132 l132 y132 z132 st132 hQ132
                  subst l132 y132 z132
                  obtain ⟨hv132, N132q, e132⟩ := hQ132
                  have N132 := Fr.app N0 N132q
                  have hw132 : v132 = some (.int (1 : Int32)) := hv132.trans (congrArg (fun z => some (Value.int z)) (own_eq hc159_131))
                  subst hw132
                  have pre133 : ∀ t_, Steps p.tables e below (T132.setTop (mkF m 231 #[.val (.int k0), .val (.int k1), .val (.int (k0 &&& (7 : Int32))), .val (.int k1), .val (.ref w_POW), .val (.int (1 : Int32))] [(.int (1 : Int32))])) t_ → Steps p.tables e below (s₁.setTop (entryFrame m #[(.int k0), (.int k1)] maxLocals)) t_ := fun t_ k_ => pre130 t_ (by
                    show Steps p.tables e below (T129.setTop (mkF m 159 #[.val (.int k0), .val (.int k1), .val (.int (k0 &&& (7 : Int32))), .val (.int k1), .val (.ref w_POW), .unset] [(.int (2 : Int32)), (.int k1)])) _
                    refine XS.icmpNo X129.here hx rfl (hb hby at_159) rfl (teq hc159_131).2 ?_
                    show Steps p.tables e below (T129.setTop (mkF m 162 #[.val (.int k0), .val (.int k1), .val (.int (k0 &&& (7 : Int32))), .val (.int k1), .val (.ref w_POW), .unset] [])) _
                    refine XS.iconst X129.here hx rfl (hb hby at_162) ?_
                    show Steps p.tables e below (T129.setTop (mkF m 163 #[.val (.int k0), .val (.int k1), .val (.int (k0 &&& (7 : Int32))), .val (.int k1), .val (.ref w_POW), .unset] [(.int (1 : Int32))])) _
                    refine XS.goto X129.here hx rfl (pc0 := 163) (pc' := 167) rfl (hb hby at_163) (by decide) (by decide) ?_
                    show Steps p.tables e below (T129.setTop (mkF m 167 #[.val (.int k0), .val (.int k1), .val (.int (k0 &&& (7 : Int32))), .val (.int k1), .val (.ref w_POW), .unset] [(.int (1 : Int32))])) _
                    refine XS.istore X129.here hx rfl (hb hby at_167) rfl (l' := #[.val (.int k0), .val (.int k1), .val (.int (k0 &&& (7 : Int32))), .val (.int k1), .val (.ref w_POW), .val (.int (1 : Int32))]) rfl ?_
                    show Steps p.tables e below (T129.setTop (mkF m 169 #[.val (.int k0), .val (.int k1), .val (.int (k0 &&& (7 : Int32))), .val (.int k1), .val (.ref w_POW), .val (.int (1 : Int32))] [])) _
                    refine XS.goto X129.here hx rfl (pc0 := 169) (pc' := 215) rfl (hb hby at_169) (by decide) (by decide) ?_
                    show Steps p.tables e below (T129.setTop (mkF m 215 #[.val (.int k0), .val (.int k1), .val (.int (k0 &&& (7 : Int32))), .val (.int k1), .val (.ref w_POW), .val (.int (1 : Int32))] [])) _
                    refine XS.aload X129.here hx rfl (hb hby at_215) rfl rfl ?_
                    show Steps p.tables e below (T129.setTop (mkF m 217 #[.val (.int k0), .val (.int k1), .val (.int (k0 &&& (7 : Int32))), .val (.int k1), .val (.ref w_POW), .val (.int (1 : Int32))] [(.ref w_POW)])) _
                    refine XS.iloadN X129.here hx rfl (hb hby at_217) rfl ?_
                    show Steps p.tables e below (T129.setTop (mkF m 218 #[.val (.int k0), .val (.int k1), .val (.int (k0 &&& (7 : Int32))), .val (.int k1), .val (.ref w_POW), .val (.int (1 : Int32))] [(.int k1), (.ref w_POW)])) _
                    refine st132.trans ?_
                    show Steps p.tables e below (T132.setTop (mkF m 221 #[.val (.int k0), .val (.int k1), .val (.int (k0 &&& (7 : Int32))), .val (.int k1), .val (.ref w_POW), .val (.int (1 : Int32))] [(.int (1 : Int32))])) _
                    refine XS.iload X132.here hx rfl (hb hby at_221) rfl ?_
                    show Steps p.tables e below (T132.setTop (mkF m 223 #[.val (.int k0), .val (.int k1), .val (.int (k0 &&& (7 : Int32))), .val (.int k1), .val (.ref w_POW), .val (.int (1 : Int32))] [(.int (1 : Int32)), (.int (1 : Int32))])) _
                    refine XS.icmpNo X132.here hx rfl (hb hby at_223) rfl (teq (by decide : (1 : Int32) = (1 : Int32))).2 ?_
                    show Steps p.tables e below (T132.setTop (mkF m 226 #[.val (.int k0), .val (.int k1), .val (.int (k0 &&& (7 : Int32))), .val (.int k1), .val (.ref w_POW), .val (.int (1 : Int32))] [])) _
                    refine XS.iconst X132.here hx rfl (hb hby at_226) ?_
                    show Steps p.tables e below (T132.setTop (mkF m 227 #[.val (.int k0), .val (.int k1), .val (.int (k0 &&& (7 : Int32))), .val (.int k1), .val (.ref w_POW), .val (.int (1 : Int32))] [(.int (1 : Int32))])) _
                    refine XS.goto X132.here hx rfl (pc0 := 227) (pc' := 231) rfl (hb hby at_227) (by decide) (by decide) ?_
                    show Steps p.tables e below (T132.setTop (mkF m 231 #[.val (.int k0), .val (.int k1), .val (.int (k0 &&& (7 : Int32))), .val (.int k1), .val (.ref w_POW), .val (.int (1 : Int32))] [(.int (1 : Int32))])) _
                    exact k_)
                  obtain ⟨fs, hr, hrun, hended, hW, hsame⟩ := X132.leave (v := some (.int (1 : Int32))) (fun h => by rw [Bd.returns] at h; cases h)
                  refine ⟨_, _, pre133 _ ?_, hrun, hended, _, _, rfl, ?_, ⟨_, rfl⟩, hW, hsame.mono (by decide) (by decide)⟩
                  · show Steps p.tables e below (T132.setTop (mkF m 231 #[.val (.int k0), .val (.int k1), .val (.int (k0 &&& (7 : Int32))), .val (.int k1), .val (.ref w_POW), .val (.int (1 : Int32))] [(.int (1 : Int32))])) _
                    exact retN X132 hx (t := .boolean) Bd.returns (by simp) (hb hby at_231) hr
                  · show Q_0 Z k0 k1 w_MIN w_MOD w_ROUND w_POW w_LOG w_CEIL w_MAX w_FLOOR h0 n0 _ T132.heap _
                    rw [e132]
                    exact ⟨rfl, N132⟩
                · obtain ⟨cq134, kq134, q134a, q134b, q134c⟩ := isOf hZ e129 E_POW
                  obtain ⟨v134, _, ⟨T134, L134, k134, n134⟩, -, X134, ⟨Lc134, hQ134, l134, y134, z134⟩, st134⟩ := X129.virtualBack hx (y := (⟨"com/example/atropos/atropos/lang/BuiltInFunction", "takes", "(I)Z"⟩ : MethodName)) (z := (⟨"com/example/atropos/atropos/lang/BuiltInFunction", "takes", "(I)Z"⟩ : MethodName)) hown (mvT hZ (hw _ (List.mem_of_getElem? (i := 3) rfl))) (mvT hZ (hw _ (List.mem_of_getElem? (i := 4) rfl))) (notFace_of_selects (args := #[]) (mvT hZ (hw _ (List.mem_of_getElem? (i := 6) rfl)))) (mvT hZ (hw _ (List.mem_of_getElem? (i := 6) rfl))) (mvT hZ (hw _ (List.mem_of_getElem? (i := 5) rfl))) (by decide) (backOf (W := 0) (rm_1 l Z a0 hw [] w_POW k1 (2 : Int32) (2 : Int32) h0 n0 Z0 F_POW_fewestArguments F_POW_mostArguments) hZ (hw _ (List.mem_of_getElem? (i := 7) rfl)) (hw _ (List.mem_of_getElem? (i := 1) rfl)) (by decide) (by decide)) q134a q134c (g := (mkF m 218 #[.val (.int k0), .val (.int k1), .val (.int (k0 &&& (7 : Int32))), .val (.int k1), .val (.ref w_POW), .val (.int (0 : Int32))] [(.int k1), (.ref w_POW)])) rfl (by rw [hml]; rfl) (Steps.refl _) (argsL := [(.int k1)]) (rest := []) (lenOf pd_0 rfl) rfl (by show 2 * 0 + _ ≤ _; exact Nat.le_of_eq rfl) (hb hby at_218) (fun _ _ => ⟨rfl, e129, (by decide : 0 + 0 ≤ _), (by decide : 0 + 0 ≤ _)⟩)
                  dsimp only [Pt.U, Pt.locs, Pt.cells, Pt.slots] at X134 l134 y134 z134 st134 hQ134
                  subst l134 y134 z134
                  obtain ⟨hv134, N134q, e134⟩ := hQ134
                  have N134 := Fr.app N0 N134q
                  have hw134 : v134 = some (.int (0 : Int32)) := hv134.trans (congrArg (fun z => some (Value.int z)) (own_ne hc159_131))
                  subst hw134
                  have pre135 : ∀ t_, Steps p.tables e below (T134.setTop (mkF m 231 #[.val (.int k0), .val (.int k1), .val (.int (k0 &&& (7 : Int32))), .val (.int k1), .val (.ref w_POW), .val (.int (0 : Int32))] [(.int (1 : Int32))])) t_ → Steps p.tables e below (s₁.setTop (entryFrame m #[(.int k0), (.int k1)] maxLocals)) t_ := fun t_ k_ => pre130 t_ (by
                    show Steps p.tables e below (T129.setTop (mkF m 159 #[.val (.int k0), .val (.int k1), .val (.int (k0 &&& (7 : Int32))), .val (.int k1), .val (.ref w_POW), .unset] [(.int (2 : Int32)), (.int k1)])) _
                    refine XS.icmpYes X129.here hx rfl (pc0 := 159) (pc' := 166) rfl (hb hby at_159) rfl (feq hc159_131).2 (by decide) (by decide) ?_
                    show Steps p.tables e below (T129.setTop (mkF m 166 #[.val (.int k0), .val (.int k1), .val (.int (k0 &&& (7 : Int32))), .val (.int k1), .val (.ref w_POW), .unset] [])) _
                    refine XS.iconst X129.here hx rfl (hb hby at_166) ?_
                    show Steps p.tables e below (T129.setTop (mkF m 167 #[.val (.int k0), .val (.int k1), .val (.int (k0 &&& (7 : Int32))), .val (.int k1), .val (.ref w_POW), .unset] [(.int (0 : Int32))])) _
                    refine XS.istore X129.here hx rfl (hb hby at_167) rfl (l' := #[.val (.int k0), .val (.int k1), .val (.int (k0 &&& (7 : Int32))), .val (.int k1), .val (.ref w_POW), .val (.int (0 : Int32))]) rfl ?_
                    show Steps p.tables e below (T129.setTop (mkF m 169 #[.val (.int k0), .val (.int k1), .val (.int (k0 &&& (7 : Int32))), .val (.int k1), .val (.ref w_POW), .val (.int (0 : Int32))] [])) _
                    refine XS.goto X129.here hx rfl (pc0 := 169) (pc' := 215) rfl (hb hby at_169) (by decide) (by decide) ?_
                    show Steps p.tables e below (T129.setTop (mkF m 215 #[.val (.int k0), .val (.int k1), .val (.int (k0 &&& (7 : Int32))), .val (.int k1), .val (.ref w_POW), .val (.int (0 : Int32))] [])) _
                    refine XS.aload X129.here hx rfl (hb hby at_215) rfl rfl ?_
                    show Steps p.tables e below (T129.setTop (mkF m 217 #[.val (.int k0), .val (.int k1), .val (.int (k0 &&& (7 : Int32))), .val (.int k1), .val (.ref w_POW), .val (.int (0 : Int32))] [(.ref w_POW)])) _
                    refine XS.iloadN X129.here hx rfl (hb hby at_217) rfl ?_
                    show Steps p.tables e below (T129.setTop (mkF m 218 #[.val (.int k0), .val (.int k1), .val (.int (k0 &&& (7 : Int32))), .val (.int k1), .val (.ref w_POW), .val (.int (0 : Int32))] [(.int k1), (.ref w_POW)])) _
                    refine st134.trans ?_
                    show Steps p.tables e below (T134.setTop (mkF m 221 #[.val (.int k0), .val (.int k1), .val (.int (k0 &&& (7 : Int32))), .val (.int k1), .val (.ref w_POW), .val (.int (0 : Int32))] [(.int (0 : Int32))])) _
                    refine XS.iload X134.here hx rfl (hb hby at_221) rfl ?_
                    show Steps p.tables e below (T134.setTop (mkF m 223 #[.val (.int k0), .val (.int k1), .val (.int (k0 &&& (7 : Int32))), .val (.int k1), .val (.ref w_POW), .val (.int (0 : Int32))] [(.int (0 : Int32)), (.int (0 : Int32))])) _
                    refine XS.icmpNo X134.here hx rfl (hb hby at_223) rfl (teq (by decide : (0 : Int32) = (0 : Int32))).2 ?_
                    show Steps p.tables e below (T134.setTop (mkF m 226 #[.val (.int k0), .val (.int k1), .val (.int (k0 &&& (7 : Int32))), .val (.int k1), .val (.ref w_POW), .val (.int (0 : Int32))] [])) _
                    refine XS.iconst X134.here hx rfl (hb hby at_226) ?_
                    show Steps p.tables e below (T134.setTop (mkF m 227 #[.val (.int k0), .val (.int k1), .val (.int (k0 &&& (7 : Int32))), .val (.int k1), .val (.ref w_POW), .val (.int (0 : Int32))] [(.int (1 : Int32))])) _
                    refine XS.goto X134.here hx rfl (pc0 := 227) (pc' := 231) rfl (hb hby at_227) (by decide) (by decide) ?_
                    show Steps p.tables e below (T134.setTop (mkF m 231 #[.val (.int k0), .val (.int k1), .val (.int (k0 &&& (7 : Int32))), .val (.int k1), .val (.ref w_POW), .val (.int (0 : Int32))] [(.int (1 : Int32))])) _
                    exact k_)
                  obtain ⟨fs, hr, hrun, hended, hW, hsame⟩ := X134.leave (v := some (.int (1 : Int32))) (fun h => by rw [Bd.returns] at h; cases h)
                  refine ⟨_, _, pre135 _ ?_, hrun, hended, _, _, rfl, ?_, ⟨_, rfl⟩, hW, hsame.mono (by decide) (by decide)⟩
                  · show Steps p.tables e below (T134.setTop (mkF m 231 #[.val (.int k0), .val (.int k1), .val (.int (k0 &&& (7 : Int32))), .val (.int k1), .val (.ref w_POW), .val (.int (0 : Int32))] [(.int (1 : Int32))])) _
                    exact retN X134 hx (t := .boolean) Bd.returns (by simp) (hb hby at_231) hr
                  · show Q_0 Z k0 k1 w_MIN w_MOD w_ROUND w_POW w_LOG w_CEIL w_MAX w_FLOOR h0 n0 _ T134.heap _
                    rw [e134]
                    exact ⟨rfl, N134⟩
              · have pre136 : ∀ t_, Steps p.tables e below (s₁.setTop (mkF m 175 #[.val (.int k0), .val (.int k1), .val (.int (k0 &&& (7 : Int32))), .val (.int k1), .unset, .unset] [(.int (6 : Int32)), (.int (k0 &&& (7 : Int32)))])) t_ → Steps p.tables e below (s₁.setTop (entryFrame m #[(.int k0), (.int k1)] maxLocals)) t_ := fun t_ k_ => pre127 t_ (by
                  show Steps p.tables e below (s₁.setTop (mkF m 149 #[.val (.int k0), .val (.int k1), .val (.int (k0 &&& (7 : Int32))), .val (.int k1), .unset, .unset] [(.int (5 : Int32)), (.int (k0 &&& (7 : Int32)))])) _
                  refine XS.icmpYes X0.here hx rfl (pc0 := 149) (pc' := 172) rfl (hb hby at_149) rfl (feq hc149_128).2 (by decide) (by decide) ?_
                  show Steps p.tables e below (s₁.setTop (mkF m 172 #[.val (.int k0), .val (.int k1), .val (.int (k0 &&& (7 : Int32))), .val (.int k1), .unset, .unset] [])) _
                  refine XS.iloadN X0.here hx rfl (hb hby at_172) rfl ?_
                  show Steps p.tables e below (s₁.setTop (mkF m 173 #[.val (.int k0), .val (.int k1), .val (.int (k0 &&& (7 : Int32))), .val (.int k1), .unset, .unset] [(.int (k0 &&& (7 : Int32)))])) _
                  refine XS.bipush X0.here hx rfl (hb hby at_173) ?_
                  show Steps p.tables e below (s₁.setTop (mkF m 175 #[.val (.int k0), .val (.int k1), .val (.int (k0 &&& (7 : Int32))), .val (.int k1), .unset, .unset] [(.int (6 : Int32)), (.int (k0 &&& (7 : Int32)))])) _
                  exact k_)
                by_cases hc175_137 : (k0 &&& (7 : Int32)) = (6 : Int32)
                · obtain ⟨T138, X138, e138, st138⟩ := getS2 X0 hx hZ hown (host := "") (Or.inl (hw _ (List.mem_of_getElem? (i := 10) rfl))) Via.refl e0 S_MOD (g := (mkF m 178 #[.val (.int k0), .val (.int k1), .val (.int (k0 &&& (7 : Int32))), .val (.int k1), .unset, .unset] [])) rfl (hb hby at_178)
                  have pre139 : ∀ t_, Steps p.tables e below (T138.setTop (mkF m 185 #[.val (.int k0), .val (.int k1), .val (.int (k0 &&& (7 : Int32))), .val (.int k1), .val (.ref w_MOD), .unset] [(.int (2 : Int32)), (.int k1)])) t_ → Steps p.tables e below (s₁.setTop (entryFrame m #[(.int k0), (.int k1)] maxLocals)) t_ := fun t_ k_ => pre136 t_ (by
                    show Steps p.tables e below (s₁.setTop (mkF m 175 #[.val (.int k0), .val (.int k1), .val (.int (k0 &&& (7 : Int32))), .val (.int k1), .unset, .unset] [(.int (6 : Int32)), (.int (k0 &&& (7 : Int32)))])) _
                    refine XS.icmpNo X0.here hx rfl (hb hby at_175) rfl (teq hc175_137).2 ?_
                    show Steps p.tables e below (s₁.setTop (mkF m 178 #[.val (.int k0), .val (.int k1), .val (.int (k0 &&& (7 : Int32))), .val (.int k1), .unset, .unset] [])) _
                    refine st138 _ ?_
                    show Steps p.tables e below (T138.setTop (mkF m 181 #[.val (.int k0), .val (.int k1), .val (.int (k0 &&& (7 : Int32))), .val (.int k1), .unset, .unset] [(.ref w_MOD)])) _
                    refine XS.astore X138.here hx rfl (hb hby at_181) rfl rfl (l' := #[.val (.int k0), .val (.int k1), .val (.int (k0 &&& (7 : Int32))), .val (.int k1), .val (.ref w_MOD), .unset]) rfl ?_
                    show Steps p.tables e below (T138.setTop (mkF m 183 #[.val (.int k0), .val (.int k1), .val (.int (k0 &&& (7 : Int32))), .val (.int k1), .val (.ref w_MOD), .unset] [])) _
                    refine XS.iloadN X138.here hx rfl (hb hby at_183) rfl ?_
                    show Steps p.tables e below (T138.setTop (mkF m 184 #[.val (.int k0), .val (.int k1), .val (.int (k0 &&& (7 : Int32))), .val (.int k1), .val (.ref w_MOD), .unset] [(.int k1)])) _
                    refine XS.iconst X138.here hx rfl (hb hby at_184) ?_
                    show Steps p.tables e below (T138.setTop (mkF m 185 #[.val (.int k0), .val (.int k1), .val (.int (k0 &&& (7 : Int32))), .val (.int k1), .val (.ref w_MOD), .unset] [(.int (2 : Int32)), (.int k1)])) _
                    exact k_)
                  by_cases hc185_140 : k1 = (2 : Int32)
                  · obtain ⟨cq141, kq141, q141a, q141b, q141c⟩ := isOf hZ e138 E_MOD
                    obtain ⟨v141, _, ⟨T141, L141, k141, n141⟩, -, X141, ⟨Lc141, hQ141, l141, y141, z141⟩, st141⟩ := X138.virtualBack hx (y := (⟨"com/example/atropos/atropos/lang/BuiltInFunction", "takes", "(I)Z"⟩ : MethodName)) (z := (⟨"com/example/atropos/atropos/lang/BuiltInFunction", "takes", "(I)Z"⟩ : MethodName)) hown (mvT hZ (hw _ (List.mem_of_getElem? (i := 3) rfl))) (mvT hZ (hw _ (List.mem_of_getElem? (i := 4) rfl))) (notFace_of_selects (args := #[]) (mvT hZ (hw _ (List.mem_of_getElem? (i := 6) rfl)))) (mvT hZ (hw _ (List.mem_of_getElem? (i := 6) rfl))) (mvT hZ (hw _ (List.mem_of_getElem? (i := 5) rfl))) (by decide) (backOf (W := 0) (rm_1 l Z a0 hw [] w_MOD k1 (2 : Int32) (2 : Int32) h0 n0 Z0 F_MOD_fewestArguments F_MOD_mostArguments) hZ (hw _ (List.mem_of_getElem? (i := 7) rfl)) (hw _ (List.mem_of_getElem? (i := 1) rfl)) (by decide) (by decide)) q141a q141c (g := (mkF m 218 #[.val (.int k0), .val (.int k1), .val (.int (k0 &&& (7 : Int32))), .val (.int k1), .val (.ref w_MOD), .val (.int (1 : Int32))] [(.int k1), (.ref w_MOD)])) rfl (by rw [hml]; rfl) (Steps.refl _) (argsL := [(.int k1)]) (rest := []) (lenOf pd_0 rfl) rfl (by show 2 * 0 + _ ≤ _; exact Nat.le_of_eq rfl) (hb hby at_218) (fun _ _ => ⟨rfl, e138, (by decide : 0 + 0 ≤ _), (by decide : 0 + 0 ≤ _)⟩)
                    dsimp only [Pt.U, Pt.locs, Pt.cells, Pt.slots] at X141 l141 y141 z141 st141 hQ141
                    subst l141 y141 z141
                    obtain ⟨hv141, N141q, e141⟩ := hQ141
                    have N141 := Fr.app N0 N141q
                    have hw141 : v141 = some (.int (1 : Int32)) := hv141.trans (congrArg (fun z => some (Value.int z)) (own_eq hc185_140))
                    subst hw141
                    have pre142 : ∀ t_, Steps p.tables e below (T141.setTop (mkF m 231 #[.val (.int k0), .val (.int k1), .val (.int (k0 &&& (7 : Int32))), .val (.int k1), .val (.ref w_MOD), .val (.int (1 : Int32))] [(.int (1 : Int32))])) t_ → Steps p.tables e below (s₁.setTop (entryFrame m #[(.int k0), (.int k1)] maxLocals)) t_ := fun t_ k_ => pre139 t_ (by
                      show Steps p.tables e below (T138.setTop (mkF m 185 #[.val (.int k0), .val (.int k1), .val (.int (k0 &&& (7 : Int32))), .val (.int k1), .val (.ref w_MOD), .unset] [(.int (2 : Int32)), (.int k1)])) _
                      refine XS.icmpNo X138.here hx rfl (hb hby at_185) rfl (teq hc185_140).2 ?_
                      show Steps p.tables e below (T138.setTop (mkF m 188 #[.val (.int k0), .val (.int k1), .val (.int (k0 &&& (7 : Int32))), .val (.int k1), .val (.ref w_MOD), .unset] [])) _
                      refine XS.iconst X138.here hx rfl (hb hby at_188) ?_
                      show Steps p.tables e below (T138.setTop (mkF m 189 #[.val (.int k0), .val (.int k1), .val (.int (k0 &&& (7 : Int32))), .val (.int k1), .val (.ref w_MOD), .unset] [(.int (1 : Int32))])) _
                      refine XS.goto X138.here hx rfl (pc0 := 189) (pc' := 193) rfl (hb hby at_189) (by decide) (by decide) ?_
                      show Steps p.tables e below (T138.setTop (mkF m 193 #[.val (.int k0), .val (.int k1), .val (.int (k0 &&& (7 : Int32))), .val (.int k1), .val (.ref w_MOD), .unset] [(.int (1 : Int32))])) _
                      refine XS.istore X138.here hx rfl (hb hby at_193) rfl (l' := #[.val (.int k0), .val (.int k1), .val (.int (k0 &&& (7 : Int32))), .val (.int k1), .val (.ref w_MOD), .val (.int (1 : Int32))]) rfl ?_
                      show Steps p.tables e below (T138.setTop (mkF m 195 #[.val (.int k0), .val (.int k1), .val (.int (k0 &&& (7 : Int32))), .val (.int k1), .val (.ref w_MOD), .val (.int (1 : Int32))] [])) _
                      refine XS.goto X138.here hx rfl (pc0 := 195) (pc' := 215) rfl (hb hby at_195) (by decide) (by decide) ?_
                      show Steps p.tables e below (T138.setTop (mkF m 215 #[.val (.int k0), .val (.int k1), .val (.int (k0 &&& (7 : Int32))), .val (.int k1), .val (.ref w_MOD), .val (.int (1 : Int32))] [])) _
                      refine XS.aload X138.here hx rfl (hb hby at_215) rfl rfl ?_
                      show Steps p.tables e below (T138.setTop (mkF m 217 #[.val (.int k0), .val (.int k1), .val (.int (k0 &&& (7 : Int32))), .val (.int k1), .val (.ref w_MOD), .val (.int (1 : Int32))] [(.ref w_MOD)])) _
                      refine XS.iloadN X138.here hx rfl (hb hby at_217) rfl ?_
                      show Steps p.tables e below (T138.setTop (mkF m 218 #[.val (.int k0), .val (.int k1), .val (.int (k0 &&& (7 : Int32))), .val (.int k1), .val (.ref w_MOD), .val (.int (1 : Int32))] [(.int k1), (.ref w_MOD)])) _
                      refine st141.trans ?_
                      show Steps p.tables e below (T141.setTop (mkF m 221 #[.val (.int k0), .val (.int k1), .val (.int (k0 &&& (7 : Int32))), .val (.int k1), .val (.ref w_MOD), .val (.int (1 : Int32))] [(.int (1 : Int32))])) _
                      refine XS.iload X141.here hx rfl (hb hby at_221) rfl ?_
                      show Steps p.tables e below (T141.setTop (mkF m 223 #[.val (.int k0), .val (.int k1), .val (.int (k0 &&& (7 : Int32))), .val (.int k1), .val (.ref w_MOD), .val (.int (1 : Int32))] [(.int (1 : Int32)), (.int (1 : Int32))])) _
                      refine XS.icmpNo X141.here hx rfl (hb hby at_223) rfl (teq (by decide : (1 : Int32) = (1 : Int32))).2 ?_
                      show Steps p.tables e below (T141.setTop (mkF m 226 #[.val (.int k0), .val (.int k1), .val (.int (k0 &&& (7 : Int32))), .val (.int k1), .val (.ref w_MOD), .val (.int (1 : Int32))] [])) _
                      refine XS.iconst X141.here hx rfl (hb hby at_226) ?_
                      show Steps p.tables e below (T141.setTop (mkF m 227 #[.val (.int k0), .val (.int k1), .val (.int (k0 &&& (7 : Int32))), .val (.int k1), .val (.ref w_MOD), .val (.int (1 : Int32))] [(.int (1 : Int32))])) _
                      refine XS.goto X141.here hx rfl (pc0 := 227) (pc' := 231) rfl (hb hby at_227) (by decide) (by decide) ?_
                      show Steps p.tables e below (T141.setTop (mkF m 231 #[.val (.int k0), .val (.int k1), .val (.int (k0 &&& (7 : Int32))), .val (.int k1), .val (.ref w_MOD), .val (.int (1 : Int32))] [(.int (1 : Int32))])) _
                      exact k_)
                    obtain ⟨fs, hr, hrun, hended, hW, hsame⟩ := X141.leave (v := some (.int (1 : Int32))) (fun h => by rw [Bd.returns] at h; cases h)
                    refine ⟨_, _, pre142 _ ?_, hrun, hended, _, _, rfl, ?_, ⟨_, rfl⟩, hW, hsame.mono (by decide) (by decide)⟩
                    · show Steps p.tables e below (T141.setTop (mkF m 231 #[.val (.int k0), .val (.int k1), .val (.int (k0 &&& (7 : Int32))), .val (.int k1), .val (.ref w_MOD), .val (.int (1 : Int32))] [(.int (1 : Int32))])) _
                      exact retN X141 hx (t := .boolean) Bd.returns (by simp) (hb hby at_231) hr
                    · show Q_0 Z k0 k1 w_MIN w_MOD w_ROUND w_POW w_LOG w_CEIL w_MAX w_FLOOR h0 n0 _ T141.heap _
                      rw [e141]
                      exact ⟨rfl, N141⟩
                  · obtain ⟨cq143, kq143, q143a, q143b, q143c⟩ := isOf hZ e138 E_MOD
                    obtain ⟨v143, _, ⟨T143, L143, k143, n143⟩, -, X143, ⟨Lc143, hQ143, l143, y143, z143⟩, st143⟩ := X138.virtualBack hx (y := (⟨"com/example/atropos/atropos/lang/BuiltInFunction", "takes", "(I)Z"⟩ : MethodName)) (z := (⟨"com/example/atropos/atropos/lang/BuiltInFunction", "takes", "(I)Z"⟩ : MethodName)) hown (mvT hZ (hw _ (List.mem_of_getElem? (i := 3) rfl))) (mvT hZ (hw _ (List.mem_of_getElem? (i := 4) rfl))) (notFace_of_selects (args := #[]) (mvT hZ (hw _ (List.mem_of_getElem? (i := 6) rfl)))) (mvT hZ (hw _ (List.mem_of_getElem? (i := 6) rfl))) (mvT hZ (hw _ (List.mem_of_getElem? (i := 5) rfl))) (by decide) (backOf (W := 0) (rm_1 l Z a0 hw [] w_MOD k1 (2 : Int32) (2 : Int32) h0 n0 Z0 F_MOD_fewestArguments F_MOD_mostArguments) hZ (hw _ (List.mem_of_getElem? (i := 7) rfl)) (hw _ (List.mem_of_getElem? (i := 1) rfl)) (by decide) (by decide)) q143a q143c (g := (mkF m 218 #[.val (.int k0), .val (.int k1), .val (.int (k0 &&& (7 : Int32))), .val (.int k1), .val (.ref w_MOD), .val (.int (0 : Int32))] [(.int k1), (.ref w_MOD)])) rfl (by rw [hml]; rfl) (Steps.refl _) (argsL := [(.int k1)]) (rest := []) (lenOf pd_0 rfl) rfl (by show 2 * 0 + _ ≤ _; exact Nat.le_of_eq rfl) (hb hby at_218) (fun _ _ => ⟨rfl, e138, (by decide : 0 + 0 ≤ _), (by decide : 0 + 0 ≤ _)⟩)
                    dsimp only [Pt.U, Pt.locs, Pt.cells, Pt.slots] at X143 l143 y143 z143 st143 hQ143
                    subst l143 y143 z143
                    obtain ⟨hv143, N143q, e143⟩ := hQ143
                    have N143 := Fr.app N0 N143q
                    have hw143 : v143 = some (.int (0 : Int32)) := hv143.trans (congrArg (fun z => some (Value.int z)) (own_ne hc185_140))
                    subst hw143
                    have pre144 : ∀ t_, Steps p.tables e below (T143.setTop (mkF m 231 #[.val (.int k0), .val (.int k1), .val (.int (k0 &&& (7 : Int32))), .val (.int k1), .val (.ref w_MOD), .val (.int (0 : Int32))] [(.int (1 : Int32))])) t_ → Steps p.tables e below (s₁.setTop (entryFrame m #[(.int k0), (.int k1)] maxLocals)) t_ := fun t_ k_ => pre139 t_ (by
                      show Steps p.tables e below (T138.setTop (mkF m 185 #[.val (.int k0), .val (.int k1), .val (.int (k0 &&& (7 : Int32))), .val (.int k1), .val (.ref w_MOD), .unset] [(.int (2 : Int32)), (.int k1)])) _
                      refine XS.icmpYes X138.here hx rfl (pc0 := 185) (pc' := 192) rfl (hb hby at_185) rfl (feq hc185_140).2 (by decide) (by decide) ?_
                      show Steps p.tables e below (T138.setTop (mkF m 192 #[.val (.int k0), .val (.int k1), .val (.int (k0 &&& (7 : Int32))), .val (.int k1), .val (.ref w_MOD), .unset] [])) _
                      refine XS.iconst X138.here hx rfl (hb hby at_192) ?_
                      show Steps p.tables e below (T138.setTop (mkF m 193 #[.val (.int k0), .val (.int k1), .val (.int (k0 &&& (7 : Int32))), .val (.int k1), .val (.ref w_MOD), .unset] [(.int (0 : Int32))])) _
                      refine XS.istore X138.here hx rfl (hb hby at_193) rfl (l' := #[.val (.int k0), .val (.int k1), .val (.int (k0 &&& (7 : Int32))), .val (.int k1), .val (.ref w_MOD), .val (.int (0 : Int32))]) rfl ?_
                      show Steps p.tables e below (T138.setTop (mkF m 195 #[.val (.int k0), .val (.int k1), .val (.int (k0 &&& (7 : Int32))), .val (.int k1), .val (.ref w_MOD), .val (.int (0 : Int32))] [])) _
                      refine XS.goto X138.here hx rfl (pc0 := 195) (pc' := 215) rfl (hb hby at_195) (by decide) (by decide) ?_
                      show Steps p.tables e below (T138.setTop (mkF m 215 #[.val (.int k0), .val (.int k1), .val (.int (k0 &&& (7 : Int32))), .val (.int k1), .val (.ref w_MOD), .val (.int (0 : Int32))] [])) _
                      refine XS.aload X138.here hx rfl (hb hby at_215) rfl rfl ?_
                      show Steps p.tables e below (T138.setTop (mkF m 217 #[.val (.int k0), .val (.int k1), .val (.int (k0 &&& (7 : Int32))), .val (.int k1), .val (.ref w_MOD), .val (.int (0 : Int32))] [(.ref w_MOD)])) _
                      refine XS.iloadN X138.here hx rfl (hb hby at_217) rfl ?_
                      show Steps p.tables e below (T138.setTop (mkF m 218 #[.val (.int k0), .val (.int k1), .val (.int (k0 &&& (7 : Int32))), .val (.int k1), .val (.ref w_MOD), .val (.int (0 : Int32))] [(.int k1), (.ref w_MOD)])) _
                      refine st143.trans ?_
                      show Steps p.tables e below (T143.setTop (mkF m 221 #[.val (.int k0), .val (.int k1), .val (.int (k0 &&& (7 : Int32))), .val (.int k1), .val (.ref w_MOD), .val (.int (0 : Int32))] [(.int (0 : Int32))])) _
                      refine XS.iload X143.here hx rfl (hb hby at_221) rfl ?_
                      show Steps p.tables e below (T143.setTop (mkF m 223 #[.val (.int k0), .val (.int k1), .val (.int (k0 &&& (7 : Int32))), .val (.int k1), .val (.ref w_MOD), .val (.int (0 : Int32))] [(.int (0 : Int32)), (.int (0 : Int32))])) _
                      refine XS.icmpNo X143.here hx rfl (hb hby at_223) rfl (teq (by decide : (0 : Int32) = (0 : Int32))).2 ?_
                      show Steps p.tables e below (T143.setTop (mkF m 226 #[.val (.int k0), .val (.int k1), .val (.int (k0 &&& (7 : Int32))), .val (.int k1), .val (.ref w_MOD), .val (.int (0 : Int32))] [])) _
                      refine XS.iconst X143.here hx rfl (hb hby at_226) ?_
                      show Steps p.tables e below (T143.setTop (mkF m 227 #[.val (.int k0), .val (.int k1), .val (.int (k0 &&& (7 : Int32))), .val (.int k1), .val (.ref w_MOD), .val (.int (0 : Int32))] [(.int (1 : Int32))])) _
                      refine XS.goto X143.here hx rfl (pc0 := 227) (pc' := 231) rfl (hb hby at_227) (by decide) (by decide) ?_
                      show Steps p.tables e below (T143.setTop (mkF m 231 #[.val (.int k0), .val (.int k1), .val (.int (k0 &&& (7 : Int32))), .val (.int k1), .val (.ref w_MOD), .val (.int (0 : Int32))] [(.int (1 : Int32))])) _
                      exact k_)
                    obtain ⟨fs, hr, hrun, hended, hW, hsame⟩ := X143.leave (v := some (.int (1 : Int32))) (fun h => by rw [Bd.returns] at h; cases h)
                    refine ⟨_, _, pre144 _ ?_, hrun, hended, _, _, rfl, ?_, ⟨_, rfl⟩, hW, hsame.mono (by decide) (by decide)⟩
                    · show Steps p.tables e below (T143.setTop (mkF m 231 #[.val (.int k0), .val (.int k1), .val (.int (k0 &&& (7 : Int32))), .val (.int k1), .val (.ref w_MOD), .val (.int (0 : Int32))] [(.int (1 : Int32))])) _
                      exact retN X143 hx (t := .boolean) Bd.returns (by simp) (hb hby at_231) hr
                    · show Q_0 Z k0 k1 w_MIN w_MOD w_ROUND w_POW w_LOG w_CEIL w_MAX w_FLOOR h0 n0 _ T143.heap _
                      rw [e143]
                      exact ⟨rfl, N143⟩
                · obtain ⟨T145, X145, e145, st145⟩ := getS2 X0 hx hZ hown (host := "") (Or.inl (hw _ (List.mem_of_getElem? (i := 18) rfl))) Via.refl e0 S_LOG (g := (mkF m 198 #[.val (.int k0), .val (.int k1), .val (.int (k0 &&& (7 : Int32))), .val (.int k1), .unset, .unset] [])) rfl (hb hby at_198)
                  have pre146 : ∀ t_, Steps p.tables e below (T145.setTop (mkF m 205 #[.val (.int k0), .val (.int k1), .val (.int (k0 &&& (7 : Int32))), .val (.int k1), .val (.ref w_LOG), .unset] [(.int (2 : Int32)), (.int k1)])) t_ → Steps p.tables e below (s₁.setTop (entryFrame m #[(.int k0), (.int k1)] maxLocals)) t_ := fun t_ k_ => pre136 t_ (by
                    show Steps p.tables e below (s₁.setTop (mkF m 175 #[.val (.int k0), .val (.int k1), .val (.int (k0 &&& (7 : Int32))), .val (.int k1), .unset, .unset] [(.int (6 : Int32)), (.int (k0 &&& (7 : Int32)))])) _
                    refine XS.icmpYes X0.here hx rfl (pc0 := 175) (pc' := 198) rfl (hb hby at_175) rfl (feq hc175_137).2 (by decide) (by decide) ?_
                    show Steps p.tables e below (s₁.setTop (mkF m 198 #[.val (.int k0), .val (.int k1), .val (.int (k0 &&& (7 : Int32))), .val (.int k1), .unset, .unset] [])) _
                    refine st145 _ ?_
                    show Steps p.tables e below (T145.setTop (mkF m 201 #[.val (.int k0), .val (.int k1), .val (.int (k0 &&& (7 : Int32))), .val (.int k1), .unset, .unset] [(.ref w_LOG)])) _
                    refine XS.astore X145.here hx rfl (hb hby at_201) rfl rfl (l' := #[.val (.int k0), .val (.int k1), .val (.int (k0 &&& (7 : Int32))), .val (.int k1), .val (.ref w_LOG), .unset]) rfl ?_
                    show Steps p.tables e below (T145.setTop (mkF m 203 #[.val (.int k0), .val (.int k1), .val (.int (k0 &&& (7 : Int32))), .val (.int k1), .val (.ref w_LOG), .unset] [])) _
                    refine XS.iloadN X145.here hx rfl (hb hby at_203) rfl ?_
                    show Steps p.tables e below (T145.setTop (mkF m 204 #[.val (.int k0), .val (.int k1), .val (.int (k0 &&& (7 : Int32))), .val (.int k1), .val (.ref w_LOG), .unset] [(.int k1)])) _
                    refine XS.iconst X145.here hx rfl (hb hby at_204) ?_
                    show Steps p.tables e below (T145.setTop (mkF m 205 #[.val (.int k0), .val (.int k1), .val (.int (k0 &&& (7 : Int32))), .val (.int k1), .val (.ref w_LOG), .unset] [(.int (2 : Int32)), (.int k1)])) _
                    exact k_)
                  by_cases hc205_147 : k1 = (2 : Int32)
                  · obtain ⟨cq148, kq148, q148a, q148b, q148c⟩ := isOf hZ e145 E_LOG
                    obtain ⟨v148, _, ⟨T148, L148, k148, n148⟩, -, X148, ⟨Lc148, hQ148, l148, y148, z148⟩, st148⟩ := X145.virtualBack hx (y := (⟨"com/example/atropos/atropos/lang/BuiltInFunction", "takes", "(I)Z"⟩ : MethodName)) (z := (⟨"com/example/atropos/atropos/lang/BuiltInFunction", "takes", "(I)Z"⟩ : MethodName)) hown (mvT hZ (hw _ (List.mem_of_getElem? (i := 3) rfl))) (mvT hZ (hw _ (List.mem_of_getElem? (i := 4) rfl))) (notFace_of_selects (args := #[]) (mvT hZ (hw _ (List.mem_of_getElem? (i := 6) rfl)))) (mvT hZ (hw _ (List.mem_of_getElem? (i := 6) rfl))) (mvT hZ (hw _ (List.mem_of_getElem? (i := 5) rfl))) (by decide) (backOf (W := 0) (rm_1 l Z a0 hw [] w_LOG k1 (2 : Int32) (2 : Int32) h0 n0 Z0 F_LOG_fewestArguments F_LOG_mostArguments) hZ (hw _ (List.mem_of_getElem? (i := 7) rfl)) (hw _ (List.mem_of_getElem? (i := 1) rfl)) (by decide) (by decide)) q148a q148c (g := (mkF m 218 #[.val (.int k0), .val (.int k1), .val (.int (k0 &&& (7 : Int32))), .val (.int k1), .val (.ref w_LOG), .val (.int (1 : Int32))] [(.int k1), (.ref w_LOG)])) rfl (by rw [hml]; rfl) (Steps.refl _) (argsL := [(.int k1)]) (rest := []) (lenOf pd_0 rfl) rfl (by show 2 * 0 + _ ≤ _; exact Nat.le_of_eq rfl) (hb hby at_218) (fun _ _ => ⟨rfl, e145, (by decide : 0 + 0 ≤ _), (by decide : 0 + 0 ≤ _)⟩)
                    dsimp only [Pt.U, Pt.locs, Pt.cells, Pt.slots] at X148 l148 y148 z148 st148 hQ148
                    subst l148 y148 z148
                    obtain ⟨hv148, N148q, e148⟩ := hQ148
                    have N148 := Fr.app N0 N148q
                    have hw148 : v148 = some (.int (1 : Int32)) := hv148.trans (congrArg (fun z => some (Value.int z)) (own_eq hc205_147))
                    subst hw148
                    have pre149 : ∀ t_, Steps p.tables e below (T148.setTop (mkF m 231 #[.val (.int k0), .val (.int k1), .val (.int (k0 &&& (7 : Int32))), .val (.int k1), .val (.ref w_LOG), .val (.int (1 : Int32))] [(.int (1 : Int32))])) t_ → Steps p.tables e below (s₁.setTop (entryFrame m #[(.int k0), (.int k1)] maxLocals)) t_ := fun t_ k_ => pre146 t_ (by
                      show Steps p.tables e below (T145.setTop (mkF m 205 #[.val (.int k0), .val (.int k1), .val (.int (k0 &&& (7 : Int32))), .val (.int k1), .val (.ref w_LOG), .unset] [(.int (2 : Int32)), (.int k1)])) _
                      refine XS.icmpNo X145.here hx rfl (hb hby at_205) rfl (teq hc205_147).2 ?_
                      show Steps p.tables e below (T145.setTop (mkF m 208 #[.val (.int k0), .val (.int k1), .val (.int (k0 &&& (7 : Int32))), .val (.int k1), .val (.ref w_LOG), .unset] [])) _
                      refine XS.iconst X145.here hx rfl (hb hby at_208) ?_
                      show Steps p.tables e below (T145.setTop (mkF m 209 #[.val (.int k0), .val (.int k1), .val (.int (k0 &&& (7 : Int32))), .val (.int k1), .val (.ref w_LOG), .unset] [(.int (1 : Int32))])) _
                      refine XS.goto X145.here hx rfl (pc0 := 209) (pc' := 213) rfl (hb hby at_209) (by decide) (by decide) ?_
                      show Steps p.tables e below (T145.setTop (mkF m 213 #[.val (.int k0), .val (.int k1), .val (.int (k0 &&& (7 : Int32))), .val (.int k1), .val (.ref w_LOG), .unset] [(.int (1 : Int32))])) _
                      refine XS.istore X145.here hx rfl (hb hby at_213) rfl (l' := #[.val (.int k0), .val (.int k1), .val (.int (k0 &&& (7 : Int32))), .val (.int k1), .val (.ref w_LOG), .val (.int (1 : Int32))]) rfl ?_
                      show Steps p.tables e below (T145.setTop (mkF m 215 #[.val (.int k0), .val (.int k1), .val (.int (k0 &&& (7 : Int32))), .val (.int k1), .val (.ref w_LOG), .val (.int (1 : Int32))] [])) _
                      refine XS.aload X145.here hx rfl (hb hby at_215) rfl rfl ?_
                      show Steps p.tables e below (T145.setTop (mkF m 217 #[.val (.int k0), .val (.int k1), .val (.int (k0 &&& (7 : Int32))), .val (.int k1), .val (.ref w_LOG), .val (.int (1 : Int32))] [(.ref w_LOG)])) _
                      refine XS.iloadN X145.here hx rfl (hb hby at_217) rfl ?_
                      show Steps p.tables e below (T145.setTop (mkF m 218 #[.val (.int k0), .val (.int k1), .val (.int (k0 &&& (7 : Int32))), .val (.int k1), .val (.ref w_LOG), .val (.int (1 : Int32))] [(.int k1), (.ref w_LOG)])) _
                      refine st148.trans ?_
                      show Steps p.tables e below (T148.setTop (mkF m 221 #[.val (.int k0), .val (.int k1), .val (.int (k0 &&& (7 : Int32))), .val (.int k1), .val (.ref w_LOG), .val (.int (1 : Int32))] [(.int (1 : Int32))])) _
                      refine XS.iload X148.here hx rfl (hb hby at_221) rfl ?_
                      show Steps p.tables e below (T148.setTop (mkF m 223 #[.val (.int k0), .val (.int k1), .val (.int (k0 &&& (7 : Int32))), .val (.int k1), .val (.ref w_LOG), .val (.int (1 : Int32))] [(.int (1 : Int32)), (.int (1 : Int32))])) _
                      refine XS.icmpNo X148.here hx rfl (hb hby at_223) rfl (teq (by decide : (1 : Int32) = (1 : Int32))).2 ?_
                      show Steps p.tables e below (T148.setTop (mkF m 226 #[.val (.int k0), .val (.int k1), .val (.int (k0 &&& (7 : Int32))), .val (.int k1), .val (.ref w_LOG), .val (.int (1 : Int32))] [])) _
                      refine XS.iconst X148.here hx rfl (hb hby at_226) ?_
                      show Steps p.tables e below (T148.setTop (mkF m 227 #[.val (.int k0), .val (.int k1), .val (.int (k0 &&& (7 : Int32))), .val (.int k1), .val (.ref w_LOG), .val (.int (1 : Int32))] [(.int (1 : Int32))])) _
                      refine XS.goto X148.here hx rfl (pc0 := 227) (pc' := 231) rfl (hb hby at_227) (by decide) (by decide) ?_
                      show Steps p.tables e below (T148.setTop (mkF m 231 #[.val (.int k0), .val (.int k1), .val (.int (k0 &&& (7 : Int32))), .val (.int k1), .val (.ref w_LOG), .val (.int (1 : Int32))] [(.int (1 : Int32))])) _
                      exact k_)
                    obtain ⟨fs, hr, hrun, hended, hW, hsame⟩ := X148.leave (v := some (.int (1 : Int32))) (fun h => by rw [Bd.returns] at h; cases h)
                    refine ⟨_, _, pre149 _ ?_, hrun, hended, _, _, rfl, ?_, ⟨_, rfl⟩, hW, hsame.mono (by decide) (by decide)⟩
                    · show Steps p.tables e below (T148.setTop (mkF m 231 #[.val (.int k0), .val (.int k1), .val (.int (k0 &&& (7 : Int32))), .val (.int k1), .val (.ref w_LOG), .val (.int (1 : Int32))] [(.int (1 : Int32))])) _
                      exact retN X148 hx (t := .boolean) Bd.returns (by simp) (hb hby at_231) hr
                    · show Q_0 Z k0 k1 w_MIN w_MOD w_ROUND w_POW w_LOG w_CEIL w_MAX w_FLOOR h0 n0 _ T148.heap _
                      rw [e148]
                      exact ⟨rfl, N148⟩
                  · obtain ⟨cq150, kq150, q150a, q150b, q150c⟩ := isOf hZ e145 E_LOG
                    obtain ⟨v150, _, ⟨T150, L150, k150, n150⟩, -, X150, ⟨Lc150, hQ150, l150, y150, z150⟩, st150⟩ := X145.virtualBack hx (y := (⟨"com/example/atropos/atropos/lang/BuiltInFunction", "takes", "(I)Z"⟩ : MethodName)) (z := (⟨"com/example/atropos/atropos/lang/BuiltInFunction", "takes", "(I)Z"⟩ : MethodName)) hown (mvT hZ (hw _ (List.mem_of_getElem? (i := 3) rfl))) (mvT hZ (hw _ (List.mem_of_getElem? (i := 4) rfl))) (notFace_of_selects (args := #[]) (mvT hZ (hw _ (List.mem_of_getElem? (i := 6) rfl)))) (mvT hZ (hw _ (List.mem_of_getElem? (i := 6) rfl))) (mvT hZ (hw _ (List.mem_of_getElem? (i := 5) rfl))) (by decide) (backOf (W := 0) (rm_1 l Z a0 hw [] w_LOG k1 (2 : Int32) (2 : Int32) h0 n0 Z0 F_LOG_fewestArguments F_LOG_mostArguments) hZ (hw _ (List.mem_of_getElem? (i := 7) rfl)) (hw _ (List.mem_of_getElem? (i := 1) rfl)) (by decide) (by decide)) q150a q150c (g := (mkF m 218 #[.val (.int k0), .val (.int k1), .val (.int (k0 &&& (7 : Int32))), .val (.int k1), .val (.ref w_LOG), .val (.int (0 : Int32))] [(.int k1), (.ref w_LOG)])) rfl (by rw [hml]; rfl) (Steps.refl _) (argsL := [(.int k1)]) (rest := []) (lenOf pd_0 rfl) rfl (by show 2 * 0 + _ ≤ _; exact Nat.le_of_eq rfl) (hb hby at_218) (fun _ _ => ⟨rfl, e145, (by decide : 0 + 0 ≤ _), (by decide : 0 + 0 ≤ _)⟩)
                    dsimp only [Pt.U, Pt.locs, Pt.cells, Pt.slots] at X150 l150 y150 z150 st150 hQ150
                    subst l150 y150 z150
                    obtain ⟨hv150, N150q, e150⟩ := hQ150
                    have N150 := Fr.app N0 N150q
                    have hw150 : v150 = some (.int (0 : Int32)) := hv150.trans (congrArg (fun z => some (Value.int z)) (own_ne hc205_147))
                    subst hw150
                    have pre151 : ∀ t_, Steps p.tables e below (T150.setTop (mkF m 231 #[.val (.int k0), .val (.int k1), .val (.int (k0 &&& (7 : Int32))), .val (.int k1), .val (.ref w_LOG), .val (.int (0 : Int32))] [(.int (1 : Int32))])) t_ → Steps p.tables e below (s₁.setTop (entryFrame m #[(.int k0), (.int k1)] maxLocals)) t_ := fun t_ k_ => pre146 t_ (by
                      show Steps p.tables e below (T145.setTop (mkF m 205 #[.val (.int k0), .val (.int k1), .val (.int (k0 &&& (7 : Int32))), .val (.int k1), .val (.ref w_LOG), .unset] [(.int (2 : Int32)), (.int k1)])) _
                      refine XS.icmpYes X145.here hx rfl (pc0 := 205) (pc' := 212) rfl (hb hby at_205) rfl (feq hc205_147).2 (by decide) (by decide) ?_
                      show Steps p.tables e below (T145.setTop (mkF m 212 #[.val (.int k0), .val (.int k1), .val (.int (k0 &&& (7 : Int32))), .val (.int k1), .val (.ref w_LOG), .unset] [])) _
                      refine XS.iconst X145.here hx rfl (hb hby at_212) ?_
                      show Steps p.tables e below (T145.setTop (mkF m 213 #[.val (.int k0), .val (.int k1), .val (.int (k0 &&& (7 : Int32))), .val (.int k1), .val (.ref w_LOG), .unset] [(.int (0 : Int32))])) _
                      refine XS.istore X145.here hx rfl (hb hby at_213) rfl (l' := #[.val (.int k0), .val (.int k1), .val (.int (k0 &&& (7 : Int32))), .val (.int k1), .val (.ref w_LOG), .val (.int (0 : Int32))]) rfl ?_
                      show Steps p.tables e below (T145.setTop (mkF m 215 #[.val (.int k0), .val (.int k1), .val (.int (k0 &&& (7 : Int32))), .val (.int k1), .val (.ref w_LOG), .val (.int (0 : Int32))] [])) _
                      refine XS.aload X145.here hx rfl (hb hby at_215) rfl rfl ?_
                      show Steps p.tables e below (T145.setTop (mkF m 217 #[.val (.int k0), .val (.int k1), .val (.int (k0 &&& (7 : Int32))), .val (.int k1), .val (.ref w_LOG), .val (.int (0 : Int32))] [(.ref w_LOG)])) _
                      refine XS.iloadN X145.here hx rfl (hb hby at_217) rfl ?_
                      show Steps p.tables e below (T145.setTop (mkF m 218 #[.val (.int k0), .val (.int k1), .val (.int (k0 &&& (7 : Int32))), .val (.int k1), .val (.ref w_LOG), .val (.int (0 : Int32))] [(.int k1), (.ref w_LOG)])) _
                      refine st150.trans ?_
                      show Steps p.tables e below (T150.setTop (mkF m 221 #[.val (.int k0), .val (.int k1), .val (.int (k0 &&& (7 : Int32))), .val (.int k1), .val (.ref w_LOG), .val (.int (0 : Int32))] [(.int (0 : Int32))])) _
                      refine XS.iload X150.here hx rfl (hb hby at_221) rfl ?_
                      show Steps p.tables e below (T150.setTop (mkF m 223 #[.val (.int k0), .val (.int k1), .val (.int (k0 &&& (7 : Int32))), .val (.int k1), .val (.ref w_LOG), .val (.int (0 : Int32))] [(.int (0 : Int32)), (.int (0 : Int32))])) _
                      refine XS.icmpNo X150.here hx rfl (hb hby at_223) rfl (teq (by decide : (0 : Int32) = (0 : Int32))).2 ?_
                      show Steps p.tables e below (T150.setTop (mkF m 226 #[.val (.int k0), .val (.int k1), .val (.int (k0 &&& (7 : Int32))), .val (.int k1), .val (.ref w_LOG), .val (.int (0 : Int32))] [])) _
                      refine XS.iconst X150.here hx rfl (hb hby at_226) ?_
                      show Steps p.tables e below (T150.setTop (mkF m 227 #[.val (.int k0), .val (.int k1), .val (.int (k0 &&& (7 : Int32))), .val (.int k1), .val (.ref w_LOG), .val (.int (0 : Int32))] [(.int (1 : Int32))])) _
                      refine XS.goto X150.here hx rfl (pc0 := 227) (pc' := 231) rfl (hb hby at_227) (by decide) (by decide) ?_
                      show Steps p.tables e below (T150.setTop (mkF m 231 #[.val (.int k0), .val (.int k1), .val (.int (k0 &&& (7 : Int32))), .val (.int k1), .val (.ref w_LOG), .val (.int (0 : Int32))] [(.int (1 : Int32))])) _
                      exact k_)
                    obtain ⟨fs, hr, hrun, hended, hW, hsame⟩ := X150.leave (v := some (.int (1 : Int32))) (fun h => by rw [Bd.returns] at h; cases h)
                    refine ⟨_, _, pre151 _ ?_, hrun, hended, _, _, rfl, ?_, ⟨_, rfl⟩, hW, hsame.mono (by decide) (by decide)⟩
                    · show Steps p.tables e below (T150.setTop (mkF m 231 #[.val (.int k0), .val (.int k1), .val (.int (k0 &&& (7 : Int32))), .val (.int k1), .val (.ref w_LOG), .val (.int (0 : Int32))] [(.int (1 : Int32))])) _
                      exact retN X150 hx (t := .boolean) Bd.returns (by simp) (hb hby at_231) hr
                    · show Q_0 Z k0 k1 w_MIN w_MOD w_ROUND w_POW w_LOG w_CEIL w_MAX w_FLOOR h0 n0 _ T150.heap _
                      rw [e150]
                      exact ⟨rfl, N150⟩
set_option maxRecDepth 65536 in
set_option maxHeartbeats 40000000 in
theorem comes_1 {Post : Tables → Env → Array Value → State → Outcome → State → Prop} (hpost : ∀ tb e args s v u, (limb_1_1.after args s (.returned v) u = true ∧ limb_1_2.after args s (.returned v) u = true ∧ True) → FrameEnd s (.returned v) u (Jvm.fieldLocs frame_1_writes args s ++ Jvm.arrayLocs frame_1_arrays args s ++ Jvm.staticLocs frame_1_statics s) 0 0 → Post tb e args s (.returned v) u) :
    ArmFor flags0 classFile x code maxLocals ret World_1 tables_1 room_1 Calls_1 rest_1 Pre_1 Post := by
  intro l hfl _ _ p e ha hc hk s m args below hf hA hF happ hP
  obtain ⟨hcalls, hrest, hpre⟩ := hP
  obtain ⟨-, -, -, hnamed, -, -, -, hat⟩ := (Spec.applies_iff hf).mp happ
  obtain ⟨hg, hn⟩ := and_e (Cond.before_iff.mp (show (Jvm.Cond.and given_1 narrow_1).before args s = true from hpre))
  obtain ⟨hcount, hg0⟩ := and_e hg
  obtain ⟨hi0, hg1⟩ := and_e hg0
  obtain ⟨w0, w1, rfl⟩ : ∃ w0 w1 : Value, args = #[w0, w1] := by
    have hs : args.size = 2 := by simpa [Cond.value, given_1] using hcount
    obtain ⟨L⟩ := args
    match L, hs with
    | [w0, w1], _ => exact ⟨w0, w1, rfl⟩
  have hw := fun d (hd : d ∈ tables_1) => atoms_spec (ws := Jvm.Cond.code x code maxLocals ret :: tables_1) hat d (List.mem_cons_of_mem _ hd)
  have hfit : Fit s := fun {y c} hc i hi => by
    obtain ⟨ha, rfl⟩ := Array.getElem?_eq_some_iff.mp hc
    have q := List.all_eq_true.mp ((Array.all_eq_true_iff_forall_mem.mp hF) _ (Array.getElem_mem ha)) i (List.mem_range.mpr hi)
    simpa [Array.getElem?_eq_getElem hi] using q
  obtain ⟨i0, ei0⟩ := is_v hi0
  obtain rfl : w0 = (.int i0) := Option.some.inj ei0
  obtain ⟨i1, ei1⟩ := is_v hg1
  obtain rfl : w1 = (.int i1) := Option.some.inj ei1
  obtain ⟨g0, hn_0⟩ := and_e hn
  obtain ⟨g1, hn_1⟩ := and_e hn_0
  obtain ⟨g2, hn_2⟩ := and_e hn_1
  obtain ⟨g3, hn_3⟩ := and_e hn_2
  obtain ⟨g4, hn_4⟩ := and_e hn_3
  obtain ⟨g5, hn_5⟩ := and_e hn_4
  obtain ⟨g6, hn_6⟩ := and_e hn_5
  obtain ⟨g7, hn_7⟩ := and_e hn_6
  obtain ⟨g8, hn_8⟩ := and_e hn_7
  obtain ⟨g9, hn_9⟩ := and_e hn_8
  obtain ⟨g10, hn_10⟩ := and_e hn_9
  obtain ⟨g11, hn_11⟩ := and_e hn_10
  obtain ⟨g12, hn_12⟩ := and_e hn_11
  obtain ⟨g13, hn_13⟩ := and_e hn_12
  obtain ⟨g14, hn_14⟩ := and_e hn_13
  obtain ⟨g15, hn_15⟩ := and_e hn_14
  obtain ⟨g16, hn_16⟩ := and_e hn_15
  obtain ⟨g17, hn_17⟩ := and_e hn_16
  obtain ⟨g18, hn_18⟩ := and_e hn_17
  obtain ⟨g19, hn_19⟩ := and_e hn_18
  obtain ⟨g20, hn_20⟩ := and_e hn_19
  obtain ⟨g21, hn_21⟩ := and_e hn_20
  obtain ⟨g22, hn_22⟩ := and_e hn_21
  have g23 := hn_22
  obtain ⟨w_MIN, ev_MIN, S_MIN, E_MIN⟩ := own_sta (hw _ (List.mem_of_getElem? (i := 1) rfl)) (hw _ (List.mem_of_getElem? (i := 2) rfl)) g0
  obtain ⟨w_MOD, ev_MOD, S_MOD, E_MOD⟩ := own_sta (hw _ (List.mem_of_getElem? (i := 1) rfl)) (hw _ (List.mem_of_getElem? (i := 11) rfl)) g2
  obtain ⟨w_ROUND, ev_ROUND, S_ROUND, E_ROUND⟩ := own_sta (hw _ (List.mem_of_getElem? (i := 1) rfl)) (hw _ (List.mem_of_getElem? (i := 13) rfl)) g4
  obtain ⟨w_POW, ev_POW, S_POW, E_POW⟩ := own_sta (hw _ (List.mem_of_getElem? (i := 1) rfl)) (hw _ (List.mem_of_getElem? (i := 17) rfl)) g7
  obtain ⟨w_LOG, ev_LOG, S_LOG, E_LOG⟩ := own_sta (hw _ (List.mem_of_getElem? (i := 1) rfl)) (hw _ (List.mem_of_getElem? (i := 19) rfl)) g11
  obtain ⟨w_CEIL, ev_CEIL, S_CEIL, E_CEIL⟩ := own_sta (hw _ (List.mem_of_getElem? (i := 1) rfl)) (hw _ (List.mem_of_getElem? (i := 21) rfl)) g14
  obtain ⟨w_MAX, ev_MAX, S_MAX, E_MAX⟩ := own_sta (hw _ (List.mem_of_getElem? (i := 1) rfl)) (hw _ (List.mem_of_getElem? (i := 23) rfl)) g16
  obtain ⟨w_FLOOR, ev_FLOOR, S_FLOOR, E_FLOOR⟩ := own_sta (hw _ (List.mem_of_getElem? (i := 1) rfl)) (hw _ (List.mem_of_getElem? (i := 25) rfl)) g20
  have F_MIN_fewestArguments : Fld s s.heap w_MIN "com/example/atropos/atropos/lang/BuiltInFunction" "fewestArguments" "I" (.int (2 : Int32)) := own_fld ev_MIN g1
  have F_MOD_fewestArguments : Fld s s.heap w_MOD "com/example/atropos/atropos/lang/BuiltInFunction" "fewestArguments" "I" (.int (2 : Int32)) := own_fld ev_MOD g3
  have F_ROUND_fewestArguments : Fld s s.heap w_ROUND "com/example/atropos/atropos/lang/BuiltInFunction" "fewestArguments" "I" (.int (1 : Int32)) := own_fld ev_ROUND g5
  have F_ROUND_mostArguments : Fld s s.heap w_ROUND "com/example/atropos/atropos/lang/BuiltInFunction" "mostArguments" "I" (.int (1 : Int32)) := own_fld ev_ROUND g6
  have F_POW_fewestArguments : Fld s s.heap w_POW "com/example/atropos/atropos/lang/BuiltInFunction" "fewestArguments" "I" (.int (2 : Int32)) := own_fld ev_POW g8
  have F_POW_mostArguments : Fld s s.heap w_POW "com/example/atropos/atropos/lang/BuiltInFunction" "mostArguments" "I" (.int (2 : Int32)) := own_fld ev_POW g9
  have F_MIN_mostArguments : Fld s s.heap w_MIN "com/example/atropos/atropos/lang/BuiltInFunction" "mostArguments" "I" (.int (2147483647 : Int32)) := own_fld ev_MIN g10
  have F_LOG_fewestArguments : Fld s s.heap w_LOG "com/example/atropos/atropos/lang/BuiltInFunction" "fewestArguments" "I" (.int (2 : Int32)) := own_fld ev_LOG g12
  have F_LOG_mostArguments : Fld s s.heap w_LOG "com/example/atropos/atropos/lang/BuiltInFunction" "mostArguments" "I" (.int (2 : Int32)) := own_fld ev_LOG g13
  have F_CEIL_fewestArguments : Fld s s.heap w_CEIL "com/example/atropos/atropos/lang/BuiltInFunction" "fewestArguments" "I" (.int (1 : Int32)) := own_fld ev_CEIL g15
  have F_MAX_fewestArguments : Fld s s.heap w_MAX "com/example/atropos/atropos/lang/BuiltInFunction" "fewestArguments" "I" (.int (2 : Int32)) := own_fld ev_MAX g17
  have F_MAX_mostArguments : Fld s s.heap w_MAX "com/example/atropos/atropos/lang/BuiltInFunction" "mostArguments" "I" (.int (2147483647 : Int32)) := own_fld ev_MAX g18
  have F_MOD_mostArguments : Fld s s.heap w_MOD "com/example/atropos/atropos/lang/BuiltInFunction" "mostArguments" "I" (.int (2 : Int32)) := own_fld ev_MOD g19
  have F_FLOOR_fewestArguments : Fld s s.heap w_FLOOR "com/example/atropos/atropos/lang/BuiltInFunction" "fewestArguments" "I" (.int (1 : Int32)) := own_fld ev_FLOOR g21
  have F_FLOOR_mostArguments : Fld s s.heap w_FLOOR "com/example/atropos/atropos/lang/BuiltInFunction" "mostArguments" "I" (.int (1 : Int32)) := own_fld ev_FLOOR g22
  have F_CEIL_mostArguments : Fld s s.heap w_CEIL "com/example/atropos/atropos/lang/BuiltInFunction" "mostArguments" "I" (.int (1 : Int32)) := own_fld ev_CEIL g23
  obtain ⟨n, o, h1, h2, h3, _, L, rfl, ⟨rfl, N⟩, hq⟩ := rm_0 l s _ hw tables_1 i0 i1 w_MIN w_MOD w_ROUND w_POW w_LOG w_CEIL w_MAX w_FLOOR s.heap s.heap.size (Nat.le_refl _) S_MIN S_MOD S_ROUND S_POW S_LOG S_CEIL S_MAX S_FLOOR E_MIN E_MOD E_ROUND E_POW E_LOG E_CEIL E_MAX E_FLOOR F_MIN_fewestArguments F_MIN_mostArguments F_MOD_fewestArguments F_MOD_mostArguments F_ROUND_fewestArguments F_ROUND_mostArguments F_POW_fewestArguments F_POW_mostArguments F_LOG_fewestArguments F_LOG_mostArguments F_CEIL_fewestArguments F_CEIL_mostArguments F_MAX_fewestArguments F_MAX_mostArguments F_FLOOR_fewestArguments F_FLOOR_mostArguments p e ha hc hk s m _ below hf ((Spec.applies_iff_loose hf).mp happ).1 ⟨rfl, State.Warmed39.refl s, rfl⟩ trivial
  refine ⟨n, _, h1, h2, h3, hpost _ _ _ _ _ _ ⟨Cond.after_iff.mpr rfl, Cond.after_iff.mpr (eq_i res_at (Term.int_eval (1)) rfl), trivial⟩ ⟨hq.1, hq.2.1, (hq.2.2.sift fun y hy => Or.inr (N y hy)).mono (by decide) (by decide)⟩⟩
theorem main_1_1 : Claimed_1_1 := comes_1 fun _ _ _ _ _ _ h hF => ⟨h.1, hF⟩
theorem main_1_2 : Claimed_1_2 := comes_1 fun _ _ _ _ _ _ h hF => ⟨h.2.1, hF⟩
end Jvm.Pilot.@@N@@
namespace Jvm.Pilot.@@N@@
open Jvm Jvm.ClassFile Sem Op Lib Jvm.Free Jvm.Stand Jvm.Pilot.@@N@@.Jvm.D
/-! MADE BY PROGRAM (witnessworld.py) out of the Statement's table words and the real class files: 12 classes; the members and pool entries that the words name. The judged class is class 1, her method 1. -/
namespace start1
open Jvm.ClassFile
def u (s : String) : CpInfo := .utf8 (stringToUtf16 s)
/-- a pool by its gaps: so many unusable entries, then the entry; so many at the end -/
def gap : Nat → List CpInfo → List CpInfo
  | 0, r => r
  | n + 1, r => .unusable :: gap n r
def poolList (es : List (Nat × CpInfo)) (last : Nat) : List CpInfo := es.foldr (fun e r => gap e.1 (e.2 :: r)) (gap last [])
def pool (es : List (Nat × CpInfo)) (last : Nat) : Array CpInfo := ⟨poolList es last⟩
def fileOf (pool : Array CpInfo) (this : Nat) (attrs : Array Attribute := #[]) (ms : Array MethodInfo := #[]) (fl : Nat := 33) (sup : Nat := 0) (ifs : Array Nat := #[]) (fds : Array FieldInfo := #[]) : ClassFile where
  minorVersion := 0
  majorVersion := 65
  constantPool := pool
  accessFlags := fl
  thisClass := this
  superClass := sup
  interfaces := ifs
  fields := fds
  methods := ms
  attributes := attrs
def plain (name : String) (sup : Option ClassId) : Class where
  name := name
  kind := .ordinary
  loader := none
  accessFlags := 33
  super := sup
  interfaces := #[]
  cf := none
  fields := #[]
  methods := #[]
  instanceTypes := #[]
  staticTypes := #[]
  resolved := #[]
  callSites := []
  init := .initialized
  statics := none
  mirror := none

def pool0 : Array CpInfo := pool [(5, u "<init>"), (0, u "()V"), (1, .class_ 10), (1, u "java/lang/Object")] 113

def k0m0 : Method := { name := "<init>", desc := "()V", sig := { parameters := [], returnType := none }, accessFlags := 1, code := none }
/-- java/lang/Object -/
def k0 : Class := { plain "java/lang/Object" none with
  accessFlags := 33
  interfaces := #[]
  cf := some (fileOf pool0 8 #[] #[{ accessFlags := 1, nameIndex := 5, descriptorIndex := 6, attributes := #[] }] 33 0 #[] #[])
  fields := #[]
  methods := #[k0m0]
  instanceTypes := #[]
  staticTypes := #[]
  resolved := Array.replicate 124 none
  statics := none }

def pool1 : Array CpInfo := pool [(2, .class_ 4), (1, u "java/lang/Object"), (0, u "<init>"), (0, u "()V"), (0, .fieldref 8 9), (0, .class_ 10), (0, .nameAndType 11 12), (0, u "com/example/atropos/atropos/lang/BuiltInFunction"), (0, u "MIN"), (0, u "Lcom/example/atropos/atropos/lang/BuiltInFunction;"), (0, .fieldref 8 14), (0, .nameAndType 15 12), (0, u "MAX"), (0, .fieldref 8 17), (0, .nameAndType 18 12), (0, u "FLOOR"), (0, .fieldref 8 20), (0, .nameAndType 21 12), (0, u "CEIL"), (0, .fieldref 8 23), (0, .nameAndType 24 12), (0, u "ROUND"), (0, .fieldref 8 26), (0, .nameAndType 27 12), (0, u "POW"), (0, .fieldref 8 29), (0, .nameAndType 30 12), (0, u "MOD"), (0, .fieldref 8 32), (0, .nameAndType 33 12), (0, u "LOG"), (0, .methodref 8 35), (0, .nameAndType 36 37), (0, u "takes"), (0, u "(I)Z"), (0, .class_ 39), (0, u "com/example/atropos/atropos/lang/BuiltInFunctionTakesPinLaw"), (2, u "law"), (0, u "(II)Z")] 3

def k1m0 : Method := { name := "<init>", desc := "()V", sig := { parameters := [], returnType := none }, accessFlags := 1, code := none }
def k1c1 : Code := { maxStack := 2, maxLocals := 6, code := code, exceptionTable := #[], attributes := #[] }
def k1m1 : Method := { name := "law", desc := "(II)Z", sig := { parameters := [.int, .int], returnType := some .boolean }, accessFlags := 9, code := some k1c1 }
/-- com/example/atropos/atropos/lang/BuiltInFunctionTakesPinLaw -/
def k1 : Class := { plain "com/example/atropos/atropos/lang/BuiltInFunctionTakesPinLaw" (some 0) with
  accessFlags := 49
  interfaces := #[]
  cf := some (fileOf pool1 38 #[] #[{ accessFlags := 1, nameIndex := 5, descriptorIndex := 6, attributes := #[] }, { accessFlags := 9, nameIndex := 42, descriptorIndex := 43, attributes := #[] }] 49 2 #[] #[])
  fields := #[]
  methods := #[k1m0, k1m1]
  instanceTypes := #[]
  staticTypes := #[]
  resolved := Array.replicate 47 none
  statics := none }

def pool2 : Array CpInfo := pool [(1, .class_ 2), (0, u "java/lang/constant/Constable"), (0, .class_ 4), (0, u "java/lang/Object")] 6

/-- java/lang/constant/Constable -/
def k2 : Class := { plain "java/lang/constant/Constable" (some 0) with
  accessFlags := 1537
  interfaces := #[]
  cf := some (fileOf pool2 1 #[] #[] 1537 3 #[] #[])
  fields := #[]
  methods := #[]
  instanceTypes := #[]
  staticTypes := #[]
  resolved := Array.replicate 11 none
  statics := none }

def pool3 : Array CpInfo := pool [(1, .class_ 2), (0, u "java/lang/Comparable"), (0, .class_ 4), (0, u "java/lang/Object")] 7

/-- java/lang/Comparable -/
def k3 : Class := { plain "java/lang/Comparable" (some 0) with
  accessFlags := 1537
  interfaces := #[]
  cf := some (fileOf pool3 1 #[] #[] 1537 3 #[] #[])
  fields := #[]
  methods := #[]
  instanceTypes := #[]
  staticTypes := #[]
  resolved := Array.replicate 12 none
  statics := none }

def pool4 : Array CpInfo := pool [(1, .class_ 2), (0, u "java/io/Serializable"), (0, .class_ 4), (0, u "java/lang/Object")] 2

/-- java/io/Serializable -/
def k4 : Class := { plain "java/io/Serializable" (some 0) with
  accessFlags := 1537
  interfaces := #[]
  cf := some (fileOf pool4 1 #[] #[] 1537 3 #[] #[])
  fields := #[]
  methods := #[]
  instanceTypes := #[]
  staticTypes := #[]
  resolved := Array.replicate 7 none
  statics := none }

def pool5 : Array CpInfo := pool [(2, .class_ 4), (1, u "java/lang/Enum"), (0, u "name"), (0, u "Ljava/lang/String;"), (2, u "ordinal"), (0, u "I"), (1, .class_ 14), (1, u "java/lang/Object"), (4, u "hash"), (86, .class_ 108), (1, u "java/lang/Enum$EnumDesc"), (2, .class_ 112), (0, u "java/lang/constant/Constable"), (0, .class_ 114), (0, u "java/lang/Comparable"), (0, .class_ 116), (0, u "java/io/Serializable")] 87

/-- java/lang/Enum -/
def k5 : Class := { plain "java/lang/Enum" (some 0) with
  accessFlags := 1057
  interfaces := #[2, 3, 4]
  cf := some (fileOf pool5 2 #[.nestMembers #[106]] #[] 1057 12 #[111, 113, 115] #[{ accessFlags := 18, nameIndex := 5, descriptorIndex := 6, attributes := #[] }, { accessFlags := 18, nameIndex := 9, descriptorIndex := 10, attributes := #[] }, { accessFlags := 2, nameIndex := 19, descriptorIndex := 10, attributes := #[] }])
  fields := #[{ name := "name", type := (.object "java/lang/String"), accessFlags := 18, slot := 0, constantValue := 0 }, { name := "ordinal", type := .int, accessFlags := 18, slot := 1, constantValue := 0 }, { name := "hash", type := .int, accessFlags := 2, slot := 2, constantValue := 0 }]
  methods := #[]
  instanceTypes := #[(.object "java/lang/String"), .int, .int]
  staticTypes := #[]
  resolved := Array.replicate 204 none
  statics := none }

def pool6 : Array CpInfo := pool [(1, .class_ 2), (0, u "com/example/atropos/atropos/lang/BuiltInFunction"), (2, u "MIN"), (0, u "Lcom/example/atropos/atropos/lang/BuiltInFunction;"), (2, u "MAX"), (2, u "FLOOR"), (2, u "CEIL"), (2, u "ROUND"), (2, u "POW"), (2, u "MOD"), (2, u "LOG"), (2, u "$VALUES"), (0, u "[Lcom/example/atropos/atropos/lang/BuiltInFunction;"), (6, .class_ 40), (1, u "java/lang/Enum"), (8, u "name"), (0, u "Ljava/lang/String;"), (0, .fieldref 1 52), (0, .nameAndType 53 54), (0, u "fewestArguments"), (0, u "I"), (0, .fieldref 1 56), (0, .nameAndType 57 54), (0, u "mostArguments"), (2, u "typing"), (0, u "Lcom/example/atropos/atropos/lang/BuiltInFunction$Typing;"), (11, .class_ 75), (1, u "com/example/atropos/atropos/lang/BuiltInFunction$Typing"), (94, u "takes"), (0, u "(I)Z")] 30

def k6c0 : Code := { maxStack := 2, maxLocals := 2, code := prog_11_method_5_code, exceptionTable := #[], attributes := #[] }
def k6m0 : Method := { name := "takes", desc := "(I)Z", sig := { parameters := [.int], returnType := some .boolean }, accessFlags := 0, code := some k6c0 }
/-- com/example/atropos/atropos/lang/BuiltInFunction -/
def k6 : Class := { plain "com/example/atropos/atropos/lang/BuiltInFunction" (some 5) with
  accessFlags := 16432
  interfaces := #[]
  cf := some (fileOf pool6 1 #[.nestMembers #[73]] #[{ accessFlags := 0, nameIndex := 170, descriptorIndex := 171, attributes := #[] }] 16432 38 #[] #[{ accessFlags := 16409, nameIndex := 5, descriptorIndex := 6, attributes := #[] }, { accessFlags := 16409, nameIndex := 9, descriptorIndex := 6, attributes := #[] }, { accessFlags := 16409, nameIndex := 12, descriptorIndex := 6, attributes := #[] }, { accessFlags := 16409, nameIndex := 15, descriptorIndex := 6, attributes := #[] }, { accessFlags := 16409, nameIndex := 18, descriptorIndex := 6, attributes := #[] }, { accessFlags := 16409, nameIndex := 21, descriptorIndex := 6, attributes := #[] }, { accessFlags := 16409, nameIndex := 24, descriptorIndex := 6, attributes := #[] }, { accessFlags := 16409, nameIndex := 27, descriptorIndex := 6, attributes := #[] }, { accessFlags := 18, nameIndex := 49, descriptorIndex := 50, attributes := #[] }, { accessFlags := 18, nameIndex := 53, descriptorIndex := 54, attributes := #[] }, { accessFlags := 18, nameIndex := 57, descriptorIndex := 54, attributes := #[] }, { accessFlags := 18, nameIndex := 60, descriptorIndex := 61, attributes := #[] }, { accessFlags := 4122, nameIndex := 30, descriptorIndex := 31, attributes := #[] }])
  fields := #[{ name := "MIN", type := (.object "com/example/atropos/atropos/lang/BuiltInFunction"), accessFlags := 16409, slot := 0, constantValue := 0 }, { name := "MAX", type := (.object "com/example/atropos/atropos/lang/BuiltInFunction"), accessFlags := 16409, slot := 1, constantValue := 0 }, { name := "FLOOR", type := (.object "com/example/atropos/atropos/lang/BuiltInFunction"), accessFlags := 16409, slot := 2, constantValue := 0 }, { name := "CEIL", type := (.object "com/example/atropos/atropos/lang/BuiltInFunction"), accessFlags := 16409, slot := 3, constantValue := 0 }, { name := "ROUND", type := (.object "com/example/atropos/atropos/lang/BuiltInFunction"), accessFlags := 16409, slot := 4, constantValue := 0 }, { name := "POW", type := (.object "com/example/atropos/atropos/lang/BuiltInFunction"), accessFlags := 16409, slot := 5, constantValue := 0 }, { name := "MOD", type := (.object "com/example/atropos/atropos/lang/BuiltInFunction"), accessFlags := 16409, slot := 6, constantValue := 0 }, { name := "LOG", type := (.object "com/example/atropos/atropos/lang/BuiltInFunction"), accessFlags := 16409, slot := 7, constantValue := 0 }, { name := "name", type := (.object "java/lang/String"), accessFlags := 18, slot := 3, constantValue := 0 }, { name := "fewestArguments", type := .int, accessFlags := 18, slot := 4, constantValue := 0 }, { name := "mostArguments", type := .int, accessFlags := 18, slot := 5, constantValue := 0 }, { name := "typing", type := (.object "com/example/atropos/atropos/lang/BuiltInFunction$Typing"), accessFlags := 18, slot := 6, constantValue := 0 }, { name := "$VALUES", type := (.array (.object "com/example/atropos/atropos/lang/BuiltInFunction")), accessFlags := 4122, slot := 8, constantValue := 0 }]
  methods := #[k6m0]
  instanceTypes := #[(.object "java/lang/String"), .int, .int, (.object "java/lang/String"), .int, .int, (.object "com/example/atropos/atropos/lang/BuiltInFunction$Typing")]
  staticTypes := #[(.object "com/example/atropos/atropos/lang/BuiltInFunction"), (.object "com/example/atropos/atropos/lang/BuiltInFunction"), (.object "com/example/atropos/atropos/lang/BuiltInFunction"), (.object "com/example/atropos/atropos/lang/BuiltInFunction"), (.object "com/example/atropos/atropos/lang/BuiltInFunction"), (.object "com/example/atropos/atropos/lang/BuiltInFunction"), (.object "com/example/atropos/atropos/lang/BuiltInFunction"), (.object "com/example/atropos/atropos/lang/BuiltInFunction"), (.array (.object "com/example/atropos/atropos/lang/BuiltInFunction"))]
  resolved := Array.replicate 202 none
  statics := some 0 }

def pool7 : Array CpInfo := pool [(1, u "java/lang/Cloneable"), (0, .class_ 1), (0, u "java/lang/Object"), (0, .class_ 3)] 3

/-- java/lang/Cloneable -/
def k7 : Class := { plain "java/lang/Cloneable" (some 0) with
  accessFlags := 1537
  interfaces := #[]
  cf := some (fileOf pool7 2 #[] #[] 1537 4 #[] #[])
  fields := #[]
  methods := #[]
  instanceTypes := #[]
  staticTypes := #[]
  resolved := Array.replicate 8 none
  statics := none }

/-- the primitive byte -/
def k8 : Class := { plain "byte" none with kind := .primitive 'B', accessFlags := 0x411 }
/-- [B -/
def k9 : Class := { plain "[B" (some 0) with kind := .array 8 .byte, interfaces := #[7, 4], accessFlags := 1041 }

/-- the primitive int -/
def k10 : Class := { plain "int" none with kind := .primitive 'I', accessFlags := 0x411 }
/-- [I -/
def k11 : Class := { plain "[I" (some 0) with kind := .array 10 .int, interfaces := #[7, 4], accessFlags := 1041 }

def heap : Heap := #[{ cls := 6, slots := #[.ref 1, .ref 7, .ref 8, .ref 6, .ref 3, .ref 4, .ref 2, .ref 5, .null], vm := .statics 6 },
  { cls := 6, slots := #[.null, .int 0, .int 0, .null, .int 2, .int 2147483647, .null], vm := .none },
  { cls := 6, slots := #[.null, .int 0, .int 0, .null, .int 2, .int 2, .null], vm := .none },
  { cls := 6, slots := #[.null, .int 0, .int 0, .null, .int 1, .int 1, .null], vm := .none },
  { cls := 6, slots := #[.null, .int 0, .int 0, .null, .int 2, .int 2, .null], vm := .none },
  { cls := 6, slots := #[.null, .int 0, .int 0, .null, .int 2, .int 2, .null], vm := .none },
  { cls := 6, slots := #[.null, .int 0, .int 0, .null, .int 1, .int 1, .null], vm := .none },
  { cls := 6, slots := #[.null, .int 0, .int 0, .null, .int 2, .int 2147483647, .null], vm := .none },
  { cls := 6, slots := #[.null, .int 0, .int 0, .null, .int 1, .int 1, .null], vm := .none }]
def classes : Array Class := #[k0, k1, k2, k3, k4, k5, k6, k7, k8, k9, k10, k11]
def interned : List (Array UInt16 × Addr) := []
def slotsUsed : Nat := 65
def theMethod : MethodId := ⟨1, 1⟩
def args0 : Array Value := #[.int 5, .int 5]
def aboutOver (below : List Frame) : State where
  vm := { classes := classes, interned := interned.toArray }
  heap := heap
  slotsUsed := slotsUsed
  threads := #[{ frames := .invoking theMethod args0 :: below }]
def below0 : List Frame := [.native { method := ⟨0, 0⟩, args := #[] }]
def about1 : State := aboutOver below0
def p0 : Program := .bare "" "" ""
def e0 : Env := launch0.env 0 0 0
theorem w_frames : about1.frames = Frame.invoking theMethod args0 :: below0 := rfl
set_option maxRecDepth 65536 in
theorem w_args : argsFit about1.vm theMethod args0 = true := by decide +kernel
set_option maxRecDepth 65536 in
theorem w_heap : heapFits about1 = true := by decide +kernel
set_option maxRecDepth 65536 in
theorem w_runnable : about1.curStatus? = some .runnable := by decide +kernel
set_option maxRecDepth 65536 in
theorem w_alone : about1.alone = true := by decide +kernel
set_option maxRecDepth 65536 in
theorem w_named : about1.methodNamed? x = some theMethod := by decide +kernel
set_option maxRecDepth 65536 in
theorem w_hears : about1.hears theMethod below0 = true := by decide +kernel
set_option maxRecDepth 65536 in
theorem w_ripe : about1.ripe theMethod args0 below0 = true := by decide +kernel
theorem w_running : about1.status = .running := rfl
set_option maxRecDepth 65536 in
theorem w_room : about1.hasRoom e0.platform room_1 = true :=
  launch0.hasRoom_least _ room_1 (by decide +kernel) (by decide +kernel) (by decide +kernel) (by decide +kernel) (by decide +kernel) (by decide +kernel)
theorem allAtoms_all (ts : List Jvm.Cond) (a : Array Jvm.Value) (st : Jvm.State) : (allAtoms ts).before a st = ts.all (fun c => c.before a st) := by
  induction ts with
  | nil => rfl
  | cons c t ih =>
    show (Jvm.Cond.and c (allAtoms t)).before a st = _
    rw [Jvm.Cond.before_and, ih, List.all_cons]
def words1 : List Jvm.Cond := Jvm.Cond.code x code maxLocals ret :: tables_1
/-- a 'code' word, met by the world's own term for the bytes: nothing is compared byte by byte -/
theorem code_word {y : MethodName} {bytes : ByteArray} {mx : Nat} {rt : Option FieldType} {a : Array Value} {s : State} {m : MethodId} {meth : Method} {c : Code} (h1 : s.methodNamed? y = some m) (h2 : s.vm.method? m = some meth) (h3 : meth.code = some c) (h4 : c.code = bytes)
    (h5 : (c.maxLocals == mx && c.exceptionTable.isEmpty && decide (c.maxStack ≤ mostOperands) && decide (meth.sig.returnType = rt) && !meth.locks && decide (parseMethodDescriptor y.desc = some meth.sig)) = true) : (Jvm.Cond.code y bytes mx rt).before a s = true := by
  simp only [Bool.and_eq_true, beq_iff_eq, Bool.not_eq_true', decide_eq_true_eq] at h5
  obtain ⟨⟨⟨⟨⟨g1, g2⟩, g3⟩, g4⟩, g5⟩, g6⟩ := h5
  simp [Cond.before, Cond.holds, Cond.value, h1, h2, h3, h4, g1, g2, g3, g4, g5, g6]
def isCode : Jvm.Cond → Bool
  | .code _ _ _ _ => true
  | _ => false
theorem all_split {L : List Jvm.Cond} {P : Jvm.Cond → Bool} (h1 : L.all (fun c => isCode c || P c) = true) (h2 : ∀ c ∈ L.filter isCode, P c = true) : L.all P = true := by
  refine List.all_eq_true.mpr fun c hc => ?_
  have h := List.all_eq_true.mp h1 c hc
  rcases Bool.eq_false_or_eq_true (isCode c) with hi | hi
  · exact h2 c (List.mem_filter.mpr ⟨hc, hi⟩)
  · simpa [hi] using h
set_option maxRecDepth 65536 in
theorem w_c0 : (Jvm.Cond.code x code maxLocals ret).before args0 about1 = true := code_word (m := ⟨1, 1⟩) (meth := k1m1) (c := k1c1) (by decide +kernel) rfl rfl rfl (by decide +kernel)
set_option maxRecDepth 65536 in
theorem w_c1 : (Jvm.Cond.code ({ cls := "com/example/atropos/atropos/lang/BuiltInFunction", name := "takes", desc := "(I)Z" } : Jvm.MethodName) prog_11_method_5_code (2 : Nat) (Option.some Jvm.ClassFile.FieldType.boolean)).before args0 about1 = true := code_word (m := ⟨6, 0⟩) (meth := k6m0) (c := k6c0) (by decide +kernel) rfl rfl rfl (by decide +kernel)
def codes1 : List Jvm.Cond := [Jvm.Cond.code x code maxLocals ret, Jvm.Cond.code ({ cls := "com/example/atropos/atropos/lang/BuiltInFunction", name := "takes", desc := "(I)Z" } : Jvm.MethodName) prog_11_method_5_code (2 : Nat) (Option.some Jvm.ClassFile.FieldType.boolean)]
set_option maxRecDepth 65536 in
theorem codes_eq : words1.filter isCode = codes1 := rfl
theorem w_codes : ∀ c ∈ words1.filter isCode, c.before args0 about1 = true := by
  rw [codes_eq]
  intro c hc
  simp only [codes1, List.mem_cons, List.not_mem_nil, or_false] at hc
  rcases hc with rfl | rfl
  · exact w_c0
  · exact w_c1
set_option maxRecDepth 65536 in
theorem w_t1 : (words1.take 24).all (fun c => isCode c || c.before args0 about1) = true := by decide +kernel
set_option maxRecDepth 65536 in
theorem w_t2 : (words1.drop 24).all (fun c => isCode c || c.before args0 about1) = true := by decide +kernel
theorem w_tables : (allAtoms (Jvm.Cond.code x code maxLocals ret :: tables_1)).before args0 about1 = true := by
  rw [allAtoms_all]
  show words1.all (fun c => c.before args0 about1) = true
  refine all_split ?_ w_codes
  rw [← List.take_append_drop 24 words1, List.all_append, w_t1, w_t2]
  rfl
set_option maxRecDepth 65536 in
theorem w_case : (Jvm.Cond.and given_1 narrow_1).before args0 about1 = true := by decide +kernel
theorem w_applies : (headSpec (Jvm.Cond.code x code maxLocals ret :: tables_1) room_1).applies x e0.platform about1 = true :=
  (Spec.applies_iff w_frames).mpr ⟨w_running, w_runnable, w_alone, w_named, w_hears, w_ripe, w_room, w_tables⟩
theorem atStart : AtStart classFile x code maxLocals ret World_1 tables_1 room_1 Calls_1 rest_1 Pre_1 launch0 p0 e0 about1 theMethod args0 below0 :=
  ⟨lists_1, trivial, launch0.admits_env _ _ _, launch0.least_env, fairChoices_fair.cas, fairChoices_fair.clock, w_frames, w_args, w_heap, w_applies, trivial, trivial, w_case⟩
end start1
theorem witness_1 : WitnessClaimed_1 := ⟨start1.p0, start1.e0, start1.about1, start1.theMethod, start1.args0, start1.below0, start1.atStart⟩
end Jvm.Pilot.@@N@@
