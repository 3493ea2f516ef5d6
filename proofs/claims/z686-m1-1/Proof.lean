import JvmDerived
import JvmDerived.Pilot.@@N@@Statement
import JvmDerived.Pilot.@@N@@Code
set_option linter.unusedVariables false
set_option linter.unusedSimpArgs false
namespace Jvm.RoadKit
open Sem ClassFile Op Lib Jvm.Stand Jvm.Free Jvm.LawKit
section New
variable {p : Program} {l : Launch} {e : Env} {R : Room} {s : State} {m : MethodId} {args : Array Value} {below : List Frame} {meth : Method} {c : Code} {T : State} {locs : List Loc} {cells slots : Nat}
theorem retI (X : Stand p l e R s m args below meth c T locs cells slots) (hx : p.tables.exec = Jvm.exec) {pc : Nat} {Ls : Array Slot} {z : Int32} {rest : List Value} (hret : meth.sig.returnType = some .int) (hd : decode c.code pc = .ok (.ireturn, 1)) {fs : List Frame}
    (hl : ∀ (f : JFrame) (acts : List Action), f.method = m → f.locked = none → f.entered = [] → (doReturn e (T.setTop f) acts (some (.int z))).1 = T.setFrames fs) : Steps p.tables e below (T.setTop (mkF m pc Ls (.int z :: rest))) (T.setFrames fs) := by
  have hm' : T.vm.method? m = some meth := X.method'
  have hn : narrow .int (.int z) = .int z := rfl
  show Steps p.tables e below (T.setTop { method := m, pc := pc, locals := Ls, stack := _ :: rest, locked := none }) _
  jvm_step X.here [X.here.top, hx, hd, hm', hret, hn]
  first | (intro acts; rw [hl _ acts rfl rfl rfl]) | rw [hl _ _ rfl rfl rfl]
  exact Steps.refl _
theorem retA (X : Stand p l e R s m args below meth c T locs cells slots) (hx : p.tables.exec = Jvm.exec) {pc : Nat} {Ls : Array Slot} {w : Value} {t : FieldType} {rest : List Value} (hret : meth.sig.returnType = some t) (ht : t.isReference = true) (hw : w.isRef = true) (hn : narrow t w = w) (hd : decode c.code pc = .ok (.areturn, 1)) {fs : List Frame}
    (hl : ∀ (f : JFrame) (acts : List Action), f.method = m → f.locked = none → f.entered = [] → (doReturn e (T.setTop f) acts (some w)).1 = T.setFrames fs) : Steps p.tables e below (T.setTop (mkF m pc Ls (w :: rest))) (T.setFrames fs) :=
  retOut X hx hret hn (Or.inr (Or.inr (Or.inr (Or.inr ⟨rfl, ht, hw⟩)))) hd hl
end New
/-- all that was there is there still: a write to a cell above -/
theorem own_ext_wr {h0 h h' : Heap} {a : Addr} {sl : Nat} {v : Value} (E : Ext h0 h) (W : Wr h h' a sl v) (q : h0.size ≤ a) : Ext h0 h' := by
  refine ⟨Nat.le_trans E.1 (Keep.of_wr W).1, fun x c hc => (Keep.of_wr W).2.1 x c (E.2 x c hc) fun hm => ?_⟩
  cases List.mem_singleton.mp hm
  exact absurd (Array.getElem?_eq_some_iff.mp hc).1 (Nat.not_lt.mpr q)
theorem own_ext_keep {h0 h h' : Heap} {ws : List Addr} (E : Ext h0 h) (K : Keep h h' ws) (q : ∀ x ∈ ws, h0.size ≤ x) : Ext h0 h' :=
  ⟨Nat.le_trans E.1 K.1, fun x c hc => K.2.1 x c (E.2 x c hc) fun hm => absurd (Array.getElem?_eq_some_iff.mp hc).1 (Nat.not_lt.mpr (q x hm))⟩
theorem own_ext_trans {h0 h h' : Heap} (E : Ext h0 h) (E' : Ext h h') : Ext h0 h' := ⟨Nat.le_trans E.1 E'.1, fun x c hc => E'.2 x c (E.2 x c hc)⟩
theorem own_ext_refl (h : Heap) : Ext h h := ⟨Nat.le_refl _, fun _ _ q => q⟩
/-- a static that holds an object of this very class -/
theorem own_sta {Z : State} {a0 : Array Value} {C n d K : String} (wi : (Cond.initialized C).before a0 Z = true) (wl : (Cond.laysStatic C n d).before a0 Z = true) (hx : (Cond.exactly (.static C n d) K).value a0 Z none Z [] = some true) :
    ∃ w, (Term.static C n d).eval a0 Z none [] Z = some (.ref w) ∧ Sta Z Z.heap C n d (.ref w) ∧ Exa Z Z.heap w K := by
  obtain ⟨w, ev⟩ := exa_v hx
  exact ⟨w, ev, Sta.start ev (Or.inr ⟨wi, wl⟩), Exa.start ev hx⟩
/-- a field of an object that a term names, by an 'eq' of ints -/
theorem own_fld {Z : State} {a0 : Array Value} {t : Term} {w : Addr} {C n d : String} {k : Int32} (ev : t.eval a0 Z none [] Z = some (.ref w)) (h : (Cond.eq (.field t C n d) (.int k)).value a0 Z none Z [] = some true) : Fld Z Z.heap w C n d (.int k) :=
  Fld.start ((fld_at ev).symm.trans (eqv_i (F := .int k) rfl h))
end Jvm.RoadKit
namespace Jvm.Pilot.@@N@@
open Jvm Jvm.ClassFile Sem Op Lib Jvm.Free Jvm.Stand Jvm.LawKit Jvm.RoadKit Bundle Jvm.Pilot.@@N@@.Jvm.D
theorem ef_1 (m : MethodId) (a : Addr) : entryFrame m #[(.ref a)] 1 = mkF m 0 #[.val (.ref a)] [] := by first | (simp [entryFrame, mkF, argsToLocals, Value.category]; done) | rfl
def Q_1 (Z : State) (a : Addr) (w_SINGLE_TASK : Addr) (w_SINGLE_INSTANCE : Addr) (w_SINGLE_INSTANCE_PER_TASK : Addr) (h0 : Heap) (n0 : Nat) (v : Option Value) (h : Heap) (L : List Loc) : Prop := v = some (.int (if a = w_SINGLE_TASK then (1 : Int32) else (if a = w_SINGLE_INSTANCE then (1 : Int32) else (if a = w_SINGLE_INSTANCE_PER_TASK then (1 : Int32) else (0 : Int32))))) ∧ Fr n0 L ∧ h = h0
theorem pn_0 : plainName "com/example/screen_stack_runtime/screenstackruntime/model/LaunchMode" = true := by first | (simp [plainName, overriddenIn]; done) | decide +kernel
theorem d1_0 : decode prog_96_method_5_code 0 = .ok (.aload_n 0, 1) := by decide +kernel
theorem d1_1 : decode prog_96_method_5_code 1 = .ok (.getstatic 10, 3) := by decide +kernel
theorem d1_4 : decode prog_96_method_5_code 4 = .ok (.if_acmp .eq 17, 3) := by decide +kernel
theorem d1_21 : decode prog_96_method_5_code 21 = .ok (.iconst 1, 1) := by decide +kernel
theorem d1_22 : decode prog_96_method_5_code 22 = .ok (.goto 4, 3) := by decide +kernel
theorem d1_26 : decode prog_96_method_5_code 26 = .ok (.ireturn, 1) := by decide +kernel
theorem d1_7 : decode prog_96_method_5_code 7 = .ok (.aload_n 0, 1) := by decide +kernel
theorem d1_8 : decode prog_96_method_5_code 8 = .ok (.getstatic 13, 3) := by decide +kernel
theorem d1_11 : decode prog_96_method_5_code 11 = .ok (.if_acmp .eq 10, 3) := by decide +kernel
theorem d1_14 : decode prog_96_method_5_code 14 = .ok (.aload_n 0, 1) := by decide +kernel
theorem d1_15 : decode prog_96_method_5_code 15 = .ok (.getstatic 16, 3) := by decide +kernel
theorem d1_18 : decode prog_96_method_5_code 18 = .ok (.if_acmp .ne 7, 3) := by decide +kernel
theorem d1_25 : decode prog_96_method_5_code 25 = .ok (.iconst 0, 1) := by decide +kernel
set_option maxRecDepth 65536 in
set_option maxHeartbeats 40000000 in
theorem rm_1 (l : Launch) (Z : State) (a0 : Array Value) (hw : ∀ d ∈ tables_1, d.before a0 Z = true) (ws : List Jvm.Cond) (a : Addr) (w_SINGLE_TASK : Addr) (w_SINGLE_INSTANCE : Addr) (w_SINGLE_INSTANCE_PER_TASK : Addr) (h0 : Heap) (n0 : Nat) (Z0 : n0 ≤ h0.size) (S_SINGLE_TASK : Sta Z h0 "com/example/screen_stack_runtime/screenstackruntime/model/LaunchMode" "SINGLE_TASK" "Lcom/example/screen_stack_runtime/screenstackruntime/model/LaunchMode;" (.ref w_SINGLE_TASK)) (S_SINGLE_INSTANCE : Sta Z h0 "com/example/screen_stack_runtime/screenstackruntime/model/LaunchMode" "SINGLE_INSTANCE" "Lcom/example/screen_stack_runtime/screenstackruntime/model/LaunchMode;" (.ref w_SINGLE_INSTANCE)) (S_SINGLE_INSTANCE_PER_TASK : Sta Z h0 "com/example/screen_stack_runtime/screenstackruntime/model/LaunchMode" "SINGLE_INSTANCE_PER_TASK" "Lcom/example/screen_stack_runtime/screenstackruntime/model/LaunchMode;" (.ref w_SINGLE_INSTANCE_PER_TASK)) :
    MetFree l (⟨"com/example/screen_stack_runtime/screenstackruntime/model/LaunchMode", "reusesRunningInstance", "()Z"⟩ : MethodName) (head1 (Jvm.Cond.code (⟨"com/example/screen_stack_runtime/screenstackruntime/model/LaunchMode", "reusesRunningInstance", "()Z"⟩ : MethodName) prog_96_method_5_code 1 (some .boolean) :: ws) ({ frames := 0, cells := 0, slots := 0, locals := 0 } : Room)) (fun a_ U_ => a_ = #[(.ref a)] ∧ Z.Warmed39 U_.vm ∧ U_.heap = h0) (fun _ _ _ _ _ => True) (fun _ U_ o_ V_ => ∃ v_ L_, o_ = .returned v_ ∧ Q_1 Z a w_SINGLE_TASK w_SINGLE_INSTANCE w_SINGLE_INSTANCE_PER_TASK h0 n0 v_ V_.heap L_ ∧ FrameEnd U_ o_ V_ L_ ({ frames := 0, cells := 0, slots := 0, locals := 0 } : Room).cells ({ frames := 0, cells := 0, slots := 0, locals := 0 } : Room).slots) := by
  refine MetFree.of_bodySF (plainFor_of_name pn_0) hisR ?_
  intro p e s m args below meth c s₁ Bd hml0 hP hK
  obtain ⟨rfl, hZ, hh⟩ := hP
  have hx := Bd.exec
  have hby := Bd.bytes
  have hml : c.maxLocals = 1 := hml0
  have hown : s.vm.findClass "com/example/screen_stack_runtime/screenstackruntime/model/LaunchMode" = some m.cls := findClass_of_methodNamed Bd.named
  have hnm := (name_of_methodNamed Bd.named Bd.method).1
  have X0 : Stand p l e ({ frames := 0, cells := 0, slots := 0, locals := 0 } : Room) s m #[(.ref a)] below meth c s₁ [] 0 0 := Stand.of_body Bd
  have e0 : s₁.heap = h0 := by rw [← hh, Bd.state]; rfl
  have N0 := Fr.nil n0
  have pre0 : ∀ t_, Steps p.tables e below (s₁.setTop (mkF m 0 #[.val (.ref a)] [])) t_ → Steps p.tables e below (s₁.setTop (entryFrame m #[(.ref a)] 1)) t_ := fun t_ k_ => castTop (ef_1 m a) k_
  obtain ⟨T1, X1, e1, st1⟩ := getS2 X0 hx hZ hown (host := "") (Or.inl (hw _ (List.mem_of_getElem? (i := 9) rfl))) Via.refl e0 S_SINGLE_TASK (g := (mkF m 1 #[.val (.ref a)] [(.ref a)])) rfl (hb hby d1_1)
  have pre2 : ∀ t_, Steps p.tables e below (T1.setTop (mkF m 4 #[.val (.ref a)] [(.ref w_SINGLE_TASK), (.ref a)])) t_ → Steps p.tables e below (s₁.setTop (entryFrame m #[(.ref a)] 1)) t_ := fun t_ k_ => pre0 t_ (by
    show Steps p.tables e below (s₁.setTop (mkF m 0 #[.val (.ref a)] [])) _
    refine XS.aloadN X0.here hx rfl (hb hby d1_0) rfl rfl ?_
    show Steps p.tables e below (s₁.setTop (mkF m 1 #[.val (.ref a)] [(.ref a)])) _
    refine st1 _ ?_
    show Steps p.tables e below (T1.setTop (mkF m 4 #[.val (.ref a)] [(.ref w_SINGLE_TASK), (.ref a)])) _
    exact k_)
  by_cases hc4_3 : a = w_SINGLE_TASK
  · have pre4 : ∀ t_, Steps p.tables e below (T1.setTop (mkF m 26 #[.val (.ref a)] [(.int (1 : Int32))])) t_ → Steps p.tables e below (s₁.setTop (entryFrame m #[(.ref a)] 1)) t_ := fun t_ k_ => pre2 t_ (by
      show Steps p.tables e below (T1.setTop (mkF m 4 #[.val (.ref a)] [(.ref w_SINGLE_TASK), (.ref a)])) _
      refine Jvm.RoadKit.acmp (g := (mkF m 4 #[.val (.ref a)] [(.ref w_SINGLE_TASK), (.ref a)])) X1 hx rfl rfl rfl (pc0 := 4) (pc' := 21) (same := true) rfl (hb hby d1_4) rfl (decide_eq_true (congrArg Value.ref hc4_3)) (by decide) (by decide) ?_
      show Steps p.tables e below (T1.setTop (mkF m 21 #[.val (.ref a)] [])) _
      refine XS.iconst X1.here hx rfl (hb hby d1_21) ?_
      show Steps p.tables e below (T1.setTop (mkF m 22 #[.val (.ref a)] [(.int (1 : Int32))])) _
      refine XS.goto X1.here hx rfl (pc0 := 22) (pc' := 26) rfl (hb hby d1_22) (by decide) (by decide) ?_
      show Steps p.tables e below (T1.setTop (mkF m 26 #[.val (.ref a)] [(.int (1 : Int32))])) _
      exact k_)
    obtain ⟨fs, hr, hrun, hended, hW, hsame⟩ := X1.leave (v := some (.int (1 : Int32))) (fun h => by rw [Bd.returns] at h; cases h)
    refine ⟨_, _, pre4 _ ?_, hrun, hended, _, _, rfl, ?_, ⟨_, rfl⟩, hW, hsame.mono (by decide) (by decide)⟩
    · show Steps p.tables e below (T1.setTop (mkF m 26 #[.val (.ref a)] [(.int (1 : Int32))])) _
      exact retN X1 hx (t := .boolean) Bd.returns (by simp) (hb hby d1_26) hr
    · show Q_1 Z a w_SINGLE_TASK w_SINGLE_INSTANCE w_SINGLE_INSTANCE_PER_TASK h0 n0 _ T1.heap _
      rw [e1]
      exact ⟨by rw [if_pos hc4_3], N0, rfl⟩
  · obtain ⟨T5, X5, e5, st5⟩ := getS2 X1 hx hZ hown (host := "") (Or.inl (hw _ (List.mem_of_getElem? (i := 11) rfl))) Via.refl e1 S_SINGLE_INSTANCE (g := (mkF m 8 #[.val (.ref a)] [(.ref a)])) rfl (hb hby d1_8)
    have pre6 : ∀ t_, Steps p.tables e below (T5.setTop (mkF m 11 #[.val (.ref a)] [(.ref w_SINGLE_INSTANCE), (.ref a)])) t_ → Steps p.tables e below (s₁.setTop (entryFrame m #[(.ref a)] 1)) t_ := fun t_ k_ => pre2 t_ (by
      show Steps p.tables e below (T1.setTop (mkF m 4 #[.val (.ref a)] [(.ref w_SINGLE_TASK), (.ref a)])) _
      refine Jvm.RoadKit.acmp (g := (mkF m 4 #[.val (.ref a)] [(.ref w_SINGLE_TASK), (.ref a)])) X1 hx rfl rfl rfl (pc0 := 4) (pc' := 7) (same := false) rfl (hb hby d1_4) rfl (decide_eq_false fun q_ => hc4_3 (Value.ref.inj q_)) (by decide) (by decide) ?_
      show Steps p.tables e below (T1.setTop (mkF m 7 #[.val (.ref a)] [])) _
      refine XS.aloadN X1.here hx rfl (hb hby d1_7) rfl rfl ?_
      show Steps p.tables e below (T1.setTop (mkF m 8 #[.val (.ref a)] [(.ref a)])) _
      refine st5 _ ?_
      show Steps p.tables e below (T5.setTop (mkF m 11 #[.val (.ref a)] [(.ref w_SINGLE_INSTANCE), (.ref a)])) _
      exact k_)
    by_cases hc11_7 : a = w_SINGLE_INSTANCE
    · have pre8 : ∀ t_, Steps p.tables e below (T5.setTop (mkF m 26 #[.val (.ref a)] [(.int (1 : Int32))])) t_ → Steps p.tables e below (s₁.setTop (entryFrame m #[(.ref a)] 1)) t_ := fun t_ k_ => pre6 t_ (by
        show Steps p.tables e below (T5.setTop (mkF m 11 #[.val (.ref a)] [(.ref w_SINGLE_INSTANCE), (.ref a)])) _
        refine Jvm.RoadKit.acmp (g := (mkF m 11 #[.val (.ref a)] [(.ref w_SINGLE_INSTANCE), (.ref a)])) X5 hx rfl rfl rfl (pc0 := 11) (pc' := 21) (same := true) rfl (hb hby d1_11) rfl (decide_eq_true (congrArg Value.ref hc11_7)) (by decide) (by decide) ?_
        show Steps p.tables e below (T5.setTop (mkF m 21 #[.val (.ref a)] [])) _
        refine XS.iconst X5.here hx rfl (hb hby d1_21) ?_
        show Steps p.tables e below (T5.setTop (mkF m 22 #[.val (.ref a)] [(.int (1 : Int32))])) _
        refine XS.goto X5.here hx rfl (pc0 := 22) (pc' := 26) rfl (hb hby d1_22) (by decide) (by decide) ?_
        show Steps p.tables e below (T5.setTop (mkF m 26 #[.val (.ref a)] [(.int (1 : Int32))])) _
        exact k_)
      obtain ⟨fs, hr, hrun, hended, hW, hsame⟩ := X5.leave (v := some (.int (1 : Int32))) (fun h => by rw [Bd.returns] at h; cases h)
      refine ⟨_, _, pre8 _ ?_, hrun, hended, _, _, rfl, ?_, ⟨_, rfl⟩, hW, hsame.mono (by decide) (by decide)⟩
      · show Steps p.tables e below (T5.setTop (mkF m 26 #[.val (.ref a)] [(.int (1 : Int32))])) _
        exact retN X5 hx (t := .boolean) Bd.returns (by simp) (hb hby d1_26) hr
      · show Q_1 Z a w_SINGLE_TASK w_SINGLE_INSTANCE w_SINGLE_INSTANCE_PER_TASK h0 n0 _ T5.heap _
        rw [e5]
        exact ⟨by rw [if_neg hc4_3, if_pos hc11_7], N0, rfl⟩
    · obtain ⟨T9, X9, e9, st9⟩ := getS2 X5 hx hZ hown (host := "") (Or.inl (hw _ (List.mem_of_getElem? (i := 13) rfl))) Via.refl e5 S_SINGLE_INSTANCE_PER_TASK (g := (mkF m 15 #[.val (.ref a)] [(.ref a)])) rfl (hb hby d1_15)
      have pre10 : ∀ t_, Steps p.tables e below (T9.setTop (mkF m 18 #[.val (.ref a)] [(.ref w_SINGLE_INSTANCE_PER_TASK), (.ref a)])) t_ → Steps p.tables e below (s₁.setTop (entryFrame m #[(.ref a)] 1)) t_ := fun t_ k_ => pre6 t_ (by
        show Steps p.tables e below (T5.setTop (mkF m 11 #[.val (.ref a)] [(.ref w_SINGLE_INSTANCE), (.ref a)])) _
        refine Jvm.RoadKit.acmp (g := (mkF m 11 #[.val (.ref a)] [(.ref w_SINGLE_INSTANCE), (.ref a)])) X5 hx rfl rfl rfl (pc0 := 11) (pc' := 14) (same := false) rfl (hb hby d1_11) rfl (decide_eq_false fun q_ => hc11_7 (Value.ref.inj q_)) (by decide) (by decide) ?_
        show Steps p.tables e below (T5.setTop (mkF m 14 #[.val (.ref a)] [])) _
        refine XS.aloadN X5.here hx rfl (hb hby d1_14) rfl rfl ?_
        show Steps p.tables e below (T5.setTop (mkF m 15 #[.val (.ref a)] [(.ref a)])) _
        refine st9 _ ?_
        show Steps p.tables e below (T9.setTop (mkF m 18 #[.val (.ref a)] [(.ref w_SINGLE_INSTANCE_PER_TASK), (.ref a)])) _
        exact k_)
      by_cases hc18_11 : a = w_SINGLE_INSTANCE_PER_TASK
      · have pre12 : ∀ t_, Steps p.tables e below (T9.setTop (mkF m 26 #[.val (.ref a)] [(.int (1 : Int32))])) t_ → Steps p.tables e below (s₁.setTop (entryFrame m #[(.ref a)] 1)) t_ := fun t_ k_ => pre10 t_ (by
          show Steps p.tables e below (T9.setTop (mkF m 18 #[.val (.ref a)] [(.ref w_SINGLE_INSTANCE_PER_TASK), (.ref a)])) _
          refine Jvm.RoadKit.acmp (g := (mkF m 18 #[.val (.ref a)] [(.ref w_SINGLE_INSTANCE_PER_TASK), (.ref a)])) X9 hx rfl rfl rfl (pc0 := 18) (pc' := 21) (same := true) rfl (hb hby d1_18) rfl (decide_eq_true (congrArg Value.ref hc18_11)) (by decide) (by decide) ?_
          show Steps p.tables e below (T9.setTop (mkF m 21 #[.val (.ref a)] [])) _
          refine XS.iconst X9.here hx rfl (hb hby d1_21) ?_
          show Steps p.tables e below (T9.setTop (mkF m 22 #[.val (.ref a)] [(.int (1 : Int32))])) _
          refine XS.goto X9.here hx rfl (pc0 := 22) (pc' := 26) rfl (hb hby d1_22) (by decide) (by decide) ?_
          show Steps p.tables e below (T9.setTop (mkF m 26 #[.val (.ref a)] [(.int (1 : Int32))])) _
          exact k_)
        obtain ⟨fs, hr, hrun, hended, hW, hsame⟩ := X9.leave (v := some (.int (1 : Int32))) (fun h => by rw [Bd.returns] at h; cases h)
        refine ⟨_, _, pre12 _ ?_, hrun, hended, _, _, rfl, ?_, ⟨_, rfl⟩, hW, hsame.mono (by decide) (by decide)⟩
        · show Steps p.tables e below (T9.setTop (mkF m 26 #[.val (.ref a)] [(.int (1 : Int32))])) _
          exact retN X9 hx (t := .boolean) Bd.returns (by simp) (hb hby d1_26) hr
        · show Q_1 Z a w_SINGLE_TASK w_SINGLE_INSTANCE w_SINGLE_INSTANCE_PER_TASK h0 n0 _ T9.heap _
          rw [e9]
          exact ⟨by rw [if_neg hc4_3, if_neg hc11_7, if_pos hc18_11], N0, rfl⟩
      · have pre13 : ∀ t_, Steps p.tables e below (T9.setTop (mkF m 26 #[.val (.ref a)] [(.int (0 : Int32))])) t_ → Steps p.tables e below (s₁.setTop (entryFrame m #[(.ref a)] 1)) t_ := fun t_ k_ => pre10 t_ (by
          show Steps p.tables e below (T9.setTop (mkF m 18 #[.val (.ref a)] [(.ref w_SINGLE_INSTANCE_PER_TASK), (.ref a)])) _
          refine Jvm.RoadKit.acmp (g := (mkF m 18 #[.val (.ref a)] [(.ref w_SINGLE_INSTANCE_PER_TASK), (.ref a)])) X9 hx rfl rfl rfl (pc0 := 18) (pc' := 25) (same := false) rfl (hb hby d1_18) rfl (decide_eq_false fun q_ => hc18_11 (Value.ref.inj q_)) (by decide) (by decide) ?_
          show Steps p.tables e below (T9.setTop (mkF m 25 #[.val (.ref a)] [])) _
          refine XS.iconst X9.here hx rfl (hb hby d1_25) ?_
          show Steps p.tables e below (T9.setTop (mkF m 26 #[.val (.ref a)] [(.int (0 : Int32))])) _
          exact k_)
        obtain ⟨fs, hr, hrun, hended, hW, hsame⟩ := X9.leave (v := some (.int (0 : Int32))) (fun h => by rw [Bd.returns] at h; cases h)
        refine ⟨_, _, pre13 _ ?_, hrun, hended, _, _, rfl, ?_, ⟨_, rfl⟩, hW, hsame.mono (by decide) (by decide)⟩
        · show Steps p.tables e below (T9.setTop (mkF m 26 #[.val (.ref a)] [(.int (0 : Int32))])) _
          exact retN X9 hx (t := .boolean) Bd.returns (by simp) (hb hby d1_26) hr
        · show Q_1 Z a w_SINGLE_TASK w_SINGLE_INSTANCE w_SINGLE_INSTANCE_PER_TASK h0 n0 _ T9.heap _
          rw [e9]
          exact ⟨by rw [if_neg hc4_3, if_neg hc11_7, if_neg hc18_11], N0, rfl⟩
theorem ef_2 (m : MethodId) (a : Addr) : entryFrame m #[(.ref a)] 1 = mkF m 0 #[.val (.ref a)] [] := by first | (simp [entryFrame, mkF, argsToLocals, Value.category]; done) | rfl
def Q_2 (Z : State) (a : Addr) (w_SINGLE_TASK : Addr) (w_SINGLE_INSTANCE : Addr) (h0 : Heap) (n0 : Nat) (v : Option Value) (h : Heap) (L : List Loc) : Prop := v = some (.int (if a = w_SINGLE_TASK then (1 : Int32) else (if a = w_SINGLE_INSTANCE then (1 : Int32) else (0 : Int32)))) ∧ Fr n0 L ∧ h = h0
theorem d2_0 : decode prog_96_method_4_code 0 = .ok (.aload_n 0, 1) := by decide +kernel
theorem d2_1 : decode prog_96_method_4_code 1 = .ok (.getstatic 10, 3) := by decide +kernel
theorem d2_4 : decode prog_96_method_4_code 4 = .ok (.if_acmp .eq 10, 3) := by decide +kernel
theorem d2_14 : decode prog_96_method_4_code 14 = .ok (.iconst 1, 1) := by decide +kernel
theorem d2_15 : decode prog_96_method_4_code 15 = .ok (.goto 4, 3) := by decide +kernel
theorem d2_19 : decode prog_96_method_4_code 19 = .ok (.ireturn, 1) := by decide +kernel
theorem d2_7 : decode prog_96_method_4_code 7 = .ok (.aload_n 0, 1) := by decide +kernel
theorem d2_8 : decode prog_96_method_4_code 8 = .ok (.getstatic 13, 3) := by decide +kernel
theorem d2_11 : decode prog_96_method_4_code 11 = .ok (.if_acmp .ne 7, 3) := by decide +kernel
theorem d2_18 : decode prog_96_method_4_code 18 = .ok (.iconst 0, 1) := by decide +kernel
set_option maxRecDepth 65536 in
set_option maxHeartbeats 40000000 in
theorem rm_2 (l : Launch) (Z : State) (a0 : Array Value) (hw : ∀ d ∈ tables_1, d.before a0 Z = true) (ws : List Jvm.Cond) (a : Addr) (w_SINGLE_TASK : Addr) (w_SINGLE_INSTANCE : Addr) (h0 : Heap) (n0 : Nat) (Z0 : n0 ≤ h0.size) (S_SINGLE_TASK : Sta Z h0 "com/example/screen_stack_runtime/screenstackruntime/model/LaunchMode" "SINGLE_TASK" "Lcom/example/screen_stack_runtime/screenstackruntime/model/LaunchMode;" (.ref w_SINGLE_TASK)) (S_SINGLE_INSTANCE : Sta Z h0 "com/example/screen_stack_runtime/screenstackruntime/model/LaunchMode" "SINGLE_INSTANCE" "Lcom/example/screen_stack_runtime/screenstackruntime/model/LaunchMode;" (.ref w_SINGLE_INSTANCE)) :
    MetFree l (⟨"com/example/screen_stack_runtime/screenstackruntime/model/LaunchMode", "keepsOneInstance", "()Z"⟩ : MethodName) (head1 (Jvm.Cond.code (⟨"com/example/screen_stack_runtime/screenstackruntime/model/LaunchMode", "keepsOneInstance", "()Z"⟩ : MethodName) prog_96_method_4_code 1 (some .boolean) :: ws) ({ frames := 0, cells := 0, slots := 0, locals := 0 } : Room)) (fun a_ U_ => a_ = #[(.ref a)] ∧ Z.Warmed39 U_.vm ∧ U_.heap = h0) (fun _ _ _ _ _ => True) (fun _ U_ o_ V_ => ∃ v_ L_, o_ = .returned v_ ∧ Q_2 Z a w_SINGLE_TASK w_SINGLE_INSTANCE h0 n0 v_ V_.heap L_ ∧ FrameEnd U_ o_ V_ L_ ({ frames := 0, cells := 0, slots := 0, locals := 0 } : Room).cells ({ frames := 0, cells := 0, slots := 0, locals := 0 } : Room).slots) := by
  refine MetFree.of_bodySF (plainFor_of_name pn_0) hisR ?_
  intro p e s m args below meth c s₁ Bd hml0 hP hK
  obtain ⟨rfl, hZ, hh⟩ := hP
  have hx := Bd.exec
  have hby := Bd.bytes
  have hml : c.maxLocals = 1 := hml0
  have hown : s.vm.findClass "com/example/screen_stack_runtime/screenstackruntime/model/LaunchMode" = some m.cls := findClass_of_methodNamed Bd.named
  have hnm := (name_of_methodNamed Bd.named Bd.method).1
  have X0 : Stand p l e ({ frames := 0, cells := 0, slots := 0, locals := 0 } : Room) s m #[(.ref a)] below meth c s₁ [] 0 0 := Stand.of_body Bd
  have e0 : s₁.heap = h0 := by rw [← hh, Bd.state]; rfl
  have N0 := Fr.nil n0
  have pre0 : ∀ t_, Steps p.tables e below (s₁.setTop (mkF m 0 #[.val (.ref a)] [])) t_ → Steps p.tables e below (s₁.setTop (entryFrame m #[(.ref a)] 1)) t_ := fun t_ k_ => castTop (ef_2 m a) k_
  obtain ⟨T14, X14, e14, st14⟩ := getS2 X0 hx hZ hown (host := "") (Or.inl (hw _ (List.mem_of_getElem? (i := 9) rfl))) Via.refl e0 S_SINGLE_TASK (g := (mkF m 1 #[.val (.ref a)] [(.ref a)])) rfl (hb hby d2_1)
  have pre15 : ∀ t_, Steps p.tables e below (T14.setTop (mkF m 4 #[.val (.ref a)] [(.ref w_SINGLE_TASK), (.ref a)])) t_ → Steps p.tables e below (s₁.setTop (entryFrame m #[(.ref a)] 1)) t_ := fun t_ k_ => pre0 t_ (by
    show Steps p.tables e below (s₁.setTop (mkF m 0 #[.val (.ref a)] [])) _
    refine XS.aloadN X0.here hx rfl (hb hby d2_0) rfl rfl ?_
    show Steps p.tables e below (s₁.setTop (mkF m 1 #[.val (.ref a)] [(.ref a)])) _
    refine st14 _ ?_
    show Steps p.tables e below (T14.setTop (mkF m 4 #[.val (.ref a)] [(.ref w_SINGLE_TASK), (.ref a)])) _
    exact k_)
  by_cases hc4_16 : a = w_SINGLE_TASK
  · have pre17 : ∀ t_, Steps p.tables e below (T14.setTop (mkF m 19 #[.val (.ref a)] [(.int (1 : Int32))])) t_ → Steps p.tables e below (s₁.setTop (entryFrame m #[(.ref a)] 1)) t_ := fun t_ k_ => pre15 t_ (by
      show Steps p.tables e below (T14.setTop (mkF m 4 #[.val (.ref a)] [(.ref w_SINGLE_TASK), (.ref a)])) _
      refine Jvm.RoadKit.acmp (g := (mkF m 4 #[.val (.ref a)] [(.ref w_SINGLE_TASK), (.ref a)])) X14 hx rfl rfl rfl (pc0 := 4) (pc' := 14) (same := true) rfl (hb hby d2_4) rfl (decide_eq_true (congrArg Value.ref hc4_16)) (by decide) (by decide) ?_
      show Steps p.tables e below (T14.setTop (mkF m 14 #[.val (.ref a)] [])) _
      refine XS.iconst X14.here hx rfl (hb hby d2_14) ?_
      show Steps p.tables e below (T14.setTop (mkF m 15 #[.val (.ref a)] [(.int (1 : Int32))])) _
      refine XS.goto X14.here hx rfl (pc0 := 15) (pc' := 19) rfl (hb hby d2_15) (by decide) (by decide) ?_
      show Steps p.tables e below (T14.setTop (mkF m 19 #[.val (.ref a)] [(.int (1 : Int32))])) _
      exact k_)
    obtain ⟨fs, hr, hrun, hended, hW, hsame⟩ := X14.leave (v := some (.int (1 : Int32))) (fun h => by rw [Bd.returns] at h; cases h)
    refine ⟨_, _, pre17 _ ?_, hrun, hended, _, _, rfl, ?_, ⟨_, rfl⟩, hW, hsame.mono (by decide) (by decide)⟩
    · show Steps p.tables e below (T14.setTop (mkF m 19 #[.val (.ref a)] [(.int (1 : Int32))])) _
      exact retN X14 hx (t := .boolean) Bd.returns (by simp) (hb hby d2_19) hr
    · show Q_2 Z a w_SINGLE_TASK w_SINGLE_INSTANCE h0 n0 _ T14.heap _
      rw [e14]
      exact ⟨by rw [if_pos hc4_16], N0, rfl⟩
  · obtain ⟨T18, X18, e18, st18⟩ := getS2 X14 hx hZ hown (host := "") (Or.inl (hw _ (List.mem_of_getElem? (i := 11) rfl))) Via.refl e14 S_SINGLE_INSTANCE (g := (mkF m 8 #[.val (.ref a)] [(.ref a)])) rfl (hb hby d2_8)
    have pre19 : ∀ t_, Steps p.tables e below (T18.setTop (mkF m 11 #[.val (.ref a)] [(.ref w_SINGLE_INSTANCE), (.ref a)])) t_ → Steps p.tables e below (s₁.setTop (entryFrame m #[(.ref a)] 1)) t_ := fun t_ k_ => pre15 t_ (by
      show Steps p.tables e below (T14.setTop (mkF m 4 #[.val (.ref a)] [(.ref w_SINGLE_TASK), (.ref a)])) _
      refine Jvm.RoadKit.acmp (g := (mkF m 4 #[.val (.ref a)] [(.ref w_SINGLE_TASK), (.ref a)])) X14 hx rfl rfl rfl (pc0 := 4) (pc' := 7) (same := false) rfl (hb hby d2_4) rfl (decide_eq_false fun q_ => hc4_16 (Value.ref.inj q_)) (by decide) (by decide) ?_
      show Steps p.tables e below (T14.setTop (mkF m 7 #[.val (.ref a)] [])) _
      refine XS.aloadN X14.here hx rfl (hb hby d2_7) rfl rfl ?_
      show Steps p.tables e below (T14.setTop (mkF m 8 #[.val (.ref a)] [(.ref a)])) _
      refine st18 _ ?_
      show Steps p.tables e below (T18.setTop (mkF m 11 #[.val (.ref a)] [(.ref w_SINGLE_INSTANCE), (.ref a)])) _
      exact k_)
    by_cases hc11_20 : a = w_SINGLE_INSTANCE
    · have pre21 : ∀ t_, Steps p.tables e below (T18.setTop (mkF m 19 #[.val (.ref a)] [(.int (1 : Int32))])) t_ → Steps p.tables e below (s₁.setTop (entryFrame m #[(.ref a)] 1)) t_ := fun t_ k_ => pre19 t_ (by
        show Steps p.tables e below (T18.setTop (mkF m 11 #[.val (.ref a)] [(.ref w_SINGLE_INSTANCE), (.ref a)])) _
        refine Jvm.RoadKit.acmp (g := (mkF m 11 #[.val (.ref a)] [(.ref w_SINGLE_INSTANCE), (.ref a)])) X18 hx rfl rfl rfl (pc0 := 11) (pc' := 14) (same := true) rfl (hb hby d2_11) rfl (decide_eq_true (congrArg Value.ref hc11_20)) (by decide) (by decide) ?_
        show Steps p.tables e below (T18.setTop (mkF m 14 #[.val (.ref a)] [])) _
        refine XS.iconst X18.here hx rfl (hb hby d2_14) ?_
        show Steps p.tables e below (T18.setTop (mkF m 15 #[.val (.ref a)] [(.int (1 : Int32))])) _
        refine XS.goto X18.here hx rfl (pc0 := 15) (pc' := 19) rfl (hb hby d2_15) (by decide) (by decide) ?_
        show Steps p.tables e below (T18.setTop (mkF m 19 #[.val (.ref a)] [(.int (1 : Int32))])) _
        exact k_)
      obtain ⟨fs, hr, hrun, hended, hW, hsame⟩ := X18.leave (v := some (.int (1 : Int32))) (fun h => by rw [Bd.returns] at h; cases h)
      refine ⟨_, _, pre21 _ ?_, hrun, hended, _, _, rfl, ?_, ⟨_, rfl⟩, hW, hsame.mono (by decide) (by decide)⟩
      · show Steps p.tables e below (T18.setTop (mkF m 19 #[.val (.ref a)] [(.int (1 : Int32))])) _
        exact retN X18 hx (t := .boolean) Bd.returns (by simp) (hb hby d2_19) hr
      · show Q_2 Z a w_SINGLE_TASK w_SINGLE_INSTANCE h0 n0 _ T18.heap _
        rw [e18]
        exact ⟨by rw [if_neg hc4_16, if_pos hc11_20], N0, rfl⟩
    · have pre22 : ∀ t_, Steps p.tables e below (T18.setTop (mkF m 19 #[.val (.ref a)] [(.int (0 : Int32))])) t_ → Steps p.tables e below (s₁.setTop (entryFrame m #[(.ref a)] 1)) t_ := fun t_ k_ => pre19 t_ (by
        show Steps p.tables e below (T18.setTop (mkF m 11 #[.val (.ref a)] [(.ref w_SINGLE_INSTANCE), (.ref a)])) _
        refine Jvm.RoadKit.acmp (g := (mkF m 11 #[.val (.ref a)] [(.ref w_SINGLE_INSTANCE), (.ref a)])) X18 hx rfl rfl rfl (pc0 := 11) (pc' := 18) (same := false) rfl (hb hby d2_11) rfl (decide_eq_false fun q_ => hc11_20 (Value.ref.inj q_)) (by decide) (by decide) ?_
        show Steps p.tables e below (T18.setTop (mkF m 18 #[.val (.ref a)] [])) _
        refine XS.iconst X18.here hx rfl (hb hby d2_18) ?_
        show Steps p.tables e below (T18.setTop (mkF m 19 #[.val (.ref a)] [(.int (0 : Int32))])) _
        exact k_)
      obtain ⟨fs, hr, hrun, hended, hW, hsame⟩ := X18.leave (v := some (.int (0 : Int32))) (fun h => by rw [Bd.returns] at h; cases h)
      refine ⟨_, _, pre22 _ ?_, hrun, hended, _, _, rfl, ?_, ⟨_, rfl⟩, hW, hsame.mono (by decide) (by decide)⟩
      · show Steps p.tables e below (T18.setTop (mkF m 19 #[.val (.ref a)] [(.int (0 : Int32))])) _
        exact retN X18 hx (t := .boolean) Bd.returns (by simp) (hb hby d2_19) hr
      · show Q_2 Z a w_SINGLE_TASK w_SINGLE_INSTANCE h0 n0 _ T18.heap _
        rw [e18]
        exact ⟨by rw [if_neg hc4_16, if_neg hc11_20], N0, rfl⟩
theorem ef_3 (m : MethodId) (a : Addr) : entryFrame m #[(.ref a)] 1 = mkF m 0 #[.val (.ref a)] [] := by first | (simp [entryFrame, mkF, argsToLocals, Value.category]; done) | rfl
def Q_3 (Z : State) (a : Addr) (w_SINGLE_INSTANCE : Addr) (w_SINGLE_INSTANCE_PER_TASK : Addr) (h0 : Heap) (n0 : Nat) (v : Option Value) (h : Heap) (L : List Loc) : Prop := v = some (.int (if a = w_SINGLE_INSTANCE then (1 : Int32) else (if a = w_SINGLE_INSTANCE_PER_TASK then (1 : Int32) else (0 : Int32)))) ∧ Fr n0 L ∧ h = h0
theorem d3_0 : decode prog_96_method_6_code 0 = .ok (.aload_n 0, 1) := by decide +kernel
theorem d3_1 : decode prog_96_method_6_code 1 = .ok (.getstatic 13, 3) := by decide +kernel
theorem d3_4 : decode prog_96_method_6_code 4 = .ok (.if_acmp .eq 10, 3) := by decide +kernel
theorem d3_14 : decode prog_96_method_6_code 14 = .ok (.iconst 1, 1) := by decide +kernel
theorem d3_15 : decode prog_96_method_6_code 15 = .ok (.goto 4, 3) := by decide +kernel
theorem d3_19 : decode prog_96_method_6_code 19 = .ok (.ireturn, 1) := by decide +kernel
theorem d3_7 : decode prog_96_method_6_code 7 = .ok (.aload_n 0, 1) := by decide +kernel
theorem d3_8 : decode prog_96_method_6_code 8 = .ok (.getstatic 16, 3) := by decide +kernel
theorem d3_11 : decode prog_96_method_6_code 11 = .ok (.if_acmp .ne 7, 3) := by decide +kernel
theorem d3_18 : decode prog_96_method_6_code 18 = .ok (.iconst 0, 1) := by decide +kernel
set_option maxRecDepth 65536 in
set_option maxHeartbeats 40000000 in
theorem rm_3 (l : Launch) (Z : State) (a0 : Array Value) (hw : ∀ d ∈ tables_1, d.before a0 Z = true) (ws : List Jvm.Cond) (a : Addr) (w_SINGLE_INSTANCE : Addr) (w_SINGLE_INSTANCE_PER_TASK : Addr) (h0 : Heap) (n0 : Nat) (Z0 : n0 ≤ h0.size) (S_SINGLE_INSTANCE : Sta Z h0 "com/example/screen_stack_runtime/screenstackruntime/model/LaunchMode" "SINGLE_INSTANCE" "Lcom/example/screen_stack_runtime/screenstackruntime/model/LaunchMode;" (.ref w_SINGLE_INSTANCE)) (S_SINGLE_INSTANCE_PER_TASK : Sta Z h0 "com/example/screen_stack_runtime/screenstackruntime/model/LaunchMode" "SINGLE_INSTANCE_PER_TASK" "Lcom/example/screen_stack_runtime/screenstackruntime/model/LaunchMode;" (.ref w_SINGLE_INSTANCE_PER_TASK)) :
    MetFree l (⟨"com/example/screen_stack_runtime/screenstackruntime/model/LaunchMode", "startsAsRoot", "()Z"⟩ : MethodName) (head1 (Jvm.Cond.code (⟨"com/example/screen_stack_runtime/screenstackruntime/model/LaunchMode", "startsAsRoot", "()Z"⟩ : MethodName) prog_96_method_6_code 1 (some .boolean) :: ws) ({ frames := 0, cells := 0, slots := 0, locals := 0 } : Room)) (fun a_ U_ => a_ = #[(.ref a)] ∧ Z.Warmed39 U_.vm ∧ U_.heap = h0) (fun _ _ _ _ _ => True) (fun _ U_ o_ V_ => ∃ v_ L_, o_ = .returned v_ ∧ Q_3 Z a w_SINGLE_INSTANCE w_SINGLE_INSTANCE_PER_TASK h0 n0 v_ V_.heap L_ ∧ FrameEnd U_ o_ V_ L_ ({ frames := 0, cells := 0, slots := 0, locals := 0 } : Room).cells ({ frames := 0, cells := 0, slots := 0, locals := 0 } : Room).slots) := by
  refine MetFree.of_bodySF (plainFor_of_name pn_0) hisR ?_
  intro p e s m args below meth c s₁ Bd hml0 hP hK
  obtain ⟨rfl, hZ, hh⟩ := hP
  have hx := Bd.exec
  have hby := Bd.bytes
  have hml : c.maxLocals = 1 := hml0
  have hown : s.vm.findClass "com/example/screen_stack_runtime/screenstackruntime/model/LaunchMode" = some m.cls := findClass_of_methodNamed Bd.named
  have hnm := (name_of_methodNamed Bd.named Bd.method).1
  have X0 : Stand p l e ({ frames := 0, cells := 0, slots := 0, locals := 0 } : Room) s m #[(.ref a)] below meth c s₁ [] 0 0 := Stand.of_body Bd
  have e0 : s₁.heap = h0 := by rw [← hh, Bd.state]; rfl
  have N0 := Fr.nil n0
  have pre0 : ∀ t_, Steps p.tables e below (s₁.setTop (mkF m 0 #[.val (.ref a)] [])) t_ → Steps p.tables e below (s₁.setTop (entryFrame m #[(.ref a)] 1)) t_ := fun t_ k_ => castTop (ef_3 m a) k_
  obtain ⟨T23, X23, e23, st23⟩ := getS2 X0 hx hZ hown (host := "") (Or.inl (hw _ (List.mem_of_getElem? (i := 11) rfl))) Via.refl e0 S_SINGLE_INSTANCE (g := (mkF m 1 #[.val (.ref a)] [(.ref a)])) rfl (hb hby d3_1)
  have pre24 : ∀ t_, Steps p.tables e below (T23.setTop (mkF m 4 #[.val (.ref a)] [(.ref w_SINGLE_INSTANCE), (.ref a)])) t_ → Steps p.tables e below (s₁.setTop (entryFrame m #[(.ref a)] 1)) t_ := fun t_ k_ => pre0 t_ (by
    show Steps p.tables e below (s₁.setTop (mkF m 0 #[.val (.ref a)] [])) _
    refine XS.aloadN X0.here hx rfl (hb hby d3_0) rfl rfl ?_
    show Steps p.tables e below (s₁.setTop (mkF m 1 #[.val (.ref a)] [(.ref a)])) _
    refine st23 _ ?_
    show Steps p.tables e below (T23.setTop (mkF m 4 #[.val (.ref a)] [(.ref w_SINGLE_INSTANCE), (.ref a)])) _
    exact k_)
  by_cases hc4_25 : a = w_SINGLE_INSTANCE
  · have pre26 : ∀ t_, Steps p.tables e below (T23.setTop (mkF m 19 #[.val (.ref a)] [(.int (1 : Int32))])) t_ → Steps p.tables e below (s₁.setTop (entryFrame m #[(.ref a)] 1)) t_ := fun t_ k_ => pre24 t_ (by
      show Steps p.tables e below (T23.setTop (mkF m 4 #[.val (.ref a)] [(.ref w_SINGLE_INSTANCE), (.ref a)])) _
      refine Jvm.RoadKit.acmp (g := (mkF m 4 #[.val (.ref a)] [(.ref w_SINGLE_INSTANCE), (.ref a)])) X23 hx rfl rfl rfl (pc0 := 4) (pc' := 14) (same := true) rfl (hb hby d3_4) rfl (decide_eq_true (congrArg Value.ref hc4_25)) (by decide) (by decide) ?_
      show Steps p.tables e below (T23.setTop (mkF m 14 #[.val (.ref a)] [])) _
      refine XS.iconst X23.here hx rfl (hb hby d3_14) ?_
      show Steps p.tables e below (T23.setTop (mkF m 15 #[.val (.ref a)] [(.int (1 : Int32))])) _
      refine XS.goto X23.here hx rfl (pc0 := 15) (pc' := 19) rfl (hb hby d3_15) (by decide) (by decide) ?_
      show Steps p.tables e below (T23.setTop (mkF m 19 #[.val (.ref a)] [(.int (1 : Int32))])) _
      exact k_)
    obtain ⟨fs, hr, hrun, hended, hW, hsame⟩ := X23.leave (v := some (.int (1 : Int32))) (fun h => by rw [Bd.returns] at h; cases h)
    refine ⟨_, _, pre26 _ ?_, hrun, hended, _, _, rfl, ?_, ⟨_, rfl⟩, hW, hsame.mono (by decide) (by decide)⟩
    · show Steps p.tables e below (T23.setTop (mkF m 19 #[.val (.ref a)] [(.int (1 : Int32))])) _
      exact retN X23 hx (t := .boolean) Bd.returns (by simp) (hb hby d3_19) hr
    · show Q_3 Z a w_SINGLE_INSTANCE w_SINGLE_INSTANCE_PER_TASK h0 n0 _ T23.heap _
      rw [e23]
      exact ⟨by rw [if_pos hc4_25], N0, rfl⟩
  · obtain ⟨T27, X27, e27, st27⟩ := getS2 X23 hx hZ hown (host := "") (Or.inl (hw _ (List.mem_of_getElem? (i := 13) rfl))) Via.refl e23 S_SINGLE_INSTANCE_PER_TASK (g := (mkF m 8 #[.val (.ref a)] [(.ref a)])) rfl (hb hby d3_8)
    have pre28 : ∀ t_, Steps p.tables e below (T27.setTop (mkF m 11 #[.val (.ref a)] [(.ref w_SINGLE_INSTANCE_PER_TASK), (.ref a)])) t_ → Steps p.tables e below (s₁.setTop (entryFrame m #[(.ref a)] 1)) t_ := fun t_ k_ => pre24 t_ (by
      show Steps p.tables e below (T23.setTop (mkF m 4 #[.val (.ref a)] [(.ref w_SINGLE_INSTANCE), (.ref a)])) _
      refine Jvm.RoadKit.acmp (g := (mkF m 4 #[.val (.ref a)] [(.ref w_SINGLE_INSTANCE), (.ref a)])) X23 hx rfl rfl rfl (pc0 := 4) (pc' := 7) (same := false) rfl (hb hby d3_4) rfl (decide_eq_false fun q_ => hc4_25 (Value.ref.inj q_)) (by decide) (by decide) ?_
      show Steps p.tables e below (T23.setTop (mkF m 7 #[.val (.ref a)] [])) _
      refine XS.aloadN X23.here hx rfl (hb hby d3_7) rfl rfl ?_
      show Steps p.tables e below (T23.setTop (mkF m 8 #[.val (.ref a)] [(.ref a)])) _
      refine st27 _ ?_
      show Steps p.tables e below (T27.setTop (mkF m 11 #[.val (.ref a)] [(.ref w_SINGLE_INSTANCE_PER_TASK), (.ref a)])) _
      exact k_)
    by_cases hc11_29 : a = w_SINGLE_INSTANCE_PER_TASK
    · have pre30 : ∀ t_, Steps p.tables e below (T27.setTop (mkF m 19 #[.val (.ref a)] [(.int (1 : Int32))])) t_ → Steps p.tables e below (s₁.setTop (entryFrame m #[(.ref a)] 1)) t_ := fun t_ k_ => pre28 t_ (by
        show Steps p.tables e below (T27.setTop (mkF m 11 #[.val (.ref a)] [(.ref w_SINGLE_INSTANCE_PER_TASK), (.ref a)])) _
        refine Jvm.RoadKit.acmp (g := (mkF m 11 #[.val (.ref a)] [(.ref w_SINGLE_INSTANCE_PER_TASK), (.ref a)])) X27 hx rfl rfl rfl (pc0 := 11) (pc' := 14) (same := true) rfl (hb hby d3_11) rfl (decide_eq_true (congrArg Value.ref hc11_29)) (by decide) (by decide) ?_
        show Steps p.tables e below (T27.setTop (mkF m 14 #[.val (.ref a)] [])) _
        refine XS.iconst X27.here hx rfl (hb hby d3_14) ?_
        show Steps p.tables e below (T27.setTop (mkF m 15 #[.val (.ref a)] [(.int (1 : Int32))])) _
        refine XS.goto X27.here hx rfl (pc0 := 15) (pc' := 19) rfl (hb hby d3_15) (by decide) (by decide) ?_
        show Steps p.tables e below (T27.setTop (mkF m 19 #[.val (.ref a)] [(.int (1 : Int32))])) _
        exact k_)
      obtain ⟨fs, hr, hrun, hended, hW, hsame⟩ := X27.leave (v := some (.int (1 : Int32))) (fun h => by rw [Bd.returns] at h; cases h)
      refine ⟨_, _, pre30 _ ?_, hrun, hended, _, _, rfl, ?_, ⟨_, rfl⟩, hW, hsame.mono (by decide) (by decide)⟩
      · show Steps p.tables e below (T27.setTop (mkF m 19 #[.val (.ref a)] [(.int (1 : Int32))])) _
        exact retN X27 hx (t := .boolean) Bd.returns (by simp) (hb hby d3_19) hr
      · show Q_3 Z a w_SINGLE_INSTANCE w_SINGLE_INSTANCE_PER_TASK h0 n0 _ T27.heap _
        rw [e27]
        exact ⟨by rw [if_neg hc4_25, if_pos hc11_29], N0, rfl⟩
    · have pre31 : ∀ t_, Steps p.tables e below (T27.setTop (mkF m 19 #[.val (.ref a)] [(.int (0 : Int32))])) t_ → Steps p.tables e below (s₁.setTop (entryFrame m #[(.ref a)] 1)) t_ := fun t_ k_ => pre28 t_ (by
        show Steps p.tables e below (T27.setTop (mkF m 11 #[.val (.ref a)] [(.ref w_SINGLE_INSTANCE_PER_TASK), (.ref a)])) _
        refine Jvm.RoadKit.acmp (g := (mkF m 11 #[.val (.ref a)] [(.ref w_SINGLE_INSTANCE_PER_TASK), (.ref a)])) X27 hx rfl rfl rfl (pc0 := 11) (pc' := 18) (same := false) rfl (hb hby d3_11) rfl (decide_eq_false fun q_ => hc11_29 (Value.ref.inj q_)) (by decide) (by decide) ?_
        show Steps p.tables e below (T27.setTop (mkF m 18 #[.val (.ref a)] [])) _
        refine XS.iconst X27.here hx rfl (hb hby d3_18) ?_
        show Steps p.tables e below (T27.setTop (mkF m 19 #[.val (.ref a)] [(.int (0 : Int32))])) _
        exact k_)
      obtain ⟨fs, hr, hrun, hended, hW, hsame⟩ := X27.leave (v := some (.int (0 : Int32))) (fun h => by rw [Bd.returns] at h; cases h)
      refine ⟨_, _, pre31 _ ?_, hrun, hended, _, _, rfl, ?_, ⟨_, rfl⟩, hW, hsame.mono (by decide) (by decide)⟩
      · show Steps p.tables e below (T27.setTop (mkF m 19 #[.val (.ref a)] [(.int (0 : Int32))])) _
        exact retN X27 hx (t := .boolean) Bd.returns (by simp) (hb hby d3_19) hr
      · show Q_3 Z a w_SINGLE_INSTANCE w_SINGLE_INSTANCE_PER_TASK h0 n0 _ T27.heap _
        rw [e27]
        exact ⟨by rw [if_neg hc4_25, if_neg hc11_29], N0, rfl⟩
theorem ef_0 (m : MethodId) (k0 : Int32) : entryFrame m #[(.int k0)] maxLocals = mkF m 0 #[.val (.int k0), .unset, .unset, .unset, .unset, .unset] [] := by first | (simp [entryFrame, mkF, argsToLocals, Value.category, maxLocals]; done) | rfl
def Q_0 (Z : State) (k0 : Int32) (w_STANDARD : Addr) (w_SINGLE_TASK : Addr) (w_SINGLE_INSTANCE : Addr) (w_SINGLE_INSTANCE_PER_TASK : Addr) (w_SINGLE_TOP : Addr) (h0 : Heap) (n0 : Nat) (v : Option Value) (h : Heap) (L : List Loc) : Prop := v = some (.int (1 : Int32)) ∧ Fr n0 L
theorem pn_1 : plainName "com/example/screen_stack_runtime/screenstackruntime/model/LaunchModeReusesRunningInstancePinLaw" = true := by first | (simp [plainName, overriddenIn]; done) | decide +kernel
theorem pd_0 : parseMethodDescriptor "()Z" = some ⟨[], some .boolean⟩ := by decide +kernel
set_option maxRecDepth 65536 in
set_option maxHeartbeats 40000000 in
theorem rm_0 (l : Launch) (Z : State) (a0 : Array Value) (hw : ∀ d ∈ tables_1, d.before a0 Z = true) (ws : List Jvm.Cond) (k0 : Int32) (w_STANDARD : Addr) (w_SINGLE_TASK : Addr) (w_SINGLE_INSTANCE : Addr) (w_SINGLE_INSTANCE_PER_TASK : Addr) (w_SINGLE_TOP : Addr) (h0 : Heap) (n0 : Nat) (Z0 : n0 ≤ h0.size) (S_STANDARD : Sta Z h0 "com/example/screen_stack_runtime/screenstackruntime/model/LaunchMode" "STANDARD" "Lcom/example/screen_stack_runtime/screenstackruntime/model/LaunchMode;" (.ref w_STANDARD)) (S_SINGLE_TASK : Sta Z h0 "com/example/screen_stack_runtime/screenstackruntime/model/LaunchMode" "SINGLE_TASK" "Lcom/example/screen_stack_runtime/screenstackruntime/model/LaunchMode;" (.ref w_SINGLE_TASK)) (S_SINGLE_INSTANCE : Sta Z h0 "com/example/screen_stack_runtime/screenstackruntime/model/LaunchMode" "SINGLE_INSTANCE" "Lcom/example/screen_stack_runtime/screenstackruntime/model/LaunchMode;" (.ref w_SINGLE_INSTANCE)) (S_SINGLE_INSTANCE_PER_TASK : Sta Z h0 "com/example/screen_stack_runtime/screenstackruntime/model/LaunchMode" "SINGLE_INSTANCE_PER_TASK" "Lcom/example/screen_stack_runtime/screenstackruntime/model/LaunchMode;" (.ref w_SINGLE_INSTANCE_PER_TASK)) (S_SINGLE_TOP : Sta Z h0 "com/example/screen_stack_runtime/screenstackruntime/model/LaunchMode" "SINGLE_TOP" "Lcom/example/screen_stack_runtime/screenstackruntime/model/LaunchMode;" (.ref w_SINGLE_TOP)) (E_STANDARD : Exa Z h0 w_STANDARD "com/example/screen_stack_runtime/screenstackruntime/model/LaunchMode") (E_SINGLE_TASK : Exa Z h0 w_SINGLE_TASK "com/example/screen_stack_runtime/screenstackruntime/model/LaunchMode") (E_SINGLE_INSTANCE : Exa Z h0 w_SINGLE_INSTANCE "com/example/screen_stack_runtime/screenstackruntime/model/LaunchMode") (E_SINGLE_INSTANCE_PER_TASK : Exa Z h0 w_SINGLE_INSTANCE_PER_TASK "com/example/screen_stack_runtime/screenstackruntime/model/LaunchMode") (E_SINGLE_TOP : Exa Z h0 w_SINGLE_TOP "com/example/screen_stack_runtime/screenstackruntime/model/LaunchMode") (n_STANDARD_SINGLE_TASK : w_STANDARD ≠ w_SINGLE_TASK) (n_STANDARD_SINGLE_INSTANCE : w_STANDARD ≠ w_SINGLE_INSTANCE) (n_STANDARD_SINGLE_INSTANCE_PER_TASK : w_STANDARD ≠ w_SINGLE_INSTANCE_PER_TASK) (n_SINGLE_INSTANCE_SINGLE_TASK : w_SINGLE_INSTANCE ≠ w_SINGLE_TASK) (n_SINGLE_INSTANCE_PER_TASK_SINGLE_TASK : w_SINGLE_INSTANCE_PER_TASK ≠ w_SINGLE_TASK) (n_SINGLE_INSTANCE_PER_TASK_SINGLE_INSTANCE : w_SINGLE_INSTANCE_PER_TASK ≠ w_SINGLE_INSTANCE) (n_SINGLE_TOP_SINGLE_TASK : w_SINGLE_TOP ≠ w_SINGLE_TASK) (n_SINGLE_TOP_SINGLE_INSTANCE : w_SINGLE_TOP ≠ w_SINGLE_INSTANCE) (n_SINGLE_TOP_SINGLE_INSTANCE_PER_TASK : w_SINGLE_TOP ≠ w_SINGLE_INSTANCE_PER_TASK) (n_SINGLE_TASK_SINGLE_INSTANCE : w_SINGLE_TASK ≠ w_SINGLE_INSTANCE) (n_SINGLE_TASK_SINGLE_INSTANCE_PER_TASK : w_SINGLE_TASK ≠ w_SINGLE_INSTANCE_PER_TASK) :
    MetFree l x (head1 (Jvm.Cond.code x code maxLocals ret :: ws) room_1) (fun a_ U_ => a_ = #[(.int k0)] ∧ Z.Warmed39 U_.vm ∧ U_.heap = h0) (fun _ _ _ _ _ => True) (fun _ U_ o_ V_ => ∃ v_ L_, o_ = .returned v_ ∧ Q_0 Z k0 w_STANDARD w_SINGLE_TASK w_SINGLE_INSTANCE w_SINGLE_INSTANCE_PER_TASK w_SINGLE_TOP h0 n0 v_ V_.heap L_ ∧ FrameEnd U_ o_ V_ L_ room_1.cells room_1.slots) := by
  refine MetFree.of_bodySF (plainFor_of_name pn_1) hisR ?_
  intro p e s m args below meth c s₁ Bd hml0 hP hK
  obtain ⟨rfl, hZ, hh⟩ := hP
  have hx := Bd.exec
  have hby := Bd.bytes
  have hml : c.maxLocals = 6 := hml0
  have hown : s.vm.findClass "com/example/screen_stack_runtime/screenstackruntime/model/LaunchModeReusesRunningInstancePinLaw" = some m.cls := findClass_of_methodNamed Bd.named
  have hnm := (name_of_methodNamed Bd.named Bd.method).1
  have X0 : Stand p l e room_1 s m #[(.int k0)] below meth c s₁ [] 0 0 := Stand.of_body Bd
  have e0 : s₁.heap = h0 := by rw [← hh, Bd.state]; rfl
  have N0 := Fr.nil n0
  have pre0 : ∀ t_, Steps p.tables e below (s₁.setTop (mkF m 0 #[.val (.int k0), .unset, .unset, .unset, .unset, .unset] [])) t_ → Steps p.tables e below (s₁.setTop (entryFrame m #[(.int k0)] maxLocals)) t_ := fun t_ k_ => castTop (ef_0 m k0) k_
  have pre32 : ∀ t_, Steps p.tables e below (s₁.setTop (mkF m 8 #[.val (.int k0), .val (.int ((k0 &&& (2147483647 : Int32)) % (5 : Int32))), .unset, .unset, .unset, .unset] [(.int ((k0 &&& (2147483647 : Int32)) % (5 : Int32)))])) t_ → Steps p.tables e below (s₁.setTop (entryFrame m #[(.int k0)] maxLocals)) t_ := fun t_ k_ => pre0 t_ (by
    show Steps p.tables e below (s₁.setTop (mkF m 0 #[.val (.int k0), .unset, .unset, .unset, .unset, .unset] [])) _
    refine XS.iloadN X0.here hx rfl (hb hby at_0) rfl ?_
    show Steps p.tables e below (s₁.setTop (mkF m 1 #[.val (.int k0), .unset, .unset, .unset, .unset, .unset] [(.int k0)])) _
    refine X0.ldcInt hx hown (mvT hZ (hw _ (List.mem_of_getElem? (i := 0) rfl))) (g := (mkF m 1 #[.val (.int k0), .unset, .unset, .unset, .unset, .unset] [(.int k0)])) rfl (hb hby at_1) _ ?_
    show Steps p.tables e below (s₁.setTop (mkF m 3 #[.val (.int k0), .unset, .unset, .unset, .unset, .unset] [(.int (2147483647 : Int32)), (.int k0)])) _
    refine XS.iand X0.here hx rfl (hb hby at_3) rfl ?_
    show Steps p.tables e below (s₁.setTop (mkF m 4 #[.val (.int k0), .unset, .unset, .unset, .unset, .unset] [(.int (k0 &&& (2147483647 : Int32)))])) _
    refine XS.iconst X0.here hx rfl (hb hby at_4) ?_
    show Steps p.tables e below (s₁.setTop (mkF m 5 #[.val (.int k0), .unset, .unset, .unset, .unset, .unset] [(.int (5 : Int32)), (.int (k0 &&& (2147483647 : Int32)))])) _
    refine iremM X0 hx rfl (hb hby at_5) rfl (by decide) ?_
    show Steps p.tables e below (s₁.setTop (mkF m 6 #[.val (.int k0), .unset, .unset, .unset, .unset, .unset] [(.int ((k0 &&& (2147483647 : Int32)) % (5 : Int32)))])) _
    refine XS.istoreN X0.here hx rfl (hb hby at_6) rfl (l' := #[.val (.int k0), .val (.int ((k0 &&& (2147483647 : Int32)) % (5 : Int32))), .unset, .unset, .unset, .unset]) rfl ?_
    show Steps p.tables e below (s₁.setTop (mkF m 7 #[.val (.int k0), .val (.int ((k0 &&& (2147483647 : Int32)) % (5 : Int32))), .unset, .unset, .unset, .unset] [])) _
    refine XS.iloadN X0.here hx rfl (hb hby at_7) rfl ?_
    show Steps p.tables e below (s₁.setTop (mkF m 8 #[.val (.int k0), .val (.int ((k0 &&& (2147483647 : Int32)) % (5 : Int32))), .unset, .unset, .unset, .unset] [(.int ((k0 &&& (2147483647 : Int32)) % (5 : Int32)))])) _
    exact k_)
  by_cases hc8_33 : ((k0 &&& (2147483647 : Int32)) % (5 : Int32)) = (0 : Int32)
  · obtain ⟨T34, X34, e34, st34⟩ := getS2 X0 hx hZ hown (host := "") (Or.inl (hw _ (List.mem_of_getElem? (i := 1) rfl))) Via.refl e0 S_STANDARD (g := (mkF m 11 #[.val (.int k0), .val (.int ((k0 &&& (2147483647 : Int32)) % (5 : Int32))), .unset, .unset, .unset, .unset] [])) rfl (hb hby at_11)
    obtain ⟨cq35, kq35, q35a, q35b, q35c⟩ := isOf hZ e34 E_STANDARD
    obtain ⟨v35, _, ⟨T35, L35, k35, n35⟩, -, X35, ⟨Lc35, hQ35, l35, y35, z35⟩, st35⟩ := X34.virtualBack hx (y := (⟨"com/example/screen_stack_runtime/screenstackruntime/model/LaunchMode", "reusesRunningInstance", "()Z"⟩ : MethodName)) (z := (⟨"com/example/screen_stack_runtime/screenstackruntime/model/LaunchMode", "reusesRunningInstance", "()Z"⟩ : MethodName)) hown (mvT hZ (hw _ (List.mem_of_getElem? (i := 4) rfl))) (mvT hZ (hw _ (List.mem_of_getElem? (i := 5) rfl))) (notFace_of_selects (args := #[]) (mvT hZ (hw _ (List.mem_of_getElem? (i := 7) rfl)))) (mvT hZ (hw _ (List.mem_of_getElem? (i := 7) rfl))) (mvT hZ (hw _ (List.mem_of_getElem? (i := 6) rfl))) (by decide) (backOf (W := 0) (rm_1 l Z a0 hw [] w_STANDARD w_SINGLE_TASK w_SINGLE_INSTANCE w_SINGLE_INSTANCE_PER_TASK h0 n0 Z0 S_SINGLE_TASK S_SINGLE_INSTANCE S_SINGLE_INSTANCE_PER_TASK) hZ (hw _ (List.mem_of_getElem? (i := 8) rfl)) (hw _ (List.mem_of_getElem? (i := 2) rfl)) (by decide) (by decide)) q35a q35c (g := (mkF m 69 #[.val (.int k0), .val (.int ((k0 &&& (2147483647 : Int32)) % (5 : Int32))), .val (.ref w_STANDARD), .val (.int (0 : Int32)), .unset, .unset] [(.ref w_STANDARD)])) rfl (by rw [hml]; rfl) (Steps.refl _) (argsL := []) (rest := []) (lenOf pd_0 rfl) rfl (by show 2 * 0 + _ ≤ _; exact Nat.le_of_eq rfl) (hb hby at_69) (fun _ _ => ⟨rfl, e34, (by decide : 0 + 0 ≤ _), (by decide : 0 + 0 ≤ _)⟩)
    dsimp only [Pt.U, Pt.locs, Pt.cells, Pt.slots] at X35 l35 y35 z35 st35 hQ35
    subst l35 y35 z35
    obtain ⟨hv35, N35q, e35⟩ := hQ35
    have N35 := Fr.app N0 N35q
    have hw35 : v35 = some (.int (0 : Int32)) := hv35.trans (by rw [if_neg n_STANDARD_SINGLE_TASK, if_neg n_STANDARD_SINGLE_INSTANCE, if_neg n_STANDARD_SINGLE_INSTANCE_PER_TASK])
    subst hw35
    obtain ⟨cq36, kq36, q36a, q36b, q36c⟩ := isOf hZ e35 E_STANDARD
    obtain ⟨v36, _, ⟨T36, L36, k36, n36⟩, -, X36, ⟨Lc36, hQ36, l36, y36, z36⟩, st36⟩ := X35.virtualBack hx (y := (⟨"com/example/screen_stack_runtime/screenstackruntime/model/LaunchMode", "keepsOneInstance", "()Z"⟩ : MethodName)) (z := (⟨"com/example/screen_stack_runtime/screenstackruntime/model/LaunchMode", "keepsOneInstance", "()Z"⟩ : MethodName)) hown (mvT hZ (hw _ (List.mem_of_getElem? (i := 15) rfl))) (mvT hZ (hw _ (List.mem_of_getElem? (i := 16) rfl))) (notFace_of_selects (args := #[]) (mvT hZ (hw _ (List.mem_of_getElem? (i := 18) rfl)))) (mvT hZ (hw _ (List.mem_of_getElem? (i := 18) rfl))) (mvT hZ (hw _ (List.mem_of_getElem? (i := 17) rfl))) (by decide) (backOf (W := 0) (rm_2 l Z a0 hw [] w_STANDARD w_SINGLE_TASK w_SINGLE_INSTANCE h0 n0 Z0 S_SINGLE_TASK S_SINGLE_INSTANCE) hZ (hw _ (List.mem_of_getElem? (i := 19) rfl)) (hw _ (List.mem_of_getElem? (i := 2) rfl)) (by decide) (by decide)) q36a q36c (g := (mkF m 75 #[.val (.int k0), .val (.int ((k0 &&& (2147483647 : Int32)) % (5 : Int32))), .val (.ref w_STANDARD), .val (.int (0 : Int32)), .val (.int (0 : Int32)), .unset] [(.ref w_STANDARD)])) rfl (by rw [hml]; rfl) (Steps.refl _) (argsL := []) (rest := []) (lenOf pd_0 rfl) rfl (by show 2 * 0 + _ ≤ _; exact Nat.le_of_eq rfl) (hb hby at_75) (fun _ _ => ⟨rfl, e35, (by decide : 0 + 0 ≤ _), (by decide : 0 + 0 ≤ _)⟩)
    dsimp only [Pt.U, Pt.locs, Pt.cells, Pt.slots] at X36 l36 y36 z36 st36 hQ36
    subst l36 y36 z36
    obtain ⟨hv36, N36q, e36⟩ := hQ36
    have N36 := Fr.app N35 N36q
    have hw36 : v36 = some (.int (0 : Int32)) := hv36.trans (by rw [if_neg n_STANDARD_SINGLE_TASK, if_neg n_STANDARD_SINGLE_INSTANCE])
    subst hw36
    obtain ⟨cq37, kq37, q37a, q37b, q37c⟩ := isOf hZ e36 E_STANDARD
    obtain ⟨v37, _, ⟨T37, L37, k37, n37⟩, -, X37, ⟨Lc37, hQ37, l37, y37, z37⟩, st37⟩ := X36.virtualBack hx (y := (⟨"com/example/screen_stack_runtime/screenstackruntime/model/LaunchMode", "startsAsRoot", "()Z"⟩ : MethodName)) (z := (⟨"com/example/screen_stack_runtime/screenstackruntime/model/LaunchMode", "startsAsRoot", "()Z"⟩ : MethodName)) hown (mvT hZ (hw _ (List.mem_of_getElem? (i := 20) rfl))) (mvT hZ (hw _ (List.mem_of_getElem? (i := 21) rfl))) (notFace_of_selects (args := #[]) (mvT hZ (hw _ (List.mem_of_getElem? (i := 23) rfl)))) (mvT hZ (hw _ (List.mem_of_getElem? (i := 23) rfl))) (mvT hZ (hw _ (List.mem_of_getElem? (i := 22) rfl))) (by decide) (backOf (W := 0) (rm_3 l Z a0 hw [] w_STANDARD w_SINGLE_INSTANCE w_SINGLE_INSTANCE_PER_TASK h0 n0 Z0 S_SINGLE_INSTANCE S_SINGLE_INSTANCE_PER_TASK) hZ (hw _ (List.mem_of_getElem? (i := 24) rfl)) (hw _ (List.mem_of_getElem? (i := 2) rfl)) (by decide) (by decide)) q37a q37c (g := (mkF m 82 #[.val (.int k0), .val (.int ((k0 &&& (2147483647 : Int32)) % (5 : Int32))), .val (.ref w_STANDARD), .val (.int (0 : Int32)), .val (.int (0 : Int32)), .unset] [(.ref w_STANDARD)])) rfl (by rw [hml]; rfl) (Steps.refl _) (argsL := []) (rest := []) (lenOf pd_0 rfl) rfl (by show 2 * 0 + _ ≤ _; exact Nat.le_of_eq rfl) (hb hby at_82) (fun _ _ => ⟨rfl, e36, (by decide : 0 + 0 ≤ _), (by decide : 0 + 0 ≤ _)⟩)
    dsimp only [Pt.U, Pt.locs, Pt.cells, Pt.slots] at X37 l37 y37 z37 st37 hQ37
    subst l37 y37 z37
    obtain ⟨hv37, N37q, e37⟩ := hQ37
    have N37 := Fr.app N36 N37q
    have hw37 : v37 = some (.int (0 : Int32)) := hv37.trans (by rw [if_neg n_STANDARD_SINGLE_INSTANCE, if_neg n_STANDARD_SINGLE_INSTANCE_PER_TASK])
    subst hw37
    have pre38 : ∀ t_, Steps p.tables e below (T37.setTop (mkF m 113 #[.val (.int k0), .val (.int ((k0 &&& (2147483647 : Int32)) % (5 : Int32))), .val (.ref w_STANDARD), .val (.int (0 : Int32)), .val (.int (0 : Int32)), .val (.int (0 : Int32))] [(.int (1 : Int32))])) t_ → Steps p.tables e below (s₁.setTop (entryFrame m #[(.int k0)] maxLocals)) t_ := fun t_ k_ => pre32 t_ (by
      show Steps p.tables e below (s₁.setTop (mkF m 8 #[.val (.int k0), .val (.int ((k0 &&& (2147483647 : Int32)) % (5 : Int32))), .unset, .unset, .unset, .unset] [(.int ((k0 &&& (2147483647 : Int32)) % (5 : Int32)))])) _
      refine XS.ifNo X0.here hx rfl (hb hby at_8) rfl ((if0 _ _).trans (teq hc8_33).2) ?_
      show Steps p.tables e below (s₁.setTop (mkF m 11 #[.val (.int k0), .val (.int ((k0 &&& (2147483647 : Int32)) % (5 : Int32))), .unset, .unset, .unset, .unset] [])) _
      refine st34 _ ?_
      show Steps p.tables e below (T34.setTop (mkF m 14 #[.val (.int k0), .val (.int ((k0 &&& (2147483647 : Int32)) % (5 : Int32))), .unset, .unset, .unset, .unset] [(.ref w_STANDARD)])) _
      refine XS.astoreN X34.here hx rfl (hb hby at_14) rfl rfl (l' := #[.val (.int k0), .val (.int ((k0 &&& (2147483647 : Int32)) % (5 : Int32))), .val (.ref w_STANDARD), .unset, .unset, .unset]) rfl ?_
      show Steps p.tables e below (T34.setTop (mkF m 15 #[.val (.int k0), .val (.int ((k0 &&& (2147483647 : Int32)) % (5 : Int32))), .val (.ref w_STANDARD), .unset, .unset, .unset] [])) _
      refine XS.iconst X34.here hx rfl (hb hby at_15) ?_
      show Steps p.tables e below (T34.setTop (mkF m 16 #[.val (.int k0), .val (.int ((k0 &&& (2147483647 : Int32)) % (5 : Int32))), .val (.ref w_STANDARD), .unset, .unset, .unset] [(.int (0 : Int32))])) _
      refine XS.istoreN X34.here hx rfl (hb hby at_16) rfl (l' := #[.val (.int k0), .val (.int ((k0 &&& (2147483647 : Int32)) % (5 : Int32))), .val (.ref w_STANDARD), .val (.int (0 : Int32)), .unset, .unset]) rfl ?_
      show Steps p.tables e below (T34.setTop (mkF m 17 #[.val (.int k0), .val (.int ((k0 &&& (2147483647 : Int32)) % (5 : Int32))), .val (.ref w_STANDARD), .val (.int (0 : Int32)), .unset, .unset] [])) _
      refine XS.goto X34.here hx rfl (pc0 := 17) (pc' := 68) rfl (hb hby at_17) (by decide) (by decide) ?_
      show Steps p.tables e below (T34.setTop (mkF m 68 #[.val (.int k0), .val (.int ((k0 &&& (2147483647 : Int32)) % (5 : Int32))), .val (.ref w_STANDARD), .val (.int (0 : Int32)), .unset, .unset] [])) _
      refine XS.aloadN X34.here hx rfl (hb hby at_68) rfl rfl ?_
      show Steps p.tables e below (T34.setTop (mkF m 69 #[.val (.int k0), .val (.int ((k0 &&& (2147483647 : Int32)) % (5 : Int32))), .val (.ref w_STANDARD), .val (.int (0 : Int32)), .unset, .unset] [(.ref w_STANDARD)])) _
      refine st35.trans ?_
      show Steps p.tables e below (T35.setTop (mkF m 72 #[.val (.int k0), .val (.int ((k0 &&& (2147483647 : Int32)) % (5 : Int32))), .val (.ref w_STANDARD), .val (.int (0 : Int32)), .unset, .unset] [(.int (0 : Int32))])) _
      refine XS.istore X35.here hx rfl (hb hby at_72) rfl (l' := #[.val (.int k0), .val (.int ((k0 &&& (2147483647 : Int32)) % (5 : Int32))), .val (.ref w_STANDARD), .val (.int (0 : Int32)), .val (.int (0 : Int32)), .unset]) rfl ?_
      show Steps p.tables e below (T35.setTop (mkF m 74 #[.val (.int k0), .val (.int ((k0 &&& (2147483647 : Int32)) % (5 : Int32))), .val (.ref w_STANDARD), .val (.int (0 : Int32)), .val (.int (0 : Int32)), .unset] [])) _
      refine XS.aloadN X35.here hx rfl (hb hby at_74) rfl rfl ?_
      show Steps p.tables e below (T35.setTop (mkF m 75 #[.val (.int k0), .val (.int ((k0 &&& (2147483647 : Int32)) % (5 : Int32))), .val (.ref w_STANDARD), .val (.int (0 : Int32)), .val (.int (0 : Int32)), .unset] [(.ref w_STANDARD)])) _
      refine st36.trans ?_
      show Steps p.tables e below (T36.setTop (mkF m 78 #[.val (.int k0), .val (.int ((k0 &&& (2147483647 : Int32)) % (5 : Int32))), .val (.ref w_STANDARD), .val (.int (0 : Int32)), .val (.int (0 : Int32)), .unset] [(.int (0 : Int32))])) _
      refine XS.ifNo X36.here hx rfl (hb hby at_78) rfl ((if0 _ _).trans (teq (by decide : (0 : Int32) = (0 : Int32))).2) ?_
      show Steps p.tables e below (T36.setTop (mkF m 81 #[.val (.int k0), .val (.int ((k0 &&& (2147483647 : Int32)) % (5 : Int32))), .val (.ref w_STANDARD), .val (.int (0 : Int32)), .val (.int (0 : Int32)), .unset] [])) _
      refine XS.aloadN X36.here hx rfl (hb hby at_81) rfl rfl ?_
      show Steps p.tables e below (T36.setTop (mkF m 82 #[.val (.int k0), .val (.int ((k0 &&& (2147483647 : Int32)) % (5 : Int32))), .val (.ref w_STANDARD), .val (.int (0 : Int32)), .val (.int (0 : Int32)), .unset] [(.ref w_STANDARD)])) _
      refine st37.trans ?_
      show Steps p.tables e below (T37.setTop (mkF m 85 #[.val (.int k0), .val (.int ((k0 &&& (2147483647 : Int32)) % (5 : Int32))), .val (.ref w_STANDARD), .val (.int (0 : Int32)), .val (.int (0 : Int32)), .unset] [(.int (0 : Int32))])) _
      refine XS.ifYes X37.here hx rfl (pc0 := 85) (pc' := 92) rfl (hb hby at_85) rfl ((if0 _ _).trans (teq (by decide : (0 : Int32) = (0 : Int32))).1) (by decide) (by decide) ?_
      show Steps p.tables e below (T37.setTop (mkF m 92 #[.val (.int k0), .val (.int ((k0 &&& (2147483647 : Int32)) % (5 : Int32))), .val (.ref w_STANDARD), .val (.int (0 : Int32)), .val (.int (0 : Int32)), .unset] [])) _
      refine XS.iconst X37.here hx rfl (hb hby at_92) ?_
      show Steps p.tables e below (T37.setTop (mkF m 93 #[.val (.int k0), .val (.int ((k0 &&& (2147483647 : Int32)) % (5 : Int32))), .val (.ref w_STANDARD), .val (.int (0 : Int32)), .val (.int (0 : Int32)), .unset] [(.int (0 : Int32))])) _
      refine XS.istore X37.here hx rfl (hb hby at_93) rfl (l' := #[.val (.int k0), .val (.int ((k0 &&& (2147483647 : Int32)) % (5 : Int32))), .val (.ref w_STANDARD), .val (.int (0 : Int32)), .val (.int (0 : Int32)), .val (.int (0 : Int32))]) rfl ?_
      show Steps p.tables e below (T37.setTop (mkF m 95 #[.val (.int k0), .val (.int ((k0 &&& (2147483647 : Int32)) % (5 : Int32))), .val (.ref w_STANDARD), .val (.int (0 : Int32)), .val (.int (0 : Int32)), .val (.int (0 : Int32))] [])) _
      refine XS.iload X37.here hx rfl (hb hby at_95) rfl ?_
      show Steps p.tables e below (T37.setTop (mkF m 97 #[.val (.int k0), .val (.int ((k0 &&& (2147483647 : Int32)) % (5 : Int32))), .val (.ref w_STANDARD), .val (.int (0 : Int32)), .val (.int (0 : Int32)), .val (.int (0 : Int32))] [(.int (0 : Int32))])) _
      refine XS.iloadN X37.here hx rfl (hb hby at_97) rfl ?_
      show Steps p.tables e below (T37.setTop (mkF m 98 #[.val (.int k0), .val (.int ((k0 &&& (2147483647 : Int32)) % (5 : Int32))), .val (.ref w_STANDARD), .val (.int (0 : Int32)), .val (.int (0 : Int32)), .val (.int (0 : Int32))] [(.int (0 : Int32)), (.int (0 : Int32))])) _
      refine XS.icmpNo X37.here hx rfl (hb hby at_98) rfl (teq (by decide : (0 : Int32) = (0 : Int32))).2 ?_
      show Steps p.tables e below (T37.setTop (mkF m 101 #[.val (.int k0), .val (.int ((k0 &&& (2147483647 : Int32)) % (5 : Int32))), .val (.ref w_STANDARD), .val (.int (0 : Int32)), .val (.int (0 : Int32)), .val (.int (0 : Int32))] [])) _
      refine XS.iload X37.here hx rfl (hb hby at_101) rfl ?_
      show Steps p.tables e below (T37.setTop (mkF m 103 #[.val (.int k0), .val (.int ((k0 &&& (2147483647 : Int32)) % (5 : Int32))), .val (.ref w_STANDARD), .val (.int (0 : Int32)), .val (.int (0 : Int32)), .val (.int (0 : Int32))] [(.int (0 : Int32))])) _
      refine XS.iload X37.here hx rfl (hb hby at_103) rfl ?_
      show Steps p.tables e below (T37.setTop (mkF m 105 #[.val (.int k0), .val (.int ((k0 &&& (2147483647 : Int32)) % (5 : Int32))), .val (.ref w_STANDARD), .val (.int (0 : Int32)), .val (.int (0 : Int32)), .val (.int (0 : Int32))] [(.int (0 : Int32)), (.int (0 : Int32))])) _
      refine XS.icmpNo X37.here hx rfl (hb hby at_105) rfl (teq (by decide : (0 : Int32) = (0 : Int32))).2 ?_
      show Steps p.tables e below (T37.setTop (mkF m 108 #[.val (.int k0), .val (.int ((k0 &&& (2147483647 : Int32)) % (5 : Int32))), .val (.ref w_STANDARD), .val (.int (0 : Int32)), .val (.int (0 : Int32)), .val (.int (0 : Int32))] [])) _
      refine XS.iconst X37.here hx rfl (hb hby at_108) ?_
      show Steps p.tables e below (T37.setTop (mkF m 109 #[.val (.int k0), .val (.int ((k0 &&& (2147483647 : Int32)) % (5 : Int32))), .val (.ref w_STANDARD), .val (.int (0 : Int32)), .val (.int (0 : Int32)), .val (.int (0 : Int32))] [(.int (1 : Int32))])) _
      refine XS.goto X37.here hx rfl (pc0 := 109) (pc' := 113) rfl (hb hby at_109) (by decide) (by decide) ?_
      show Steps p.tables e below (T37.setTop (mkF m 113 #[.val (.int k0), .val (.int ((k0 &&& (2147483647 : Int32)) % (5 : Int32))), .val (.ref w_STANDARD), .val (.int (0 : Int32)), .val (.int (0 : Int32)), .val (.int (0 : Int32))] [(.int (1 : Int32))])) _
      exact k_)
    obtain ⟨fs, hr, hrun, hended, hW, hsame⟩ := X37.leave (v := some (.int (1 : Int32))) (fun h => by rw [Bd.returns] at h; cases h)
    refine ⟨_, _, pre38 _ ?_, hrun, hended, _, _, rfl, ?_, ⟨_, rfl⟩, hW, hsame.mono (by decide) (by decide)⟩
    · show Steps p.tables e below (T37.setTop (mkF m 113 #[.val (.int k0), .val (.int ((k0 &&& (2147483647 : Int32)) % (5 : Int32))), .val (.ref w_STANDARD), .val (.int (0 : Int32)), .val (.int (0 : Int32)), .val (.int (0 : Int32))] [(.int (1 : Int32))])) _
      exact retN X37 hx (t := .boolean) Bd.returns (by simp) (hb hby at_113) hr
    · show Q_0 Z k0 w_STANDARD w_SINGLE_TASK w_SINGLE_INSTANCE w_SINGLE_INSTANCE_PER_TASK w_SINGLE_TOP h0 n0 _ T37.heap _
      rw [e37]
      exact ⟨rfl, N37⟩
  · have pre39 : ∀ t_, Steps p.tables e below (s₁.setTop (mkF m 22 #[.val (.int k0), .val (.int ((k0 &&& (2147483647 : Int32)) % (5 : Int32))), .unset, .unset, .unset, .unset] [(.int (1 : Int32)), (.int ((k0 &&& (2147483647 : Int32)) % (5 : Int32)))])) t_ → Steps p.tables e below (s₁.setTop (entryFrame m #[(.int k0)] maxLocals)) t_ := fun t_ k_ => pre32 t_ (by
      show Steps p.tables e below (s₁.setTop (mkF m 8 #[.val (.int k0), .val (.int ((k0 &&& (2147483647 : Int32)) % (5 : Int32))), .unset, .unset, .unset, .unset] [(.int ((k0 &&& (2147483647 : Int32)) % (5 : Int32)))])) _
      refine XS.ifYes X0.here hx rfl (pc0 := 8) (pc' := 20) rfl (hb hby at_8) rfl ((if0 _ _).trans (feq hc8_33).2) (by decide) (by decide) ?_
      show Steps p.tables e below (s₁.setTop (mkF m 20 #[.val (.int k0), .val (.int ((k0 &&& (2147483647 : Int32)) % (5 : Int32))), .unset, .unset, .unset, .unset] [])) _
      refine XS.iloadN X0.here hx rfl (hb hby at_20) rfl ?_
      show Steps p.tables e below (s₁.setTop (mkF m 21 #[.val (.int k0), .val (.int ((k0 &&& (2147483647 : Int32)) % (5 : Int32))), .unset, .unset, .unset, .unset] [(.int ((k0 &&& (2147483647 : Int32)) % (5 : Int32)))])) _
      refine XS.iconst X0.here hx rfl (hb hby at_21) ?_
      show Steps p.tables e below (s₁.setTop (mkF m 22 #[.val (.int k0), .val (.int ((k0 &&& (2147483647 : Int32)) % (5 : Int32))), .unset, .unset, .unset, .unset] [(.int (1 : Int32)), (.int ((k0 &&& (2147483647 : Int32)) % (5 : Int32)))])) _
      exact k_)
    by_cases hc22_40 : ((k0 &&& (2147483647 : Int32)) % (5 : Int32)) = (1 : Int32)
    · obtain ⟨T41, X41, e41, st41⟩ := getS2 X0 hx hZ hown (host := "") (Or.inl (hw _ (List.mem_of_getElem? (i := 26) rfl))) Via.refl e0 S_SINGLE_TOP (g := (mkF m 25 #[.val (.int k0), .val (.int ((k0 &&& (2147483647 : Int32)) % (5 : Int32))), .unset, .unset, .unset, .unset] [])) rfl (hb hby at_25)
      obtain ⟨cq42, kq42, q42a, q42b, q42c⟩ := isOf hZ e41 E_SINGLE_TOP
      obtain ⟨v42, _, ⟨T42, L42, k42, n42⟩, -, X42, ⟨Lc42, hQ42, l42, y42, z42⟩, st42⟩ := X41.virtualBack hx (y := (⟨"com/example/screen_stack_runtime/screenstackruntime/model/LaunchMode", "reusesRunningInstance", "()Z"⟩ : MethodName)) (z := (⟨"com/example/screen_stack_runtime/screenstackruntime/model/LaunchMode", "reusesRunningInstance", "()Z"⟩ : MethodName)) hown (mvT hZ (hw _ (List.mem_of_getElem? (i := 4) rfl))) (mvT hZ (hw _ (List.mem_of_getElem? (i := 5) rfl))) (notFace_of_selects (args := #[]) (mvT hZ (hw _ (List.mem_of_getElem? (i := 7) rfl)))) (mvT hZ (hw _ (List.mem_of_getElem? (i := 7) rfl))) (mvT hZ (hw _ (List.mem_of_getElem? (i := 6) rfl))) (by decide) (backOf (W := 0) (rm_1 l Z a0 hw [] w_SINGLE_TOP w_SINGLE_TASK w_SINGLE_INSTANCE w_SINGLE_INSTANCE_PER_TASK h0 n0 Z0 S_SINGLE_TASK S_SINGLE_INSTANCE S_SINGLE_INSTANCE_PER_TASK) hZ (hw _ (List.mem_of_getElem? (i := 8) rfl)) (hw _ (List.mem_of_getElem? (i := 2) rfl)) (by decide) (by decide)) q42a q42c (g := (mkF m 69 #[.val (.int k0), .val (.int ((k0 &&& (2147483647 : Int32)) % (5 : Int32))), .val (.ref w_SINGLE_TOP), .val (.int (0 : Int32)), .unset, .unset] [(.ref w_SINGLE_TOP)])) rfl (by rw [hml]; rfl) (Steps.refl _) (argsL := []) (rest := []) (lenOf pd_0 rfl) rfl (by show 2 * 0 + _ ≤ _; exact Nat.le_of_eq rfl) (hb hby at_69) (fun _ _ => ⟨rfl, e41, (by decide : 0 + 0 ≤ _), (by decide : 0 + 0 ≤ _)⟩)
      dsimp only [Pt.U, Pt.locs, Pt.cells, Pt.slots] at X42 l42 y42 z42 st42 hQ42
      subst l42 y42 z42
      obtain ⟨hv42, N42q, e42⟩ := hQ42
      have N42 := Fr.app N0 N42q
      have hw42 : v42 = some (.int (0 : Int32)) := hv42.trans (by rw [if_neg n_SINGLE_TOP_SINGLE_TASK, if_neg n_SINGLE_TOP_SINGLE_INSTANCE, if_neg n_SINGLE_TOP_SINGLE_INSTANCE_PER_TASK])
      subst hw42
      obtain ⟨cq43, kq43, q43a, q43b, q43c⟩ := isOf hZ e42 E_SINGLE_TOP
      obtain ⟨v43, _, ⟨T43, L43, k43, n43⟩, -, X43, ⟨Lc43, hQ43, l43, y43, z43⟩, st43⟩ := X42.virtualBack hx (y := (⟨"com/example/screen_stack_runtime/screenstackruntime/model/LaunchMode", "keepsOneInstance", "()Z"⟩ : MethodName)) (z := (⟨"com/example/screen_stack_runtime/screenstackruntime/model/LaunchMode", "keepsOneInstance", "()Z"⟩ : MethodName)) hown (mvT hZ (hw _ (List.mem_of_getElem? (i := 15) rfl))) (mvT hZ (hw _ (List.mem_of_getElem? (i := 16) rfl))) (notFace_of_selects (args := #[]) (mvT hZ (hw _ (List.mem_of_getElem? (i := 18) rfl)))) (mvT hZ (hw _ (List.mem_of_getElem? (i := 18) rfl))) (mvT hZ (hw _ (List.mem_of_getElem? (i := 17) rfl))) (by decide) (backOf (W := 0) (rm_2 l Z a0 hw [] w_SINGLE_TOP w_SINGLE_TASK w_SINGLE_INSTANCE h0 n0 Z0 S_SINGLE_TASK S_SINGLE_INSTANCE) hZ (hw _ (List.mem_of_getElem? (i := 19) rfl)) (hw _ (List.mem_of_getElem? (i := 2) rfl)) (by decide) (by decide)) q43a q43c (g := (mkF m 75 #[.val (.int k0), .val (.int ((k0 &&& (2147483647 : Int32)) % (5 : Int32))), .val (.ref w_SINGLE_TOP), .val (.int (0 : Int32)), .val (.int (0 : Int32)), .unset] [(.ref w_SINGLE_TOP)])) rfl (by rw [hml]; rfl) (Steps.refl _) (argsL := []) (rest := []) (lenOf pd_0 rfl) rfl (by show 2 * 0 + _ ≤ _; exact Nat.le_of_eq rfl) (hb hby at_75) (fun _ _ => ⟨rfl, e42, (by decide : 0 + 0 ≤ _), (by decide : 0 + 0 ≤ _)⟩)
      dsimp only [Pt.U, Pt.locs, Pt.cells, Pt.slots] at X43 l43 y43 z43 st43 hQ43
      subst l43 y43 z43
      obtain ⟨hv43, N43q, e43⟩ := hQ43
      have N43 := Fr.app N42 N43q
      have hw43 : v43 = some (.int (0 : Int32)) := hv43.trans (by rw [if_neg n_SINGLE_TOP_SINGLE_TASK, if_neg n_SINGLE_TOP_SINGLE_INSTANCE])
      subst hw43
      obtain ⟨cq44, kq44, q44a, q44b, q44c⟩ := isOf hZ e43 E_SINGLE_TOP
      obtain ⟨v44, _, ⟨T44, L44, k44, n44⟩, -, X44, ⟨Lc44, hQ44, l44, y44, z44⟩, st44⟩ := X43.virtualBack hx (y := (⟨"com/example/screen_stack_runtime/screenstackruntime/model/LaunchMode", "startsAsRoot", "()Z"⟩ : MethodName)) (z := (⟨"com/example/screen_stack_runtime/screenstackruntime/model/LaunchMode", "startsAsRoot", "()Z"⟩ : MethodName)) hown (mvT hZ (hw _ (List.mem_of_getElem? (i := 20) rfl))) (mvT hZ (hw _ (List.mem_of_getElem? (i := 21) rfl))) (notFace_of_selects (args := #[]) (mvT hZ (hw _ (List.mem_of_getElem? (i := 23) rfl)))) (mvT hZ (hw _ (List.mem_of_getElem? (i := 23) rfl))) (mvT hZ (hw _ (List.mem_of_getElem? (i := 22) rfl))) (by decide) (backOf (W := 0) (rm_3 l Z a0 hw [] w_SINGLE_TOP w_SINGLE_INSTANCE w_SINGLE_INSTANCE_PER_TASK h0 n0 Z0 S_SINGLE_INSTANCE S_SINGLE_INSTANCE_PER_TASK) hZ (hw _ (List.mem_of_getElem? (i := 24) rfl)) (hw _ (List.mem_of_getElem? (i := 2) rfl)) (by decide) (by decide)) q44a q44c (g := (mkF m 82 #[.val (.int k0), .val (.int ((k0 &&& (2147483647 : Int32)) % (5 : Int32))), .val (.ref w_SINGLE_TOP), .val (.int (0 : Int32)), .val (.int (0 : Int32)), .unset] [(.ref w_SINGLE_TOP)])) rfl (by rw [hml]; rfl) (Steps.refl _) (argsL := []) (rest := []) (lenOf pd_0 rfl) rfl (by show 2 * 0 + _ ≤ _; exact Nat.le_of_eq rfl) (hb hby at_82) (fun _ _ => ⟨rfl, e43, (by decide : 0 + 0 ≤ _), (by decide : 0 + 0 ≤ _)⟩)
      dsimp only [Pt.U, Pt.locs, Pt.cells, Pt.slots] at X44 l44 y44 z44 st44 hQ44
      subst l44 y44 z44
      obtain ⟨hv44, N44q, e44⟩ := hQ44
      have N44 := Fr.app N43 N44q
      have hw44 : v44 = some (.int (0 : Int32)) := hv44.trans (by rw [if_neg n_SINGLE_TOP_SINGLE_INSTANCE, if_neg n_SINGLE_TOP_SINGLE_INSTANCE_PER_TASK])
      subst hw44
      have pre45 : ∀ t_, Steps p.tables e below (T44.setTop (mkF m 113 #[.val (.int k0), .val (.int ((k0 &&& (2147483647 : Int32)) % (5 : Int32))), .val (.ref w_SINGLE_TOP), .val (.int (0 : Int32)), .val (.int (0 : Int32)), .val (.int (0 : Int32))] [(.int (1 : Int32))])) t_ → Steps p.tables e below (s₁.setTop (entryFrame m #[(.int k0)] maxLocals)) t_ := fun t_ k_ => pre39 t_ (by
        show Steps p.tables e below (s₁.setTop (mkF m 22 #[.val (.int k0), .val (.int ((k0 &&& (2147483647 : Int32)) % (5 : Int32))), .unset, .unset, .unset, .unset] [(.int (1 : Int32)), (.int ((k0 &&& (2147483647 : Int32)) % (5 : Int32)))])) _
        refine XS.icmpNo X0.here hx rfl (hb hby at_22) rfl (teq hc22_40).2 ?_
        show Steps p.tables e below (s₁.setTop (mkF m 25 #[.val (.int k0), .val (.int ((k0 &&& (2147483647 : Int32)) % (5 : Int32))), .unset, .unset, .unset, .unset] [])) _
        refine st41 _ ?_
        show Steps p.tables e below (T41.setTop (mkF m 28 #[.val (.int k0), .val (.int ((k0 &&& (2147483647 : Int32)) % (5 : Int32))), .unset, .unset, .unset, .unset] [(.ref w_SINGLE_TOP)])) _
        refine XS.astoreN X41.here hx rfl (hb hby at_28) rfl rfl (l' := #[.val (.int k0), .val (.int ((k0 &&& (2147483647 : Int32)) % (5 : Int32))), .val (.ref w_SINGLE_TOP), .unset, .unset, .unset]) rfl ?_
        show Steps p.tables e below (T41.setTop (mkF m 29 #[.val (.int k0), .val (.int ((k0 &&& (2147483647 : Int32)) % (5 : Int32))), .val (.ref w_SINGLE_TOP), .unset, .unset, .unset] [])) _
        refine XS.iconst X41.here hx rfl (hb hby at_29) ?_
        show Steps p.tables e below (T41.setTop (mkF m 30 #[.val (.int k0), .val (.int ((k0 &&& (2147483647 : Int32)) % (5 : Int32))), .val (.ref w_SINGLE_TOP), .unset, .unset, .unset] [(.int (0 : Int32))])) _
        refine XS.istoreN X41.here hx rfl (hb hby at_30) rfl (l' := #[.val (.int k0), .val (.int ((k0 &&& (2147483647 : Int32)) % (5 : Int32))), .val (.ref w_SINGLE_TOP), .val (.int (0 : Int32)), .unset, .unset]) rfl ?_
        show Steps p.tables e below (T41.setTop (mkF m 31 #[.val (.int k0), .val (.int ((k0 &&& (2147483647 : Int32)) % (5 : Int32))), .val (.ref w_SINGLE_TOP), .val (.int (0 : Int32)), .unset, .unset] [])) _
        refine XS.goto X41.here hx rfl (pc0 := 31) (pc' := 68) rfl (hb hby at_31) (by decide) (by decide) ?_
        show Steps p.tables e below (T41.setTop (mkF m 68 #[.val (.int k0), .val (.int ((k0 &&& (2147483647 : Int32)) % (5 : Int32))), .val (.ref w_SINGLE_TOP), .val (.int (0 : Int32)), .unset, .unset] [])) _
        refine XS.aloadN X41.here hx rfl (hb hby at_68) rfl rfl ?_
        show Steps p.tables e below (T41.setTop (mkF m 69 #[.val (.int k0), .val (.int ((k0 &&& (2147483647 : Int32)) % (5 : Int32))), .val (.ref w_SINGLE_TOP), .val (.int (0 : Int32)), .unset, .unset] [(.ref w_SINGLE_TOP)])) _
        refine st42.trans ?_
        show Steps p.tables e below (T42.setTop (mkF m 72 #[.val (.int k0), .val (.int ((k0 &&& (2147483647 : Int32)) % (5 : Int32))), .val (.ref w_SINGLE_TOP), .val (.int (0 : Int32)), .unset, .unset] [(.int (0 : Int32))])) _
        refine XS.istore X42.here hx rfl (hb hby at_72) rfl (l' := #[.val (.int k0), .val (.int ((k0 &&& (2147483647 : Int32)) % (5 : Int32))), .val (.ref w_SINGLE_TOP), .val (.int (0 : Int32)), .val (.int (0 : Int32)), .unset]) rfl ?_
        show Steps p.tables e below (T42.setTop (mkF m 74 #[.val (.int k0), .val (.int ((k0 &&& (2147483647 : Int32)) % (5 : Int32))), .val (.ref w_SINGLE_TOP), .val (.int (0 : Int32)), .val (.int (0 : Int32)), .unset] [])) _
        refine XS.aloadN X42.here hx rfl (hb hby at_74) rfl rfl ?_
        show Steps p.tables e below (T42.setTop (mkF m 75 #[.val (.int k0), .val (.int ((k0 &&& (2147483647 : Int32)) % (5 : Int32))), .val (.ref w_SINGLE_TOP), .val (.int (0 : Int32)), .val (.int (0 : Int32)), .unset] [(.ref w_SINGLE_TOP)])) _
        refine st43.trans ?_
        show Steps p.tables e below (T43.setTop (mkF m 78 #[.val (.int k0), .val (.int ((k0 &&& (2147483647 : Int32)) % (5 : Int32))), .val (.ref w_SINGLE_TOP), .val (.int (0 : Int32)), .val (.int (0 : Int32)), .unset] [(.int (0 : Int32))])) _
        refine XS.ifNo X43.here hx rfl (hb hby at_78) rfl ((if0 _ _).trans (teq (by decide : (0 : Int32) = (0 : Int32))).2) ?_
        show Steps p.tables e below (T43.setTop (mkF m 81 #[.val (.int k0), .val (.int ((k0 &&& (2147483647 : Int32)) % (5 : Int32))), .val (.ref w_SINGLE_TOP), .val (.int (0 : Int32)), .val (.int (0 : Int32)), .unset] [])) _
        refine XS.aloadN X43.here hx rfl (hb hby at_81) rfl rfl ?_
        show Steps p.tables e below (T43.setTop (mkF m 82 #[.val (.int k0), .val (.int ((k0 &&& (2147483647 : Int32)) % (5 : Int32))), .val (.ref w_SINGLE_TOP), .val (.int (0 : Int32)), .val (.int (0 : Int32)), .unset] [(.ref w_SINGLE_TOP)])) _
        refine st44.trans ?_
        show Steps p.tables e below (T44.setTop (mkF m 85 #[.val (.int k0), .val (.int ((k0 &&& (2147483647 : Int32)) % (5 : Int32))), .val (.ref w_SINGLE_TOP), .val (.int (0 : Int32)), .val (.int (0 : Int32)), .unset] [(.int (0 : Int32))])) _
        refine XS.ifYes X44.here hx rfl (pc0 := 85) (pc' := 92) rfl (hb hby at_85) rfl ((if0 _ _).trans (teq (by decide : (0 : Int32) = (0 : Int32))).1) (by decide) (by decide) ?_
        show Steps p.tables e below (T44.setTop (mkF m 92 #[.val (.int k0), .val (.int ((k0 &&& (2147483647 : Int32)) % (5 : Int32))), .val (.ref w_SINGLE_TOP), .val (.int (0 : Int32)), .val (.int (0 : Int32)), .unset] [])) _
        refine XS.iconst X44.here hx rfl (hb hby at_92) ?_
        show Steps p.tables e below (T44.setTop (mkF m 93 #[.val (.int k0), .val (.int ((k0 &&& (2147483647 : Int32)) % (5 : Int32))), .val (.ref w_SINGLE_TOP), .val (.int (0 : Int32)), .val (.int (0 : Int32)), .unset] [(.int (0 : Int32))])) _
        refine XS.istore X44.here hx rfl (hb hby at_93) rfl (l' := #[.val (.int k0), .val (.int ((k0 &&& (2147483647 : Int32)) % (5 : Int32))), .val (.ref w_SINGLE_TOP), .val (.int (0 : Int32)), .val (.int (0 : Int32)), .val (.int (0 : Int32))]) rfl ?_
        show Steps p.tables e below (T44.setTop (mkF m 95 #[.val (.int k0), .val (.int ((k0 &&& (2147483647 : Int32)) % (5 : Int32))), .val (.ref w_SINGLE_TOP), .val (.int (0 : Int32)), .val (.int (0 : Int32)), .val (.int (0 : Int32))] [])) _
        refine XS.iload X44.here hx rfl (hb hby at_95) rfl ?_
        show Steps p.tables e below (T44.setTop (mkF m 97 #[.val (.int k0), .val (.int ((k0 &&& (2147483647 : Int32)) % (5 : Int32))), .val (.ref w_SINGLE_TOP), .val (.int (0 : Int32)), .val (.int (0 : Int32)), .val (.int (0 : Int32))] [(.int (0 : Int32))])) _
        refine XS.iloadN X44.here hx rfl (hb hby at_97) rfl ?_
        show Steps p.tables e below (T44.setTop (mkF m 98 #[.val (.int k0), .val (.int ((k0 &&& (2147483647 : Int32)) % (5 : Int32))), .val (.ref w_SINGLE_TOP), .val (.int (0 : Int32)), .val (.int (0 : Int32)), .val (.int (0 : Int32))] [(.int (0 : Int32)), (.int (0 : Int32))])) _
        refine XS.icmpNo X44.here hx rfl (hb hby at_98) rfl (teq (by decide : (0 : Int32) = (0 : Int32))).2 ?_
        show Steps p.tables e below (T44.setTop (mkF m 101 #[.val (.int k0), .val (.int ((k0 &&& (2147483647 : Int32)) % (5 : Int32))), .val (.ref w_SINGLE_TOP), .val (.int (0 : Int32)), .val (.int (0 : Int32)), .val (.int (0 : Int32))] [])) _
        refine XS.iload X44.here hx rfl (hb hby at_101) rfl ?_
        show Steps p.tables e below (T44.setTop (mkF m 103 #[.val (.int k0), .val (.int ((k0 &&& (2147483647 : Int32)) % (5 : Int32))), .val (.ref w_SINGLE_TOP), .val (.int (0 : Int32)), .val (.int (0 : Int32)), .val (.int (0 : Int32))] [(.int (0 : Int32))])) _
        refine XS.iload X44.here hx rfl (hb hby at_103) rfl ?_
        show Steps p.tables e below (T44.setTop (mkF m 105 #[.val (.int k0), .val (.int ((k0 &&& (2147483647 : Int32)) % (5 : Int32))), .val (.ref w_SINGLE_TOP), .val (.int (0 : Int32)), .val (.int (0 : Int32)), .val (.int (0 : Int32))] [(.int (0 : Int32)), (.int (0 : Int32))])) _
        refine XS.icmpNo X44.here hx rfl (hb hby at_105) rfl (teq (by decide : (0 : Int32) = (0 : Int32))).2 ?_
        show Steps p.tables e below (T44.setTop (mkF m 108 #[.val (.int k0), .val (.int ((k0 &&& (2147483647 : Int32)) % (5 : Int32))), .val (.ref w_SINGLE_TOP), .val (.int (0 : Int32)), .val (.int (0 : Int32)), .val (.int (0 : Int32))] [])) _
        refine XS.iconst X44.here hx rfl (hb hby at_108) ?_
        show Steps p.tables e below (T44.setTop (mkF m 109 #[.val (.int k0), .val (.int ((k0 &&& (2147483647 : Int32)) % (5 : Int32))), .val (.ref w_SINGLE_TOP), .val (.int (0 : Int32)), .val (.int (0 : Int32)), .val (.int (0 : Int32))] [(.int (1 : Int32))])) _
        refine XS.goto X44.here hx rfl (pc0 := 109) (pc' := 113) rfl (hb hby at_109) (by decide) (by decide) ?_
        show Steps p.tables e below (T44.setTop (mkF m 113 #[.val (.int k0), .val (.int ((k0 &&& (2147483647 : Int32)) % (5 : Int32))), .val (.ref w_SINGLE_TOP), .val (.int (0 : Int32)), .val (.int (0 : Int32)), .val (.int (0 : Int32))] [(.int (1 : Int32))])) _
        exact k_)
      obtain ⟨fs, hr, hrun, hended, hW, hsame⟩ := X44.leave (v := some (.int (1 : Int32))) (fun h => by rw [Bd.returns] at h; cases h)
      refine ⟨_, _, pre45 _ ?_, hrun, hended, _, _, rfl, ?_, ⟨_, rfl⟩, hW, hsame.mono (by decide) (by decide)⟩
      · show Steps p.tables e below (T44.setTop (mkF m 113 #[.val (.int k0), .val (.int ((k0 &&& (2147483647 : Int32)) % (5 : Int32))), .val (.ref w_SINGLE_TOP), .val (.int (0 : Int32)), .val (.int (0 : Int32)), .val (.int (0 : Int32))] [(.int (1 : Int32))])) _
        exact retN X44 hx (t := .boolean) Bd.returns (by simp) (hb hby at_113) hr
      · show Q_0 Z k0 w_STANDARD w_SINGLE_TASK w_SINGLE_INSTANCE w_SINGLE_INSTANCE_PER_TASK w_SINGLE_TOP h0 n0 _ T44.heap _
        rw [e44]
        exact ⟨rfl, N44⟩
    · have pre46 : ∀ t_, Steps p.tables e below (s₁.setTop (mkF m 36 #[.val (.int k0), .val (.int ((k0 &&& (2147483647 : Int32)) % (5 : Int32))), .unset, .unset, .unset, .unset] [(.int (2 : Int32)), (.int ((k0 &&& (2147483647 : Int32)) % (5 : Int32)))])) t_ → Steps p.tables e below (s₁.setTop (entryFrame m #[(.int k0)] maxLocals)) t_ := fun t_ k_ => pre39 t_ (by
        show Steps p.tables e below (s₁.setTop (mkF m 22 #[.val (.int k0), .val (.int ((k0 &&& (2147483647 : Int32)) % (5 : Int32))), .unset, .unset, .unset, .unset] [(.int (1 : Int32)), (.int ((k0 &&& (2147483647 : Int32)) % (5 : Int32)))])) _
        refine XS.icmpYes X0.here hx rfl (pc0 := 22) (pc' := 34) rfl (hb hby at_22) rfl (feq hc22_40).2 (by decide) (by decide) ?_
        show Steps p.tables e below (s₁.setTop (mkF m 34 #[.val (.int k0), .val (.int ((k0 &&& (2147483647 : Int32)) % (5 : Int32))), .unset, .unset, .unset, .unset] [])) _
        refine XS.iloadN X0.here hx rfl (hb hby at_34) rfl ?_
        show Steps p.tables e below (s₁.setTop (mkF m 35 #[.val (.int k0), .val (.int ((k0 &&& (2147483647 : Int32)) % (5 : Int32))), .unset, .unset, .unset, .unset] [(.int ((k0 &&& (2147483647 : Int32)) % (5 : Int32)))])) _
        refine XS.iconst X0.here hx rfl (hb hby at_35) ?_
        show Steps p.tables e below (s₁.setTop (mkF m 36 #[.val (.int k0), .val (.int ((k0 &&& (2147483647 : Int32)) % (5 : Int32))), .unset, .unset, .unset, .unset] [(.int (2 : Int32)), (.int ((k0 &&& (2147483647 : Int32)) % (5 : Int32)))])) _
        exact k_)
      by_cases hc36_47 : ((k0 &&& (2147483647 : Int32)) % (5 : Int32)) = (2 : Int32)
      · obtain ⟨T48, X48, e48, st48⟩ := getS2 X0 hx hZ hown (host := "") (Or.inl (hw _ (List.mem_of_getElem? (i := 29) rfl))) Via.refl e0 S_SINGLE_TASK (g := (mkF m 39 #[.val (.int k0), .val (.int ((k0 &&& (2147483647 : Int32)) % (5 : Int32))), .unset, .unset, .unset, .unset] [])) rfl (hb hby at_39)
        obtain ⟨cq49, kq49, q49a, q49b, q49c⟩ := isOf hZ e48 E_SINGLE_TASK
        obtain ⟨v49, _, ⟨T49, L49, k49, n49⟩, -, X49, ⟨Lc49, hQ49, l49, y49, z49⟩, st49⟩ := X48.virtualBack hx (y := (⟨"com/example/screen_stack_runtime/screenstackruntime/model/LaunchMode", "reusesRunningInstance", "()Z"⟩ : MethodName)) (z := (⟨"com/example/screen_stack_runtime/screenstackruntime/model/LaunchMode", "reusesRunningInstance", "()Z"⟩ : MethodName)) hown (mvT hZ (hw _ (List.mem_of_getElem? (i := 4) rfl))) (mvT hZ (hw _ (List.mem_of_getElem? (i := 5) rfl))) (notFace_of_selects (args := #[]) (mvT hZ (hw _ (List.mem_of_getElem? (i := 7) rfl)))) (mvT hZ (hw _ (List.mem_of_getElem? (i := 7) rfl))) (mvT hZ (hw _ (List.mem_of_getElem? (i := 6) rfl))) (by decide) (backOf (W := 0) (rm_1 l Z a0 hw [] w_SINGLE_TASK w_SINGLE_TASK w_SINGLE_INSTANCE w_SINGLE_INSTANCE_PER_TASK h0 n0 Z0 S_SINGLE_TASK S_SINGLE_INSTANCE S_SINGLE_INSTANCE_PER_TASK) hZ (hw _ (List.mem_of_getElem? (i := 8) rfl)) (hw _ (List.mem_of_getElem? (i := 2) rfl)) (by decide) (by decide)) q49a q49c (g := (mkF m 69 #[.val (.int k0), .val (.int ((k0 &&& (2147483647 : Int32)) % (5 : Int32))), .val (.ref w_SINGLE_TASK), .val (.int (1 : Int32)), .unset, .unset] [(.ref w_SINGLE_TASK)])) rfl (by rw [hml]; rfl) (Steps.refl _) (argsL := []) (rest := []) (lenOf pd_0 rfl) rfl (by show 2 * 0 + _ ≤ _; exact Nat.le_of_eq rfl) (hb hby at_69) (fun _ _ => ⟨rfl, e48, (by decide : 0 + 0 ≤ _), (by decide : 0 + 0 ≤ _)⟩)
        dsimp only [Pt.U, Pt.locs, Pt.cells, Pt.slots] at X49 l49 y49 z49 st49 hQ49
        subst l49 y49 z49
        obtain ⟨hv49, N49q, e49⟩ := hQ49
        have N49 := Fr.app N0 N49q
        have hw49 : v49 = some (.int (1 : Int32)) := hv49.trans (by rw [if_pos rfl])
        subst hw49
        obtain ⟨cq50, kq50, q50a, q50b, q50c⟩ := isOf hZ e49 E_SINGLE_TASK
        obtain ⟨v50, _, ⟨T50, L50, k50, n50⟩, -, X50, ⟨Lc50, hQ50, l50, y50, z50⟩, st50⟩ := X49.virtualBack hx (y := (⟨"com/example/screen_stack_runtime/screenstackruntime/model/LaunchMode", "keepsOneInstance", "()Z"⟩ : MethodName)) (z := (⟨"com/example/screen_stack_runtime/screenstackruntime/model/LaunchMode", "keepsOneInstance", "()Z"⟩ : MethodName)) hown (mvT hZ (hw _ (List.mem_of_getElem? (i := 15) rfl))) (mvT hZ (hw _ (List.mem_of_getElem? (i := 16) rfl))) (notFace_of_selects (args := #[]) (mvT hZ (hw _ (List.mem_of_getElem? (i := 18) rfl)))) (mvT hZ (hw _ (List.mem_of_getElem? (i := 18) rfl))) (mvT hZ (hw _ (List.mem_of_getElem? (i := 17) rfl))) (by decide) (backOf (W := 0) (rm_2 l Z a0 hw [] w_SINGLE_TASK w_SINGLE_TASK w_SINGLE_INSTANCE h0 n0 Z0 S_SINGLE_TASK S_SINGLE_INSTANCE) hZ (hw _ (List.mem_of_getElem? (i := 19) rfl)) (hw _ (List.mem_of_getElem? (i := 2) rfl)) (by decide) (by decide)) q50a q50c (g := (mkF m 75 #[.val (.int k0), .val (.int ((k0 &&& (2147483647 : Int32)) % (5 : Int32))), .val (.ref w_SINGLE_TASK), .val (.int (1 : Int32)), .val (.int (1 : Int32)), .unset] [(.ref w_SINGLE_TASK)])) rfl (by rw [hml]; rfl) (Steps.refl _) (argsL := []) (rest := []) (lenOf pd_0 rfl) rfl (by show 2 * 0 + _ ≤ _; exact Nat.le_of_eq rfl) (hb hby at_75) (fun _ _ => ⟨rfl, e49, (by decide : 0 + 0 ≤ _), (by decide : 0 + 0 ≤ _)⟩)
        dsimp only [Pt.U, Pt.locs, Pt.cells, Pt.slots] at X50 l50 y50 z50 st50 hQ50
        subst l50 y50 z50
        obtain ⟨hv50, N50q, e50⟩ := hQ50
        have N50 := Fr.app N49 N50q
        have hw50 : v50 = some (.int (1 : Int32)) := hv50.trans (by rw [if_pos rfl])
        subst hw50
        have pre51 : ∀ t_, Steps p.tables e below (T50.setTop (mkF m 113 #[.val (.int k0), .val (.int ((k0 &&& (2147483647 : Int32)) % (5 : Int32))), .val (.ref w_SINGLE_TASK), .val (.int (1 : Int32)), .val (.int (1 : Int32)), .val (.int (1 : Int32))] [(.int (1 : Int32))])) t_ → Steps p.tables e below (s₁.setTop (entryFrame m #[(.int k0)] maxLocals)) t_ := fun t_ k_ => pre46 t_ (by
          show Steps p.tables e below (s₁.setTop (mkF m 36 #[.val (.int k0), .val (.int ((k0 &&& (2147483647 : Int32)) % (5 : Int32))), .unset, .unset, .unset, .unset] [(.int (2 : Int32)), (.int ((k0 &&& (2147483647 : Int32)) % (5 : Int32)))])) _
          refine XS.icmpNo X0.here hx rfl (hb hby at_36) rfl (teq hc36_47).2 ?_
          show Steps p.tables e below (s₁.setTop (mkF m 39 #[.val (.int k0), .val (.int ((k0 &&& (2147483647 : Int32)) % (5 : Int32))), .unset, .unset, .unset, .unset] [])) _
          refine st48 _ ?_
          show Steps p.tables e below (T48.setTop (mkF m 42 #[.val (.int k0), .val (.int ((k0 &&& (2147483647 : Int32)) % (5 : Int32))), .unset, .unset, .unset, .unset] [(.ref w_SINGLE_TASK)])) _
          refine XS.astoreN X48.here hx rfl (hb hby at_42) rfl rfl (l' := #[.val (.int k0), .val (.int ((k0 &&& (2147483647 : Int32)) % (5 : Int32))), .val (.ref w_SINGLE_TASK), .unset, .unset, .unset]) rfl ?_
          show Steps p.tables e below (T48.setTop (mkF m 43 #[.val (.int k0), .val (.int ((k0 &&& (2147483647 : Int32)) % (5 : Int32))), .val (.ref w_SINGLE_TASK), .unset, .unset, .unset] [])) _
          refine XS.iconst X48.here hx rfl (hb hby at_43) ?_
          show Steps p.tables e below (T48.setTop (mkF m 44 #[.val (.int k0), .val (.int ((k0 &&& (2147483647 : Int32)) % (5 : Int32))), .val (.ref w_SINGLE_TASK), .unset, .unset, .unset] [(.int (1 : Int32))])) _
          refine XS.istoreN X48.here hx rfl (hb hby at_44) rfl (l' := #[.val (.int k0), .val (.int ((k0 &&& (2147483647 : Int32)) % (5 : Int32))), .val (.ref w_SINGLE_TASK), .val (.int (1 : Int32)), .unset, .unset]) rfl ?_
          show Steps p.tables e below (T48.setTop (mkF m 45 #[.val (.int k0), .val (.int ((k0 &&& (2147483647 : Int32)) % (5 : Int32))), .val (.ref w_SINGLE_TASK), .val (.int (1 : Int32)), .unset, .unset] [])) _
          refine XS.goto X48.here hx rfl (pc0 := 45) (pc' := 68) rfl (hb hby at_45) (by decide) (by decide) ?_
          show Steps p.tables e below (T48.setTop (mkF m 68 #[.val (.int k0), .val (.int ((k0 &&& (2147483647 : Int32)) % (5 : Int32))), .val (.ref w_SINGLE_TASK), .val (.int (1 : Int32)), .unset, .unset] [])) _
          refine XS.aloadN X48.here hx rfl (hb hby at_68) rfl rfl ?_
          show Steps p.tables e below (T48.setTop (mkF m 69 #[.val (.int k0), .val (.int ((k0 &&& (2147483647 : Int32)) % (5 : Int32))), .val (.ref w_SINGLE_TASK), .val (.int (1 : Int32)), .unset, .unset] [(.ref w_SINGLE_TASK)])) _
          refine st49.trans ?_
          show Steps p.tables e below (T49.setTop (mkF m 72 #[.val (.int k0), .val (.int ((k0 &&& (2147483647 : Int32)) % (5 : Int32))), .val (.ref w_SINGLE_TASK), .val (.int (1 : Int32)), .unset, .unset] [(.int (1 : Int32))])) _
          refine XS.istore X49.here hx rfl (hb hby at_72) rfl (l' := #[.val (.int k0), .val (.int ((k0 &&& (2147483647 : Int32)) % (5 : Int32))), .val (.ref w_SINGLE_TASK), .val (.int (1 : Int32)), .val (.int (1 : Int32)), .unset]) rfl ?_
          show Steps p.tables e below (T49.setTop (mkF m 74 #[.val (.int k0), .val (.int ((k0 &&& (2147483647 : Int32)) % (5 : Int32))), .val (.ref w_SINGLE_TASK), .val (.int (1 : Int32)), .val (.int (1 : Int32)), .unset] [])) _
          refine XS.aloadN X49.here hx rfl (hb hby at_74) rfl rfl ?_
          show Steps p.tables e below (T49.setTop (mkF m 75 #[.val (.int k0), .val (.int ((k0 &&& (2147483647 : Int32)) % (5 : Int32))), .val (.ref w_SINGLE_TASK), .val (.int (1 : Int32)), .val (.int (1 : Int32)), .unset] [(.ref w_SINGLE_TASK)])) _
          refine st50.trans ?_
          show Steps p.tables e below (T50.setTop (mkF m 78 #[.val (.int k0), .val (.int ((k0 &&& (2147483647 : Int32)) % (5 : Int32))), .val (.ref w_SINGLE_TASK), .val (.int (1 : Int32)), .val (.int (1 : Int32)), .unset] [(.int (1 : Int32))])) _
          refine XS.ifYes X50.here hx rfl (pc0 := 78) (pc' := 88) rfl (hb hby at_78) rfl ((if0 _ _).trans (feq (by decide : ¬ ((1 : Int32) = (0 : Int32)))).2) (by decide) (by decide) ?_
          show Steps p.tables e below (T50.setTop (mkF m 88 #[.val (.int k0), .val (.int ((k0 &&& (2147483647 : Int32)) % (5 : Int32))), .val (.ref w_SINGLE_TASK), .val (.int (1 : Int32)), .val (.int (1 : Int32)), .unset] [])) _
          refine XS.iconst X50.here hx rfl (hb hby at_88) ?_
          show Steps p.tables e below (T50.setTop (mkF m 89 #[.val (.int k0), .val (.int ((k0 &&& (2147483647 : Int32)) % (5 : Int32))), .val (.ref w_SINGLE_TASK), .val (.int (1 : Int32)), .val (.int (1 : Int32)), .unset] [(.int (1 : Int32))])) _
          refine XS.goto X50.here hx rfl (pc0 := 89) (pc' := 93) rfl (hb hby at_89) (by decide) (by decide) ?_
          show Steps p.tables e below (T50.setTop (mkF m 93 #[.val (.int k0), .val (.int ((k0 &&& (2147483647 : Int32)) % (5 : Int32))), .val (.ref w_SINGLE_TASK), .val (.int (1 : Int32)), .val (.int (1 : Int32)), .unset] [(.int (1 : Int32))])) _
          refine XS.istore X50.here hx rfl (hb hby at_93) rfl (l' := #[.val (.int k0), .val (.int ((k0 &&& (2147483647 : Int32)) % (5 : Int32))), .val (.ref w_SINGLE_TASK), .val (.int (1 : Int32)), .val (.int (1 : Int32)), .val (.int (1 : Int32))]) rfl ?_
          show Steps p.tables e below (T50.setTop (mkF m 95 #[.val (.int k0), .val (.int ((k0 &&& (2147483647 : Int32)) % (5 : Int32))), .val (.ref w_SINGLE_TASK), .val (.int (1 : Int32)), .val (.int (1 : Int32)), .val (.int (1 : Int32))] [])) _
          refine XS.iload X50.here hx rfl (hb hby at_95) rfl ?_
          show Steps p.tables e below (T50.setTop (mkF m 97 #[.val (.int k0), .val (.int ((k0 &&& (2147483647 : Int32)) % (5 : Int32))), .val (.ref w_SINGLE_TASK), .val (.int (1 : Int32)), .val (.int (1 : Int32)), .val (.int (1 : Int32))] [(.int (1 : Int32))])) _
          refine XS.iloadN X50.here hx rfl (hb hby at_97) rfl ?_
          show Steps p.tables e below (T50.setTop (mkF m 98 #[.val (.int k0), .val (.int ((k0 &&& (2147483647 : Int32)) % (5 : Int32))), .val (.ref w_SINGLE_TASK), .val (.int (1 : Int32)), .val (.int (1 : Int32)), .val (.int (1 : Int32))] [(.int (1 : Int32)), (.int (1 : Int32))])) _
          refine XS.icmpNo X50.here hx rfl (hb hby at_98) rfl (teq (by decide : (1 : Int32) = (1 : Int32))).2 ?_
          show Steps p.tables e below (T50.setTop (mkF m 101 #[.val (.int k0), .val (.int ((k0 &&& (2147483647 : Int32)) % (5 : Int32))), .val (.ref w_SINGLE_TASK), .val (.int (1 : Int32)), .val (.int (1 : Int32)), .val (.int (1 : Int32))] [])) _
          refine XS.iload X50.here hx rfl (hb hby at_101) rfl ?_
          show Steps p.tables e below (T50.setTop (mkF m 103 #[.val (.int k0), .val (.int ((k0 &&& (2147483647 : Int32)) % (5 : Int32))), .val (.ref w_SINGLE_TASK), .val (.int (1 : Int32)), .val (.int (1 : Int32)), .val (.int (1 : Int32))] [(.int (1 : Int32))])) _
          refine XS.iload X50.here hx rfl (hb hby at_103) rfl ?_
          show Steps p.tables e below (T50.setTop (mkF m 105 #[.val (.int k0), .val (.int ((k0 &&& (2147483647 : Int32)) % (5 : Int32))), .val (.ref w_SINGLE_TASK), .val (.int (1 : Int32)), .val (.int (1 : Int32)), .val (.int (1 : Int32))] [(.int (1 : Int32)), (.int (1 : Int32))])) _
          refine XS.icmpNo X50.here hx rfl (hb hby at_105) rfl (teq (by decide : (1 : Int32) = (1 : Int32))).2 ?_
          show Steps p.tables e below (T50.setTop (mkF m 108 #[.val (.int k0), .val (.int ((k0 &&& (2147483647 : Int32)) % (5 : Int32))), .val (.ref w_SINGLE_TASK), .val (.int (1 : Int32)), .val (.int (1 : Int32)), .val (.int (1 : Int32))] [])) _
          refine XS.iconst X50.here hx rfl (hb hby at_108) ?_
          show Steps p.tables e below (T50.setTop (mkF m 109 #[.val (.int k0), .val (.int ((k0 &&& (2147483647 : Int32)) % (5 : Int32))), .val (.ref w_SINGLE_TASK), .val (.int (1 : Int32)), .val (.int (1 : Int32)), .val (.int (1 : Int32))] [(.int (1 : Int32))])) _
          refine XS.goto X50.here hx rfl (pc0 := 109) (pc' := 113) rfl (hb hby at_109) (by decide) (by decide) ?_
          show Steps p.tables e below (T50.setTop (mkF m 113 #[.val (.int k0), .val (.int ((k0 &&& (2147483647 : Int32)) % (5 : Int32))), .val (.ref w_SINGLE_TASK), .val (.int (1 : Int32)), .val (.int (1 : Int32)), .val (.int (1 : Int32))] [(.int (1 : Int32))])) _
          exact k_)
        obtain ⟨fs, hr, hrun, hended, hW, hsame⟩ := X50.leave (v := some (.int (1 : Int32))) (fun h => by rw [Bd.returns] at h; cases h)
        refine ⟨_, _, pre51 _ ?_, hrun, hended, _, _, rfl, ?_, ⟨_, rfl⟩, hW, hsame.mono (by decide) (by decide)⟩
        · show Steps p.tables e below (T50.setTop (mkF m 113 #[.val (.int k0), .val (.int ((k0 &&& (2147483647 : Int32)) % (5 : Int32))), .val (.ref w_SINGLE_TASK), .val (.int (1 : Int32)), .val (.int (1 : Int32)), .val (.int (1 : Int32))] [(.int (1 : Int32))])) _
          exact retN X50 hx (t := .boolean) Bd.returns (by simp) (hb hby at_113) hr
        · show Q_0 Z k0 w_STANDARD w_SINGLE_TASK w_SINGLE_INSTANCE w_SINGLE_INSTANCE_PER_TASK w_SINGLE_TOP h0 n0 _ T50.heap _
          rw [e50]
          exact ⟨rfl, N50⟩
      · have pre52 : ∀ t_, Steps p.tables e below (s₁.setTop (mkF m 50 #[.val (.int k0), .val (.int ((k0 &&& (2147483647 : Int32)) % (5 : Int32))), .unset, .unset, .unset, .unset] [(.int (3 : Int32)), (.int ((k0 &&& (2147483647 : Int32)) % (5 : Int32)))])) t_ → Steps p.tables e below (s₁.setTop (entryFrame m #[(.int k0)] maxLocals)) t_ := fun t_ k_ => pre46 t_ (by
          show Steps p.tables e below (s₁.setTop (mkF m 36 #[.val (.int k0), .val (.int ((k0 &&& (2147483647 : Int32)) % (5 : Int32))), .unset, .unset, .unset, .unset] [(.int (2 : Int32)), (.int ((k0 &&& (2147483647 : Int32)) % (5 : Int32)))])) _
          refine XS.icmpYes X0.here hx rfl (pc0 := 36) (pc' := 48) rfl (hb hby at_36) rfl (feq hc36_47).2 (by decide) (by decide) ?_
          show Steps p.tables e below (s₁.setTop (mkF m 48 #[.val (.int k0), .val (.int ((k0 &&& (2147483647 : Int32)) % (5 : Int32))), .unset, .unset, .unset, .unset] [])) _
          refine XS.iloadN X0.here hx rfl (hb hby at_48) rfl ?_
          show Steps p.tables e below (s₁.setTop (mkF m 49 #[.val (.int k0), .val (.int ((k0 &&& (2147483647 : Int32)) % (5 : Int32))), .unset, .unset, .unset, .unset] [(.int ((k0 &&& (2147483647 : Int32)) % (5 : Int32)))])) _
          refine XS.iconst X0.here hx rfl (hb hby at_49) ?_
          show Steps p.tables e below (s₁.setTop (mkF m 50 #[.val (.int k0), .val (.int ((k0 &&& (2147483647 : Int32)) % (5 : Int32))), .unset, .unset, .unset, .unset] [(.int (3 : Int32)), (.int ((k0 &&& (2147483647 : Int32)) % (5 : Int32)))])) _
          exact k_)
        by_cases hc50_53 : ((k0 &&& (2147483647 : Int32)) % (5 : Int32)) = (3 : Int32)
        · obtain ⟨T54, X54, e54, st54⟩ := getS2 X0 hx hZ hown (host := "") (Or.inl (hw _ (List.mem_of_getElem? (i := 25) rfl))) Via.refl e0 S_SINGLE_INSTANCE (g := (mkF m 53 #[.val (.int k0), .val (.int ((k0 &&& (2147483647 : Int32)) % (5 : Int32))), .unset, .unset, .unset, .unset] [])) rfl (hb hby at_53)
          obtain ⟨cq55, kq55, q55a, q55b, q55c⟩ := isOf hZ e54 E_SINGLE_INSTANCE
          obtain ⟨v55, _, ⟨T55, L55, k55, n55⟩, -, X55, ⟨Lc55, hQ55, l55, y55, z55⟩, st55⟩ := X54.virtualBack hx (y := (⟨"com/example/screen_stack_runtime/screenstackruntime/model/LaunchMode", "reusesRunningInstance", "()Z"⟩ : MethodName)) (z := (⟨"com/example/screen_stack_runtime/screenstackruntime/model/LaunchMode", "reusesRunningInstance", "()Z"⟩ : MethodName)) hown (mvT hZ (hw _ (List.mem_of_getElem? (i := 4) rfl))) (mvT hZ (hw _ (List.mem_of_getElem? (i := 5) rfl))) (notFace_of_selects (args := #[]) (mvT hZ (hw _ (List.mem_of_getElem? (i := 7) rfl)))) (mvT hZ (hw _ (List.mem_of_getElem? (i := 7) rfl))) (mvT hZ (hw _ (List.mem_of_getElem? (i := 6) rfl))) (by decide) (backOf (W := 0) (rm_1 l Z a0 hw [] w_SINGLE_INSTANCE w_SINGLE_TASK w_SINGLE_INSTANCE w_SINGLE_INSTANCE_PER_TASK h0 n0 Z0 S_SINGLE_TASK S_SINGLE_INSTANCE S_SINGLE_INSTANCE_PER_TASK) hZ (hw _ (List.mem_of_getElem? (i := 8) rfl)) (hw _ (List.mem_of_getElem? (i := 2) rfl)) (by decide) (by decide)) q55a q55c (g := (mkF m 69 #[.val (.int k0), .val (.int ((k0 &&& (2147483647 : Int32)) % (5 : Int32))), .val (.ref w_SINGLE_INSTANCE), .val (.int (1 : Int32)), .unset, .unset] [(.ref w_SINGLE_INSTANCE)])) rfl (by rw [hml]; rfl) (Steps.refl _) (argsL := []) (rest := []) (lenOf pd_0 rfl) rfl (by show 2 * 0 + _ ≤ _; exact Nat.le_of_eq rfl) (hb hby at_69) (fun _ _ => ⟨rfl, e54, (by decide : 0 + 0 ≤ _), (by decide : 0 + 0 ≤ _)⟩)
          dsimp only [Pt.U, Pt.locs, Pt.cells, Pt.slots] at X55 l55 y55 z55 st55 hQ55
          subst l55 y55 z55
          obtain ⟨hv55, N55q, e55⟩ := hQ55
          have N55 := Fr.app N0 N55q
          have hw55 : v55 = some (.int (1 : Int32)) := hv55.trans (by rw [if_neg n_SINGLE_INSTANCE_SINGLE_TASK, if_pos rfl])
          subst hw55
          obtain ⟨cq56, kq56, q56a, q56b, q56c⟩ := isOf hZ e55 E_SINGLE_INSTANCE
          obtain ⟨v56, _, ⟨T56, L56, k56, n56⟩, -, X56, ⟨Lc56, hQ56, l56, y56, z56⟩, st56⟩ := X55.virtualBack hx (y := (⟨"com/example/screen_stack_runtime/screenstackruntime/model/LaunchMode", "keepsOneInstance", "()Z"⟩ : MethodName)) (z := (⟨"com/example/screen_stack_runtime/screenstackruntime/model/LaunchMode", "keepsOneInstance", "()Z"⟩ : MethodName)) hown (mvT hZ (hw _ (List.mem_of_getElem? (i := 15) rfl))) (mvT hZ (hw _ (List.mem_of_getElem? (i := 16) rfl))) (notFace_of_selects (args := #[]) (mvT hZ (hw _ (List.mem_of_getElem? (i := 18) rfl)))) (mvT hZ (hw _ (List.mem_of_getElem? (i := 18) rfl))) (mvT hZ (hw _ (List.mem_of_getElem? (i := 17) rfl))) (by decide) (backOf (W := 0) (rm_2 l Z a0 hw [] w_SINGLE_INSTANCE w_SINGLE_TASK w_SINGLE_INSTANCE h0 n0 Z0 S_SINGLE_TASK S_SINGLE_INSTANCE) hZ (hw _ (List.mem_of_getElem? (i := 19) rfl)) (hw _ (List.mem_of_getElem? (i := 2) rfl)) (by decide) (by decide)) q56a q56c (g := (mkF m 75 #[.val (.int k0), .val (.int ((k0 &&& (2147483647 : Int32)) % (5 : Int32))), .val (.ref w_SINGLE_INSTANCE), .val (.int (1 : Int32)), .val (.int (1 : Int32)), .unset] [(.ref w_SINGLE_INSTANCE)])) rfl (by rw [hml]; rfl) (Steps.refl _) (argsL := []) (rest := []) (lenOf pd_0 rfl) rfl (by show 2 * 0 + _ ≤ _; exact Nat.le_of_eq rfl) (hb hby at_75) (fun _ _ => ⟨rfl, e55, (by decide : 0 + 0 ≤ _), (by decide : 0 + 0 ≤ _)⟩)
          dsimp only [Pt.U, Pt.locs, Pt.cells, Pt.slots] at X56 l56 y56 z56 st56 hQ56
          subst l56 y56 z56
          obtain ⟨hv56, N56q, e56⟩ := hQ56
          have N56 := Fr.app N55 N56q
          have hw56 : v56 = some (.int (1 : Int32)) := hv56.trans (by rw [if_neg n_SINGLE_INSTANCE_SINGLE_TASK, if_pos rfl])
          subst hw56
          have pre57 : ∀ t_, Steps p.tables e below (T56.setTop (mkF m 113 #[.val (.int k0), .val (.int ((k0 &&& (2147483647 : Int32)) % (5 : Int32))), .val (.ref w_SINGLE_INSTANCE), .val (.int (1 : Int32)), .val (.int (1 : Int32)), .val (.int (1 : Int32))] [(.int (1 : Int32))])) t_ → Steps p.tables e below (s₁.setTop (entryFrame m #[(.int k0)] maxLocals)) t_ := fun t_ k_ => pre52 t_ (by
            show Steps p.tables e below (s₁.setTop (mkF m 50 #[.val (.int k0), .val (.int ((k0 &&& (2147483647 : Int32)) % (5 : Int32))), .unset, .unset, .unset, .unset] [(.int (3 : Int32)), (.int ((k0 &&& (2147483647 : Int32)) % (5 : Int32)))])) _
            refine XS.icmpNo X0.here hx rfl (hb hby at_50) rfl (teq hc50_53).2 ?_
            show Steps p.tables e below (s₁.setTop (mkF m 53 #[.val (.int k0), .val (.int ((k0 &&& (2147483647 : Int32)) % (5 : Int32))), .unset, .unset, .unset, .unset] [])) _
            refine st54 _ ?_
            show Steps p.tables e below (T54.setTop (mkF m 56 #[.val (.int k0), .val (.int ((k0 &&& (2147483647 : Int32)) % (5 : Int32))), .unset, .unset, .unset, .unset] [(.ref w_SINGLE_INSTANCE)])) _
            refine XS.astoreN X54.here hx rfl (hb hby at_56) rfl rfl (l' := #[.val (.int k0), .val (.int ((k0 &&& (2147483647 : Int32)) % (5 : Int32))), .val (.ref w_SINGLE_INSTANCE), .unset, .unset, .unset]) rfl ?_
            show Steps p.tables e below (T54.setTop (mkF m 57 #[.val (.int k0), .val (.int ((k0 &&& (2147483647 : Int32)) % (5 : Int32))), .val (.ref w_SINGLE_INSTANCE), .unset, .unset, .unset] [])) _
            refine XS.iconst X54.here hx rfl (hb hby at_57) ?_
            show Steps p.tables e below (T54.setTop (mkF m 58 #[.val (.int k0), .val (.int ((k0 &&& (2147483647 : Int32)) % (5 : Int32))), .val (.ref w_SINGLE_INSTANCE), .unset, .unset, .unset] [(.int (1 : Int32))])) _
            refine XS.istoreN X54.here hx rfl (hb hby at_58) rfl (l' := #[.val (.int k0), .val (.int ((k0 &&& (2147483647 : Int32)) % (5 : Int32))), .val (.ref w_SINGLE_INSTANCE), .val (.int (1 : Int32)), .unset, .unset]) rfl ?_
            show Steps p.tables e below (T54.setTop (mkF m 59 #[.val (.int k0), .val (.int ((k0 &&& (2147483647 : Int32)) % (5 : Int32))), .val (.ref w_SINGLE_INSTANCE), .val (.int (1 : Int32)), .unset, .unset] [])) _
            refine XS.goto X54.here hx rfl (pc0 := 59) (pc' := 68) rfl (hb hby at_59) (by decide) (by decide) ?_
            show Steps p.tables e below (T54.setTop (mkF m 68 #[.val (.int k0), .val (.int ((k0 &&& (2147483647 : Int32)) % (5 : Int32))), .val (.ref w_SINGLE_INSTANCE), .val (.int (1 : Int32)), .unset, .unset] [])) _
            refine XS.aloadN X54.here hx rfl (hb hby at_68) rfl rfl ?_
            show Steps p.tables e below (T54.setTop (mkF m 69 #[.val (.int k0), .val (.int ((k0 &&& (2147483647 : Int32)) % (5 : Int32))), .val (.ref w_SINGLE_INSTANCE), .val (.int (1 : Int32)), .unset, .unset] [(.ref w_SINGLE_INSTANCE)])) _
            refine st55.trans ?_
            show Steps p.tables e below (T55.setTop (mkF m 72 #[.val (.int k0), .val (.int ((k0 &&& (2147483647 : Int32)) % (5 : Int32))), .val (.ref w_SINGLE_INSTANCE), .val (.int (1 : Int32)), .unset, .unset] [(.int (1 : Int32))])) _
            refine XS.istore X55.here hx rfl (hb hby at_72) rfl (l' := #[.val (.int k0), .val (.int ((k0 &&& (2147483647 : Int32)) % (5 : Int32))), .val (.ref w_SINGLE_INSTANCE), .val (.int (1 : Int32)), .val (.int (1 : Int32)), .unset]) rfl ?_
            show Steps p.tables e below (T55.setTop (mkF m 74 #[.val (.int k0), .val (.int ((k0 &&& (2147483647 : Int32)) % (5 : Int32))), .val (.ref w_SINGLE_INSTANCE), .val (.int (1 : Int32)), .val (.int (1 : Int32)), .unset] [])) _
            refine XS.aloadN X55.here hx rfl (hb hby at_74) rfl rfl ?_
            show Steps p.tables e below (T55.setTop (mkF m 75 #[.val (.int k0), .val (.int ((k0 &&& (2147483647 : Int32)) % (5 : Int32))), .val (.ref w_SINGLE_INSTANCE), .val (.int (1 : Int32)), .val (.int (1 : Int32)), .unset] [(.ref w_SINGLE_INSTANCE)])) _
            refine st56.trans ?_
            show Steps p.tables e below (T56.setTop (mkF m 78 #[.val (.int k0), .val (.int ((k0 &&& (2147483647 : Int32)) % (5 : Int32))), .val (.ref w_SINGLE_INSTANCE), .val (.int (1 : Int32)), .val (.int (1 : Int32)), .unset] [(.int (1 : Int32))])) _
            refine XS.ifYes X56.here hx rfl (pc0 := 78) (pc' := 88) rfl (hb hby at_78) rfl ((if0 _ _).trans (feq (by decide : ¬ ((1 : Int32) = (0 : Int32)))).2) (by decide) (by decide) ?_
            show Steps p.tables e below (T56.setTop (mkF m 88 #[.val (.int k0), .val (.int ((k0 &&& (2147483647 : Int32)) % (5 : Int32))), .val (.ref w_SINGLE_INSTANCE), .val (.int (1 : Int32)), .val (.int (1 : Int32)), .unset] [])) _
            refine XS.iconst X56.here hx rfl (hb hby at_88) ?_
            show Steps p.tables e below (T56.setTop (mkF m 89 #[.val (.int k0), .val (.int ((k0 &&& (2147483647 : Int32)) % (5 : Int32))), .val (.ref w_SINGLE_INSTANCE), .val (.int (1 : Int32)), .val (.int (1 : Int32)), .unset] [(.int (1 : Int32))])) _
            refine XS.goto X56.here hx rfl (pc0 := 89) (pc' := 93) rfl (hb hby at_89) (by decide) (by decide) ?_
            show Steps p.tables e below (T56.setTop (mkF m 93 #[.val (.int k0), .val (.int ((k0 &&& (2147483647 : Int32)) % (5 : Int32))), .val (.ref w_SINGLE_INSTANCE), .val (.int (1 : Int32)), .val (.int (1 : Int32)), .unset] [(.int (1 : Int32))])) _
            refine XS.istore X56.here hx rfl (hb hby at_93) rfl (l' := #[.val (.int k0), .val (.int ((k0 &&& (2147483647 : Int32)) % (5 : Int32))), .val (.ref w_SINGLE_INSTANCE), .val (.int (1 : Int32)), .val (.int (1 : Int32)), .val (.int (1 : Int32))]) rfl ?_
            show Steps p.tables e below (T56.setTop (mkF m 95 #[.val (.int k0), .val (.int ((k0 &&& (2147483647 : Int32)) % (5 : Int32))), .val (.ref w_SINGLE_INSTANCE), .val (.int (1 : Int32)), .val (.int (1 : Int32)), .val (.int (1 : Int32))] [])) _
            refine XS.iload X56.here hx rfl (hb hby at_95) rfl ?_
            show Steps p.tables e below (T56.setTop (mkF m 97 #[.val (.int k0), .val (.int ((k0 &&& (2147483647 : Int32)) % (5 : Int32))), .val (.ref w_SINGLE_INSTANCE), .val (.int (1 : Int32)), .val (.int (1 : Int32)), .val (.int (1 : Int32))] [(.int (1 : Int32))])) _
            refine XS.iloadN X56.here hx rfl (hb hby at_97) rfl ?_
            show Steps p.tables e below (T56.setTop (mkF m 98 #[.val (.int k0), .val (.int ((k0 &&& (2147483647 : Int32)) % (5 : Int32))), .val (.ref w_SINGLE_INSTANCE), .val (.int (1 : Int32)), .val (.int (1 : Int32)), .val (.int (1 : Int32))] [(.int (1 : Int32)), (.int (1 : Int32))])) _
            refine XS.icmpNo X56.here hx rfl (hb hby at_98) rfl (teq (by decide : (1 : Int32) = (1 : Int32))).2 ?_
            show Steps p.tables e below (T56.setTop (mkF m 101 #[.val (.int k0), .val (.int ((k0 &&& (2147483647 : Int32)) % (5 : Int32))), .val (.ref w_SINGLE_INSTANCE), .val (.int (1 : Int32)), .val (.int (1 : Int32)), .val (.int (1 : Int32))] [])) _
            refine XS.iload X56.here hx rfl (hb hby at_101) rfl ?_
            show Steps p.tables e below (T56.setTop (mkF m 103 #[.val (.int k0), .val (.int ((k0 &&& (2147483647 : Int32)) % (5 : Int32))), .val (.ref w_SINGLE_INSTANCE), .val (.int (1 : Int32)), .val (.int (1 : Int32)), .val (.int (1 : Int32))] [(.int (1 : Int32))])) _
            refine XS.iload X56.here hx rfl (hb hby at_103) rfl ?_
            show Steps p.tables e below (T56.setTop (mkF m 105 #[.val (.int k0), .val (.int ((k0 &&& (2147483647 : Int32)) % (5 : Int32))), .val (.ref w_SINGLE_INSTANCE), .val (.int (1 : Int32)), .val (.int (1 : Int32)), .val (.int (1 : Int32))] [(.int (1 : Int32)), (.int (1 : Int32))])) _
            refine XS.icmpNo X56.here hx rfl (hb hby at_105) rfl (teq (by decide : (1 : Int32) = (1 : Int32))).2 ?_
            show Steps p.tables e below (T56.setTop (mkF m 108 #[.val (.int k0), .val (.int ((k0 &&& (2147483647 : Int32)) % (5 : Int32))), .val (.ref w_SINGLE_INSTANCE), .val (.int (1 : Int32)), .val (.int (1 : Int32)), .val (.int (1 : Int32))] [])) _
            refine XS.iconst X56.here hx rfl (hb hby at_108) ?_
            show Steps p.tables e below (T56.setTop (mkF m 109 #[.val (.int k0), .val (.int ((k0 &&& (2147483647 : Int32)) % (5 : Int32))), .val (.ref w_SINGLE_INSTANCE), .val (.int (1 : Int32)), .val (.int (1 : Int32)), .val (.int (1 : Int32))] [(.int (1 : Int32))])) _
            refine XS.goto X56.here hx rfl (pc0 := 109) (pc' := 113) rfl (hb hby at_109) (by decide) (by decide) ?_
            show Steps p.tables e below (T56.setTop (mkF m 113 #[.val (.int k0), .val (.int ((k0 &&& (2147483647 : Int32)) % (5 : Int32))), .val (.ref w_SINGLE_INSTANCE), .val (.int (1 : Int32)), .val (.int (1 : Int32)), .val (.int (1 : Int32))] [(.int (1 : Int32))])) _
            exact k_)
          obtain ⟨fs, hr, hrun, hended, hW, hsame⟩ := X56.leave (v := some (.int (1 : Int32))) (fun h => by rw [Bd.returns] at h; cases h)
          refine ⟨_, _, pre57 _ ?_, hrun, hended, _, _, rfl, ?_, ⟨_, rfl⟩, hW, hsame.mono (by decide) (by decide)⟩
          · show Steps p.tables e below (T56.setTop (mkF m 113 #[.val (.int k0), .val (.int ((k0 &&& (2147483647 : Int32)) % (5 : Int32))), .val (.ref w_SINGLE_INSTANCE), .val (.int (1 : Int32)), .val (.int (1 : Int32)), .val (.int (1 : Int32))] [(.int (1 : Int32))])) _
            exact retN X56 hx (t := .boolean) Bd.returns (by simp) (hb hby at_113) hr
          · show Q_0 Z k0 w_STANDARD w_SINGLE_TASK w_SINGLE_INSTANCE w_SINGLE_INSTANCE_PER_TASK w_SINGLE_TOP h0 n0 _ T56.heap _
            rw [e56]
            exact ⟨rfl, N56⟩
        · obtain ⟨T58, X58, e58, st58⟩ := getS2 X0 hx hZ hown (host := "") (Or.inl (hw _ (List.mem_of_getElem? (i := 28) rfl))) Via.refl e0 S_SINGLE_INSTANCE_PER_TASK (g := (mkF m 62 #[.val (.int k0), .val (.int ((k0 &&& (2147483647 : Int32)) % (5 : Int32))), .unset, .unset, .unset, .unset] [])) rfl (hb hby at_62)
          obtain ⟨cq59, kq59, q59a, q59b, q59c⟩ := isOf hZ e58 E_SINGLE_INSTANCE_PER_TASK
          obtain ⟨v59, _, ⟨T59, L59, k59, n59⟩, -, X59, ⟨Lc59, hQ59, l59, y59, z59⟩, st59⟩ := X58.virtualBack hx (y := (⟨"com/example/screen_stack_runtime/screenstackruntime/model/LaunchMode", "reusesRunningInstance", "()Z"⟩ : MethodName)) (z := (⟨"com/example/screen_stack_runtime/screenstackruntime/model/LaunchMode", "reusesRunningInstance", "()Z"⟩ : MethodName)) hown (mvT hZ (hw _ (List.mem_of_getElem? (i := 4) rfl))) (mvT hZ (hw _ (List.mem_of_getElem? (i := 5) rfl))) (notFace_of_selects (args := #[]) (mvT hZ (hw _ (List.mem_of_getElem? (i := 7) rfl)))) (mvT hZ (hw _ (List.mem_of_getElem? (i := 7) rfl))) (mvT hZ (hw _ (List.mem_of_getElem? (i := 6) rfl))) (by decide) (backOf (W := 0) (rm_1 l Z a0 hw [] w_SINGLE_INSTANCE_PER_TASK w_SINGLE_TASK w_SINGLE_INSTANCE w_SINGLE_INSTANCE_PER_TASK h0 n0 Z0 S_SINGLE_TASK S_SINGLE_INSTANCE S_SINGLE_INSTANCE_PER_TASK) hZ (hw _ (List.mem_of_getElem? (i := 8) rfl)) (hw _ (List.mem_of_getElem? (i := 2) rfl)) (by decide) (by decide)) q59a q59c (g := (mkF m 69 #[.val (.int k0), .val (.int ((k0 &&& (2147483647 : Int32)) % (5 : Int32))), .val (.ref w_SINGLE_INSTANCE_PER_TASK), .val (.int (1 : Int32)), .unset, .unset] [(.ref w_SINGLE_INSTANCE_PER_TASK)])) rfl (by rw [hml]; rfl) (Steps.refl _) (argsL := []) (rest := []) (lenOf pd_0 rfl) rfl (by show 2 * 0 + _ ≤ _; exact Nat.le_of_eq rfl) (hb hby at_69) (fun _ _ => ⟨rfl, e58, (by decide : 0 + 0 ≤ _), (by decide : 0 + 0 ≤ _)⟩)
          dsimp only [Pt.U, Pt.locs, Pt.cells, Pt.slots] at X59 l59 y59 z59 st59 hQ59
          subst l59 y59 z59
          obtain ⟨hv59, N59q, e59⟩ := hQ59
          have N59 := Fr.app N0 N59q
          have hw59 : v59 = some (.int (1 : Int32)) := hv59.trans (by rw [if_neg n_SINGLE_INSTANCE_PER_TASK_SINGLE_TASK, if_neg n_SINGLE_INSTANCE_PER_TASK_SINGLE_INSTANCE, if_pos rfl])
          subst hw59
          obtain ⟨cq60, kq60, q60a, q60b, q60c⟩ := isOf hZ e59 E_SINGLE_INSTANCE_PER_TASK
          obtain ⟨v60, _, ⟨T60, L60, k60, n60⟩, -, X60, ⟨Lc60, hQ60, l60, y60, z60⟩, st60⟩ := X59.virtualBack hx (y := (⟨"com/example/screen_stack_runtime/screenstackruntime/model/LaunchMode", "keepsOneInstance", "()Z"⟩ : MethodName)) (z := (⟨"com/example/screen_stack_runtime/screenstackruntime/model/LaunchMode", "keepsOneInstance", "()Z"⟩ : MethodName)) hown (mvT hZ (hw _ (List.mem_of_getElem? (i := 15) rfl))) (mvT hZ (hw _ (List.mem_of_getElem? (i := 16) rfl))) (notFace_of_selects (args := #[]) (mvT hZ (hw _ (List.mem_of_getElem? (i := 18) rfl)))) (mvT hZ (hw _ (List.mem_of_getElem? (i := 18) rfl))) (mvT hZ (hw _ (List.mem_of_getElem? (i := 17) rfl))) (by decide) (backOf (W := 0) (rm_2 l Z a0 hw [] w_SINGLE_INSTANCE_PER_TASK w_SINGLE_TASK w_SINGLE_INSTANCE h0 n0 Z0 S_SINGLE_TASK S_SINGLE_INSTANCE) hZ (hw _ (List.mem_of_getElem? (i := 19) rfl)) (hw _ (List.mem_of_getElem? (i := 2) rfl)) (by decide) (by decide)) q60a q60c (g := (mkF m 75 #[.val (.int k0), .val (.int ((k0 &&& (2147483647 : Int32)) % (5 : Int32))), .val (.ref w_SINGLE_INSTANCE_PER_TASK), .val (.int (1 : Int32)), .val (.int (1 : Int32)), .unset] [(.ref w_SINGLE_INSTANCE_PER_TASK)])) rfl (by rw [hml]; rfl) (Steps.refl _) (argsL := []) (rest := []) (lenOf pd_0 rfl) rfl (by show 2 * 0 + _ ≤ _; exact Nat.le_of_eq rfl) (hb hby at_75) (fun _ _ => ⟨rfl, e59, (by decide : 0 + 0 ≤ _), (by decide : 0 + 0 ≤ _)⟩)
          dsimp only [Pt.U, Pt.locs, Pt.cells, Pt.slots] at X60 l60 y60 z60 st60 hQ60
          subst l60 y60 z60
          obtain ⟨hv60, N60q, e60⟩ := hQ60
          have N60 := Fr.app N59 N60q
          have hw60 : v60 = some (.int (0 : Int32)) := hv60.trans (by rw [if_neg n_SINGLE_INSTANCE_PER_TASK_SINGLE_TASK, if_neg n_SINGLE_INSTANCE_PER_TASK_SINGLE_INSTANCE])
          subst hw60
          obtain ⟨cq61, kq61, q61a, q61b, q61c⟩ := isOf hZ e60 E_SINGLE_INSTANCE_PER_TASK
          obtain ⟨v61, _, ⟨T61, L61, k61, n61⟩, -, X61, ⟨Lc61, hQ61, l61, y61, z61⟩, st61⟩ := X60.virtualBack hx (y := (⟨"com/example/screen_stack_runtime/screenstackruntime/model/LaunchMode", "startsAsRoot", "()Z"⟩ : MethodName)) (z := (⟨"com/example/screen_stack_runtime/screenstackruntime/model/LaunchMode", "startsAsRoot", "()Z"⟩ : MethodName)) hown (mvT hZ (hw _ (List.mem_of_getElem? (i := 20) rfl))) (mvT hZ (hw _ (List.mem_of_getElem? (i := 21) rfl))) (notFace_of_selects (args := #[]) (mvT hZ (hw _ (List.mem_of_getElem? (i := 23) rfl)))) (mvT hZ (hw _ (List.mem_of_getElem? (i := 23) rfl))) (mvT hZ (hw _ (List.mem_of_getElem? (i := 22) rfl))) (by decide) (backOf (W := 0) (rm_3 l Z a0 hw [] w_SINGLE_INSTANCE_PER_TASK w_SINGLE_INSTANCE w_SINGLE_INSTANCE_PER_TASK h0 n0 Z0 S_SINGLE_INSTANCE S_SINGLE_INSTANCE_PER_TASK) hZ (hw _ (List.mem_of_getElem? (i := 24) rfl)) (hw _ (List.mem_of_getElem? (i := 2) rfl)) (by decide) (by decide)) q61a q61c (g := (mkF m 82 #[.val (.int k0), .val (.int ((k0 &&& (2147483647 : Int32)) % (5 : Int32))), .val (.ref w_SINGLE_INSTANCE_PER_TASK), .val (.int (1 : Int32)), .val (.int (1 : Int32)), .unset] [(.ref w_SINGLE_INSTANCE_PER_TASK)])) rfl (by rw [hml]; rfl) (Steps.refl _) (argsL := []) (rest := []) (lenOf pd_0 rfl) rfl (by show 2 * 0 + _ ≤ _; exact Nat.le_of_eq rfl) (hb hby at_82) (fun _ _ => ⟨rfl, e60, (by decide : 0 + 0 ≤ _), (by decide : 0 + 0 ≤ _)⟩)
          dsimp only [Pt.U, Pt.locs, Pt.cells, Pt.slots] at X61 l61 y61 z61 st61 hQ61
          subst l61 y61 z61
          obtain ⟨hv61, N61q, e61⟩ := hQ61
          have N61 := Fr.app N60 N61q
          have hw61 : v61 = some (.int (1 : Int32)) := hv61.trans (by rw [if_neg n_SINGLE_INSTANCE_PER_TASK_SINGLE_INSTANCE, if_pos rfl])
          subst hw61
          have pre62 : ∀ t_, Steps p.tables e below (T61.setTop (mkF m 113 #[.val (.int k0), .val (.int ((k0 &&& (2147483647 : Int32)) % (5 : Int32))), .val (.ref w_SINGLE_INSTANCE_PER_TASK), .val (.int (1 : Int32)), .val (.int (1 : Int32)), .val (.int (1 : Int32))] [(.int (1 : Int32))])) t_ → Steps p.tables e below (s₁.setTop (entryFrame m #[(.int k0)] maxLocals)) t_ := fun t_ k_ => pre52 t_ (by
            show Steps p.tables e below (s₁.setTop (mkF m 50 #[.val (.int k0), .val (.int ((k0 &&& (2147483647 : Int32)) % (5 : Int32))), .unset, .unset, .unset, .unset] [(.int (3 : Int32)), (.int ((k0 &&& (2147483647 : Int32)) % (5 : Int32)))])) _
            refine XS.icmpYes X0.here hx rfl (pc0 := 50) (pc' := 62) rfl (hb hby at_50) rfl (feq hc50_53).2 (by decide) (by decide) ?_
            show Steps p.tables e below (s₁.setTop (mkF m 62 #[.val (.int k0), .val (.int ((k0 &&& (2147483647 : Int32)) % (5 : Int32))), .unset, .unset, .unset, .unset] [])) _
            refine st58 _ ?_
            show Steps p.tables e below (T58.setTop (mkF m 65 #[.val (.int k0), .val (.int ((k0 &&& (2147483647 : Int32)) % (5 : Int32))), .unset, .unset, .unset, .unset] [(.ref w_SINGLE_INSTANCE_PER_TASK)])) _
            refine XS.astoreN X58.here hx rfl (hb hby at_65) rfl rfl (l' := #[.val (.int k0), .val (.int ((k0 &&& (2147483647 : Int32)) % (5 : Int32))), .val (.ref w_SINGLE_INSTANCE_PER_TASK), .unset, .unset, .unset]) rfl ?_
            show Steps p.tables e below (T58.setTop (mkF m 66 #[.val (.int k0), .val (.int ((k0 &&& (2147483647 : Int32)) % (5 : Int32))), .val (.ref w_SINGLE_INSTANCE_PER_TASK), .unset, .unset, .unset] [])) _
            refine XS.iconst X58.here hx rfl (hb hby at_66) ?_
            show Steps p.tables e below (T58.setTop (mkF m 67 #[.val (.int k0), .val (.int ((k0 &&& (2147483647 : Int32)) % (5 : Int32))), .val (.ref w_SINGLE_INSTANCE_PER_TASK), .unset, .unset, .unset] [(.int (1 : Int32))])) _
            refine XS.istoreN X58.here hx rfl (hb hby at_67) rfl (l' := #[.val (.int k0), .val (.int ((k0 &&& (2147483647 : Int32)) % (5 : Int32))), .val (.ref w_SINGLE_INSTANCE_PER_TASK), .val (.int (1 : Int32)), .unset, .unset]) rfl ?_
            show Steps p.tables e below (T58.setTop (mkF m 68 #[.val (.int k0), .val (.int ((k0 &&& (2147483647 : Int32)) % (5 : Int32))), .val (.ref w_SINGLE_INSTANCE_PER_TASK), .val (.int (1 : Int32)), .unset, .unset] [])) _
            refine XS.aloadN X58.here hx rfl (hb hby at_68) rfl rfl ?_
            show Steps p.tables e below (T58.setTop (mkF m 69 #[.val (.int k0), .val (.int ((k0 &&& (2147483647 : Int32)) % (5 : Int32))), .val (.ref w_SINGLE_INSTANCE_PER_TASK), .val (.int (1 : Int32)), .unset, .unset] [(.ref w_SINGLE_INSTANCE_PER_TASK)])) _
            refine st59.trans ?_
            show Steps p.tables e below (T59.setTop (mkF m 72 #[.val (.int k0), .val (.int ((k0 &&& (2147483647 : Int32)) % (5 : Int32))), .val (.ref w_SINGLE_INSTANCE_PER_TASK), .val (.int (1 : Int32)), .unset, .unset] [(.int (1 : Int32))])) _
            refine XS.istore X59.here hx rfl (hb hby at_72) rfl (l' := #[.val (.int k0), .val (.int ((k0 &&& (2147483647 : Int32)) % (5 : Int32))), .val (.ref w_SINGLE_INSTANCE_PER_TASK), .val (.int (1 : Int32)), .val (.int (1 : Int32)), .unset]) rfl ?_
            show Steps p.tables e below (T59.setTop (mkF m 74 #[.val (.int k0), .val (.int ((k0 &&& (2147483647 : Int32)) % (5 : Int32))), .val (.ref w_SINGLE_INSTANCE_PER_TASK), .val (.int (1 : Int32)), .val (.int (1 : Int32)), .unset] [])) _
            refine XS.aloadN X59.here hx rfl (hb hby at_74) rfl rfl ?_
            show Steps p.tables e below (T59.setTop (mkF m 75 #[.val (.int k0), .val (.int ((k0 &&& (2147483647 : Int32)) % (5 : Int32))), .val (.ref w_SINGLE_INSTANCE_PER_TASK), .val (.int (1 : Int32)), .val (.int (1 : Int32)), .unset] [(.ref w_SINGLE_INSTANCE_PER_TASK)])) _
            refine st60.trans ?_
            show Steps p.tables e below (T60.setTop (mkF m 78 #[.val (.int k0), .val (.int ((k0 &&& (2147483647 : Int32)) % (5 : Int32))), .val (.ref w_SINGLE_INSTANCE_PER_TASK), .val (.int (1 : Int32)), .val (.int (1 : Int32)), .unset] [(.int (0 : Int32))])) _
            refine XS.ifNo X60.here hx rfl (hb hby at_78) rfl ((if0 _ _).trans (teq (by decide : (0 : Int32) = (0 : Int32))).2) ?_
            show Steps p.tables e below (T60.setTop (mkF m 81 #[.val (.int k0), .val (.int ((k0 &&& (2147483647 : Int32)) % (5 : Int32))), .val (.ref w_SINGLE_INSTANCE_PER_TASK), .val (.int (1 : Int32)), .val (.int (1 : Int32)), .unset] [])) _
            refine XS.aloadN X60.here hx rfl (hb hby at_81) rfl rfl ?_
            show Steps p.tables e below (T60.setTop (mkF m 82 #[.val (.int k0), .val (.int ((k0 &&& (2147483647 : Int32)) % (5 : Int32))), .val (.ref w_SINGLE_INSTANCE_PER_TASK), .val (.int (1 : Int32)), .val (.int (1 : Int32)), .unset] [(.ref w_SINGLE_INSTANCE_PER_TASK)])) _
            refine st61.trans ?_
            show Steps p.tables e below (T61.setTop (mkF m 85 #[.val (.int k0), .val (.int ((k0 &&& (2147483647 : Int32)) % (5 : Int32))), .val (.ref w_SINGLE_INSTANCE_PER_TASK), .val (.int (1 : Int32)), .val (.int (1 : Int32)), .unset] [(.int (1 : Int32))])) _
            refine XS.ifNo X61.here hx rfl (hb hby at_85) rfl ((if0 _ _).trans (feq (by decide : ¬ ((1 : Int32) = (0 : Int32)))).1) ?_
            show Steps p.tables e below (T61.setTop (mkF m 88 #[.val (.int k0), .val (.int ((k0 &&& (2147483647 : Int32)) % (5 : Int32))), .val (.ref w_SINGLE_INSTANCE_PER_TASK), .val (.int (1 : Int32)), .val (.int (1 : Int32)), .unset] [])) _
            refine XS.iconst X61.here hx rfl (hb hby at_88) ?_
            show Steps p.tables e below (T61.setTop (mkF m 89 #[.val (.int k0), .val (.int ((k0 &&& (2147483647 : Int32)) % (5 : Int32))), .val (.ref w_SINGLE_INSTANCE_PER_TASK), .val (.int (1 : Int32)), .val (.int (1 : Int32)), .unset] [(.int (1 : Int32))])) _
            refine XS.goto X61.here hx rfl (pc0 := 89) (pc' := 93) rfl (hb hby at_89) (by decide) (by decide) ?_
            show Steps p.tables e below (T61.setTop (mkF m 93 #[.val (.int k0), .val (.int ((k0 &&& (2147483647 : Int32)) % (5 : Int32))), .val (.ref w_SINGLE_INSTANCE_PER_TASK), .val (.int (1 : Int32)), .val (.int (1 : Int32)), .unset] [(.int (1 : Int32))])) _
            refine XS.istore X61.here hx rfl (hb hby at_93) rfl (l' := #[.val (.int k0), .val (.int ((k0 &&& (2147483647 : Int32)) % (5 : Int32))), .val (.ref w_SINGLE_INSTANCE_PER_TASK), .val (.int (1 : Int32)), .val (.int (1 : Int32)), .val (.int (1 : Int32))]) rfl ?_
            show Steps p.tables e below (T61.setTop (mkF m 95 #[.val (.int k0), .val (.int ((k0 &&& (2147483647 : Int32)) % (5 : Int32))), .val (.ref w_SINGLE_INSTANCE_PER_TASK), .val (.int (1 : Int32)), .val (.int (1 : Int32)), .val (.int (1 : Int32))] [])) _
            refine XS.iload X61.here hx rfl (hb hby at_95) rfl ?_
            show Steps p.tables e below (T61.setTop (mkF m 97 #[.val (.int k0), .val (.int ((k0 &&& (2147483647 : Int32)) % (5 : Int32))), .val (.ref w_SINGLE_INSTANCE_PER_TASK), .val (.int (1 : Int32)), .val (.int (1 : Int32)), .val (.int (1 : Int32))] [(.int (1 : Int32))])) _
            refine XS.iloadN X61.here hx rfl (hb hby at_97) rfl ?_
            show Steps p.tables e below (T61.setTop (mkF m 98 #[.val (.int k0), .val (.int ((k0 &&& (2147483647 : Int32)) % (5 : Int32))), .val (.ref w_SINGLE_INSTANCE_PER_TASK), .val (.int (1 : Int32)), .val (.int (1 : Int32)), .val (.int (1 : Int32))] [(.int (1 : Int32)), (.int (1 : Int32))])) _
            refine XS.icmpNo X61.here hx rfl (hb hby at_98) rfl (teq (by decide : (1 : Int32) = (1 : Int32))).2 ?_
            show Steps p.tables e below (T61.setTop (mkF m 101 #[.val (.int k0), .val (.int ((k0 &&& (2147483647 : Int32)) % (5 : Int32))), .val (.ref w_SINGLE_INSTANCE_PER_TASK), .val (.int (1 : Int32)), .val (.int (1 : Int32)), .val (.int (1 : Int32))] [])) _
            refine XS.iload X61.here hx rfl (hb hby at_101) rfl ?_
            show Steps p.tables e below (T61.setTop (mkF m 103 #[.val (.int k0), .val (.int ((k0 &&& (2147483647 : Int32)) % (5 : Int32))), .val (.ref w_SINGLE_INSTANCE_PER_TASK), .val (.int (1 : Int32)), .val (.int (1 : Int32)), .val (.int (1 : Int32))] [(.int (1 : Int32))])) _
            refine XS.iload X61.here hx rfl (hb hby at_103) rfl ?_
            show Steps p.tables e below (T61.setTop (mkF m 105 #[.val (.int k0), .val (.int ((k0 &&& (2147483647 : Int32)) % (5 : Int32))), .val (.ref w_SINGLE_INSTANCE_PER_TASK), .val (.int (1 : Int32)), .val (.int (1 : Int32)), .val (.int (1 : Int32))] [(.int (1 : Int32)), (.int (1 : Int32))])) _
            refine XS.icmpNo X61.here hx rfl (hb hby at_105) rfl (teq (by decide : (1 : Int32) = (1 : Int32))).2 ?_
            show Steps p.tables e below (T61.setTop (mkF m 108 #[.val (.int k0), .val (.int ((k0 &&& (2147483647 : Int32)) % (5 : Int32))), .val (.ref w_SINGLE_INSTANCE_PER_TASK), .val (.int (1 : Int32)), .val (.int (1 : Int32)), .val (.int (1 : Int32))] [])) _
            refine XS.iconst X61.here hx rfl (hb hby at_108) ?_
            show Steps p.tables e below (T61.setTop (mkF m 109 #[.val (.int k0), .val (.int ((k0 &&& (2147483647 : Int32)) % (5 : Int32))), .val (.ref w_SINGLE_INSTANCE_PER_TASK), .val (.int (1 : Int32)), .val (.int (1 : Int32)), .val (.int (1 : Int32))] [(.int (1 : Int32))])) _
            refine XS.goto X61.here hx rfl (pc0 := 109) (pc' := 113) rfl (hb hby at_109) (by decide) (by decide) ?_
            show Steps p.tables e below (T61.setTop (mkF m 113 #[.val (.int k0), .val (.int ((k0 &&& (2147483647 : Int32)) % (5 : Int32))), .val (.ref w_SINGLE_INSTANCE_PER_TASK), .val (.int (1 : Int32)), .val (.int (1 : Int32)), .val (.int (1 : Int32))] [(.int (1 : Int32))])) _
            exact k_)
          obtain ⟨fs, hr, hrun, hended, hW, hsame⟩ := X61.leave (v := some (.int (1 : Int32))) (fun h => by rw [Bd.returns] at h; cases h)
          refine ⟨_, _, pre62 _ ?_, hrun, hended, _, _, rfl, ?_, ⟨_, rfl⟩, hW, hsame.mono (by decide) (by decide)⟩
          · show Steps p.tables e below (T61.setTop (mkF m 113 #[.val (.int k0), .val (.int ((k0 &&& (2147483647 : Int32)) % (5 : Int32))), .val (.ref w_SINGLE_INSTANCE_PER_TASK), .val (.int (1 : Int32)), .val (.int (1 : Int32)), .val (.int (1 : Int32))] [(.int (1 : Int32))])) _
            exact retN X61 hx (t := .boolean) Bd.returns (by simp) (hb hby at_113) hr
          · show Q_0 Z k0 w_STANDARD w_SINGLE_TASK w_SINGLE_INSTANCE w_SINGLE_INSTANCE_PER_TASK w_SINGLE_TOP h0 n0 _ T61.heap _
            rw [e61]
            exact ⟨rfl, N61⟩
set_option maxRecDepth 65536 in
set_option maxHeartbeats 40000000 in
theorem comes_1 {Post : Tables → Env → Array Value → State → Outcome → State → Prop} (hpost : ∀ tb e args s v u, (limb_1_1.after args s (.returned v) u = true ∧ limb_1_2.after args s (.returned v) u = true ∧ True) → FrameEnd s (.returned v) u (Jvm.fieldLocs frame_1_writes args s ++ Jvm.arrayLocs frame_1_arrays args s ++ Jvm.staticLocs frame_1_statics s) 0 0 → Post tb e args s (.returned v) u) :
    ArmFor flags0 classFile x code maxLocals ret World_1 tables_1 room_1 Calls_1 rest_1 Pre_1 Post := by
  intro l hfl _ _ p e ha hc hk s m args below hf hA hF happ hP
  obtain ⟨hcalls, hrest, hpre⟩ := hP
  obtain ⟨-, -, -, hnamed, -, -, -, hat⟩ := (Spec.applies_iff hf).mp happ
  obtain ⟨hg, hn⟩ := and_e (Cond.before_iff.mp (show (Jvm.Cond.and given_1 narrow_1).before args s = true from hpre))
  obtain ⟨hcount, hg0⟩ := and_e hg
  obtain ⟨w0, rfl⟩ : ∃ w0 : Value, args = #[w0] := by
    have hs : args.size = 1 := by simpa [Cond.value, given_1] using hcount
    obtain ⟨L⟩ := args
    match L, hs with
    | [w0], _ => exact ⟨w0, rfl⟩
  have hw := fun d (hd : d ∈ tables_1) => atoms_spec (ws := Jvm.Cond.code x code maxLocals ret :: tables_1) hat d (List.mem_cons_of_mem _ hd)
  have hfit : Fit s := fun {y c} hc i hi => by
    obtain ⟨ha, rfl⟩ := Array.getElem?_eq_some_iff.mp hc
    have q := List.all_eq_true.mp ((Array.all_eq_true_iff_forall_mem.mp hF) _ (Array.getElem_mem ha)) i (List.mem_range.mpr hi)
    simpa [Array.getElem?_eq_getElem hi] using q
  obtain ⟨i0, ei0⟩ := is_v hg0
  obtain rfl : w0 = (.int i0) := Option.some.inj ei0
  obtain ⟨g0, hn_0⟩ := and_e hn
  obtain ⟨g1, hn_1⟩ := and_e hn_0
  obtain ⟨g2, hn_2⟩ := and_e hn_1
  obtain ⟨g3, hn_3⟩ := and_e hn_2
  obtain ⟨g4, hn_4⟩ := and_e hn_3
  obtain ⟨g5, hn_5⟩ := and_e hn_4
  obtain ⟨g6, hn_6⟩ := and_e hn_5
  obtain ⟨g7, hn_7⟩ := and_e hn_6
  obtain ⟨g8, hn_8⟩ := and_e hn_7
  have g9 := hn_8
  obtain ⟨w_STANDARD, ev_STANDARD, S_STANDARD, E_STANDARD⟩ := own_sta (hw _ (List.mem_of_getElem? (i := 2) rfl)) (hw _ (List.mem_of_getElem? (i := 3) rfl)) g0
  obtain ⟨w_SINGLE_TASK, ev_SINGLE_TASK, S_SINGLE_TASK, E_SINGLE_TASK⟩ := own_sta (hw _ (List.mem_of_getElem? (i := 2) rfl)) (hw _ (List.mem_of_getElem? (i := 10) rfl)) g1
  obtain ⟨w_SINGLE_INSTANCE, ev_SINGLE_INSTANCE, S_SINGLE_INSTANCE, E_SINGLE_INSTANCE⟩ := own_sta (hw _ (List.mem_of_getElem? (i := 2) rfl)) (hw _ (List.mem_of_getElem? (i := 12) rfl)) g4
  obtain ⟨w_SINGLE_INSTANCE_PER_TASK, ev_SINGLE_INSTANCE_PER_TASK, S_SINGLE_INSTANCE_PER_TASK, E_SINGLE_INSTANCE_PER_TASK⟩ := own_sta (hw _ (List.mem_of_getElem? (i := 2) rfl)) (hw _ (List.mem_of_getElem? (i := 14) rfl)) g6
  obtain ⟨w_SINGLE_TOP, ev_SINGLE_TOP, S_SINGLE_TOP, E_SINGLE_TOP⟩ := own_sta (hw _ (List.mem_of_getElem? (i := 2) rfl)) (hw _ (List.mem_of_getElem? (i := 27) rfl)) g8
  have F_STANDARD_ordinal : Fld s s.heap w_STANDARD "java/lang/Enum" "ordinal" "I" (.int (0 : Int32)) := own_fld ev_STANDARD g2
  have F_SINGLE_TASK_ordinal : Fld s s.heap w_SINGLE_TASK "java/lang/Enum" "ordinal" "I" (.int (2 : Int32)) := own_fld ev_SINGLE_TASK g3
  have F_SINGLE_INSTANCE_ordinal : Fld s s.heap w_SINGLE_INSTANCE "java/lang/Enum" "ordinal" "I" (.int (3 : Int32)) := own_fld ev_SINGLE_INSTANCE g5
  have F_SINGLE_INSTANCE_PER_TASK_ordinal : Fld s s.heap w_SINGLE_INSTANCE_PER_TASK "java/lang/Enum" "ordinal" "I" (.int (4 : Int32)) := own_fld ev_SINGLE_INSTANCE_PER_TASK g7
  have F_SINGLE_TOP_ordinal : Fld s s.heap w_SINGLE_TOP "java/lang/Enum" "ordinal" "I" (.int (1 : Int32)) := own_fld ev_SINGLE_TOP g9
  obtain ⟨n, o, h1, h2, h3, _, L, rfl, ⟨rfl, N⟩, hq⟩ := rm_0 l s _ hw tables_1 i0 w_STANDARD w_SINGLE_TASK w_SINGLE_INSTANCE w_SINGLE_INSTANCE_PER_TASK w_SINGLE_TOP s.heap s.heap.size (Nat.le_refl _) S_STANDARD S_SINGLE_TASK S_SINGLE_INSTANCE S_SINGLE_INSTANCE_PER_TASK S_SINGLE_TOP E_STANDARD E_SINGLE_TASK E_SINGLE_INSTANCE E_SINGLE_INSTANCE_PER_TASK E_SINGLE_TOP (Fld.ne F_STANDARD_ordinal F_SINGLE_TASK_ordinal (by decide)) (Fld.ne F_STANDARD_ordinal F_SINGLE_INSTANCE_ordinal (by decide)) (Fld.ne F_STANDARD_ordinal F_SINGLE_INSTANCE_PER_TASK_ordinal (by decide)) (Fld.ne F_SINGLE_INSTANCE_ordinal F_SINGLE_TASK_ordinal (by decide)) (Fld.ne F_SINGLE_INSTANCE_PER_TASK_ordinal F_SINGLE_TASK_ordinal (by decide)) (Fld.ne F_SINGLE_INSTANCE_PER_TASK_ordinal F_SINGLE_INSTANCE_ordinal (by decide)) (Fld.ne F_SINGLE_TOP_ordinal F_SINGLE_TASK_ordinal (by decide)) (Fld.ne F_SINGLE_TOP_ordinal F_SINGLE_INSTANCE_ordinal (by decide)) (Fld.ne F_SINGLE_TOP_ordinal F_SINGLE_INSTANCE_PER_TASK_ordinal (by decide)) (Fld.ne F_SINGLE_TASK_ordinal F_SINGLE_INSTANCE_ordinal (by decide)) (Fld.ne F_SINGLE_TASK_ordinal F_SINGLE_INSTANCE_PER_TASK_ordinal (by decide)) p e ha hc hk s m _ below hf ((Spec.applies_iff_loose hf).mp happ).1 ⟨rfl, State.Warmed39.refl s, rfl⟩ trivial
  refine ⟨n, _, h1, h2, h3, hpost _ _ _ _ _ _ ⟨Cond.after_iff.mpr rfl, Cond.after_iff.mpr (eq_i res_at (Term.int_eval (1)) rfl), trivial⟩ ⟨hq.1, hq.2.1, (hq.2.2.sift fun y hy => Or.inr (N y hy)).mono (by decide) (by decide)⟩⟩
theorem main_1_1 : Claimed_1_1 := comes_1 fun _ _ _ _ _ _ h hF => ⟨h.1, hF⟩
theorem main_1_2 : Claimed_1_2 := comes_1 fun _ _ _ _ _ _ h hF => ⟨h.2.1, hF⟩
end Jvm.Pilot.@@N@@
namespace Jvm.Pilot.@@N@@
open Jvm Jvm.ClassFile Sem Op Lib Jvm.Free Jvm.Stand Jvm.Pilot.@@N@@.Jvm.D
/-! MADE BY PROGRAM (witnessworld.py) out of the Statement's table words and the real class files: 12 classes; the members and pool entries that the words name. The judged class is class 1, her method 1. -/
namespace start1
open Jvm.ClassFile
def u (s : String) : CpInfo := .utf8 (stringToUtf16 s)
/-- a pool by its gaps: so many unusable entries, then the entry; so many at the end -/
def gap : Nat → List CpInfo → List CpInfo
  | 0, r => r
  | n + 1, r => .unusable :: gap n r
def poolList (es : List (Nat × CpInfo)) (last : Nat) : List CpInfo := es.foldr (fun e r => gap e.1 (e.2 :: r)) (gap last [])
def pool (es : List (Nat × CpInfo)) (last : Nat) : Array CpInfo := ⟨poolList es last⟩
def fileOf (pool : Array CpInfo) (this : Nat) (attrs : Array Attribute := #[]) (ms : Array MethodInfo := #[]) (fl : Nat := 33) (sup : Nat := 0) (ifs : Array Nat := #[]) (fds : Array FieldInfo := #[]) : ClassFile where
  minorVersion := 0
  majorVersion := 65
  constantPool := pool
  accessFlags := fl
  thisClass := this
  superClass := sup
  interfaces := ifs
  fields := fds
  methods := ms
  attributes := attrs
def plain (name : String) (sup : Option ClassId) : Class where
  name := name
  kind := .ordinary
  loader := none
  accessFlags := 33
  super := sup
  interfaces := #[]
  cf := none
  fields := #[]
  methods := #[]
  instanceTypes := #[]
  staticTypes := #[]
  resolved := #[]
  callSites := []
  init := .initialized
  statics := none
  mirror := none

def pool0 : Array CpInfo := pool [(5, u "<init>"), (0, u "()V"), (1, .class_ 10), (1, u "java/lang/Object")] 113

def k0m0 : Method := { name := "<init>", desc := "()V", sig := { parameters := [], returnType := none }, accessFlags := 1, code := none }
/-- java/lang/Object -/
def k0 : Class := { plain "java/lang/Object" none with
  accessFlags := 33
  interfaces := #[]
  cf := some (fileOf pool0 8 #[] #[{ accessFlags := 1, nameIndex := 5, descriptorIndex := 6, attributes := #[] }] 33 0 #[] #[])
  fields := #[]
  methods := #[k0m0]
  instanceTypes := #[]
  staticTypes := #[]
  resolved := Array.replicate 124 none
  statics := none }

def pool1 : Array CpInfo := pool [(2, .class_ 4), (1, u "java/lang/Object"), (0, u "<init>"), (0, u "()V"), (0, .integer 2147483647), (0, .fieldref 9 10), (0, .class_ 11), (0, .nameAndType 12 13), (0, u "com/example/screen_stack_runtime/screenstackruntime/model/LaunchMode"), (0, u "STANDARD"), (0, u "Lcom/example/screen_stack_runtime/screenstackruntime/model/LaunchMode;"), (0, .fieldref 9 15), (0, .nameAndType 16 13), (0, u "SINGLE_TOP"), (0, .fieldref 9 18), (0, .nameAndType 19 13), (0, u "SINGLE_TASK"), (0, .fieldref 9 21), (0, .nameAndType 22 13), (0, u "SINGLE_INSTANCE"), (0, .fieldref 9 24), (0, .nameAndType 25 13), (0, u "SINGLE_INSTANCE_PER_TASK"), (0, .methodref 9 27), (0, .nameAndType 28 29), (0, u "reusesRunningInstance"), (0, u "()Z"), (0, .methodref 9 31), (0, .nameAndType 32 29), (0, u "keepsOneInstance"), (0, .methodref 9 34), (0, .nameAndType 35 29), (0, u "startsAsRoot"), (0, .class_ 37), (0, u "com/example/screen_stack_runtime/screenstackruntime/model/LaunchModeReusesRunningInstancePinLaw"), (2, u "law"), (0, u "(I)Z")] 3

def k1m0 : Method := { name := "<init>", desc := "()V", sig := { parameters := [], returnType := none }, accessFlags := 1, code := none }
def k1c1 : Code := { maxStack := 2, maxLocals := 6, code := code, exceptionTable := #[], attributes := #[] }
def k1m1 : Method := { name := "law", desc := "(I)Z", sig := { parameters := [.int], returnType := some .boolean }, accessFlags := 9, code := some k1c1 }
/-- com/example/screen_stack_runtime/screenstackruntime/model/LaunchModeReusesRunningInstancePinLaw -/
def k1 : Class := { plain "com/example/screen_stack_runtime/screenstackruntime/model/LaunchModeReusesRunningInstancePinLaw" (some 0) with
  accessFlags := 49
  interfaces := #[]
  cf := some (fileOf pool1 36 #[] #[{ accessFlags := 1, nameIndex := 5, descriptorIndex := 6, attributes := #[] }, { accessFlags := 9, nameIndex := 40, descriptorIndex := 41, attributes := #[] }] 49 2 #[] #[])
  fields := #[]
  methods := #[k1m0, k1m1]
  instanceTypes := #[]
  staticTypes := #[]
  resolved := Array.replicate 45 none
  statics := none }

def pool2 : Array CpInfo := pool [(1, .class_ 2), (0, u "java/lang/constant/Constable"), (0, .class_ 4), (0, u "java/lang/Object")] 6

/-- java/lang/constant/Constable -/
def k2 : Class := { plain "java/lang/constant/Constable" (some 0) with
  accessFlags := 1537
  interfaces := #[]
  cf := some (fileOf pool2 1 #[] #[] 1537 3 #[] #[])
  fields := #[]
  methods := #[]
  instanceTypes := #[]
  staticTypes := #[]
  resolved := Array.replicate 11 none
  statics := none }

def pool3 : Array CpInfo := pool [(1, .class_ 2), (0, u "java/lang/Comparable"), (0, .class_ 4), (0, u "java/lang/Object")] 7

/-- java/lang/Comparable -/
def k3 : Class := { plain "java/lang/Comparable" (some 0) with
  accessFlags := 1537
  interfaces := #[]
  cf := some (fileOf pool3 1 #[] #[] 1537 3 #[] #[])
  fields := #[]
  methods := #[]
  instanceTypes := #[]
  staticTypes := #[]
  resolved := Array.replicate 12 none
  statics := none }

def pool4 : Array CpInfo := pool [(1, .class_ 2), (0, u "java/io/Serializable"), (0, .class_ 4), (0, u "java/lang/Object")] 2

/-- java/io/Serializable -/
def k4 : Class := { plain "java/io/Serializable" (some 0) with
  accessFlags := 1537
  interfaces := #[]
  cf := some (fileOf pool4 1 #[] #[] 1537 3 #[] #[])
  fields := #[]
  methods := #[]
  instanceTypes := #[]
  staticTypes := #[]
  resolved := Array.replicate 7 none
  statics := none }

def pool5 : Array CpInfo := pool [(2, .class_ 4), (1, u "java/lang/Enum"), (0, u "name"), (0, u "Ljava/lang/String;"), (2, u "ordinal"), (0, u "I"), (1, .class_ 14), (1, u "java/lang/Object"), (4, u "hash"), (86, .class_ 108), (1, u "java/lang/Enum$EnumDesc"), (2, .class_ 112), (0, u "java/lang/constant/Constable"), (0, .class_ 114), (0, u "java/lang/Comparable"), (0, .class_ 116), (0, u "java/io/Serializable")] 87

/-- java/lang/Enum -/
def k5 : Class := { plain "java/lang/Enum" (some 0) with
  accessFlags := 1057
  interfaces := #[2, 3, 4]
  cf := some (fileOf pool5 2 #[.nestMembers #[106]] #[] 1057 12 #[111, 113, 115] #[{ accessFlags := 18, nameIndex := 5, descriptorIndex := 6, attributes := #[] }, { accessFlags := 18, nameIndex := 9, descriptorIndex := 10, attributes := #[] }, { accessFlags := 2, nameIndex := 19, descriptorIndex := 10, attributes := #[] }])
  fields := #[{ name := "name", type := (.object "java/lang/String"), accessFlags := 18, slot := 0, constantValue := 0 }, { name := "ordinal", type := .int, accessFlags := 18, slot := 1, constantValue := 0 }, { name := "hash", type := .int, accessFlags := 2, slot := 2, constantValue := 0 }]
  methods := #[]
  instanceTypes := #[(.object "java/lang/String"), .int, .int]
  staticTypes := #[]
  resolved := Array.replicate 204 none
  statics := none }

def pool6 : Array CpInfo := pool [(1, .class_ 2), (0, u "com/example/screen_stack_runtime/screenstackruntime/model/LaunchMode"), (2, u "STANDARD"), (0, u "Lcom/example/screen_stack_runtime/screenstackruntime/model/LaunchMode;"), (2, u "SINGLE_TOP"), (0, .fieldref 1 11), (0, .nameAndType 12 6), (0, u "SINGLE_TASK"), (0, .fieldref 1 14), (0, .nameAndType 15 6), (0, u "SINGLE_INSTANCE"), (0, .fieldref 1 17), (0, .nameAndType 18 6), (0, u "SINGLE_INSTANCE_PER_TASK"), (2, u "$VALUES"), (0, u "[Lcom/example/screen_stack_runtime/screenstackruntime/model/LaunchMode;"), (6, .class_ 31), (1, u "java/lang/Enum"), (8, u "manifestValue"), (0, u "Ljava/lang/String;"), (81, u "keepsOneInstance"), (0, u "()Z"), (1, u "reusesRunningInstance"), (0, u "startsAsRoot")] 36

def k6c0 : Code := { maxStack := 2, maxLocals := 1, code := prog_96_method_4_code, exceptionTable := #[], attributes := #[] }
def k6m0 : Method := { name := "keepsOneInstance", desc := "()Z", sig := { parameters := [], returnType := some .boolean }, accessFlags := 1, code := some k6c0 }
def k6c1 : Code := { maxStack := 2, maxLocals := 1, code := prog_96_method_5_code, exceptionTable := #[], attributes := #[] }
def k6m1 : Method := { name := "reusesRunningInstance", desc := "()Z", sig := { parameters := [], returnType := some .boolean }, accessFlags := 1, code := some k6c1 }
def k6c2 : Code := { maxStack := 2, maxLocals := 1, code := prog_96_method_6_code, exceptionTable := #[], attributes := #[] }
def k6m2 : Method := { name := "startsAsRoot", desc := "()Z", sig := { parameters := [], returnType := some .boolean }, accessFlags := 1, code := some k6c2 }
/-- com/example/screen_stack_runtime/screenstackruntime/model/LaunchMode -/
def k6 : Class := { plain "com/example/screen_stack_runtime/screenstackruntime/model/LaunchMode" (some 5) with
  accessFlags := 16433
  interfaces := #[]
  cf := some (fileOf pool6 1 #[] #[{ accessFlags := 1, nameIndex := 123, descriptorIndex := 124, attributes := #[] }, { accessFlags := 1, nameIndex := 126, descriptorIndex := 124, attributes := #[] }, { accessFlags := 1, nameIndex := 127, descriptorIndex := 124, attributes := #[] }] 16433 29 #[] #[{ accessFlags := 16409, nameIndex := 5, descriptorIndex := 6, attributes := #[] }, { accessFlags := 16409, nameIndex := 9, descriptorIndex := 6, attributes := #[] }, { accessFlags := 16409, nameIndex := 12, descriptorIndex := 6, attributes := #[] }, { accessFlags := 16409, nameIndex := 15, descriptorIndex := 6, attributes := #[] }, { accessFlags := 16409, nameIndex := 18, descriptorIndex := 6, attributes := #[] }, { accessFlags := 18, nameIndex := 40, descriptorIndex := 41, attributes := #[] }, { accessFlags := 4122, nameIndex := 21, descriptorIndex := 22, attributes := #[] }])
  fields := #[{ name := "STANDARD", type := (.object "com/example/screen_stack_runtime/screenstackruntime/model/LaunchMode"), accessFlags := 16409, slot := 0, constantValue := 0 }, { name := "SINGLE_TOP", type := (.object "com/example/screen_stack_runtime/screenstackruntime/model/LaunchMode"), accessFlags := 16409, slot := 1, constantValue := 0 }, { name := "SINGLE_TASK", type := (.object "com/example/screen_stack_runtime/screenstackruntime/model/LaunchMode"), accessFlags := 16409, slot := 2, constantValue := 0 }, { name := "SINGLE_INSTANCE", type := (.object "com/example/screen_stack_runtime/screenstackruntime/model/LaunchMode"), accessFlags := 16409, slot := 3, constantValue := 0 }, { name := "SINGLE_INSTANCE_PER_TASK", type := (.object "com/example/screen_stack_runtime/screenstackruntime/model/LaunchMode"), accessFlags := 16409, slot := 4, constantValue := 0 }, { name := "manifestValue", type := (.object "java/lang/String"), accessFlags := 18, slot := 3, constantValue := 0 }, { name := "$VALUES", type := (.array (.object "com/example/screen_stack_runtime/screenstackruntime/model/LaunchMode")), accessFlags := 4122, slot := 5, constantValue := 0 }]
  methods := #[k6m0, k6m1, k6m2]
  instanceTypes := #[(.object "java/lang/String"), .int, .int, (.object "java/lang/String")]
  staticTypes := #[(.object "com/example/screen_stack_runtime/screenstackruntime/model/LaunchMode"), (.object "com/example/screen_stack_runtime/screenstackruntime/model/LaunchMode"), (.object "com/example/screen_stack_runtime/screenstackruntime/model/LaunchMode"), (.object "com/example/screen_stack_runtime/screenstackruntime/model/LaunchMode"), (.object "com/example/screen_stack_runtime/screenstackruntime/model/LaunchMode"), (.array (.object "com/example/screen_stack_runtime/screenstackruntime/model/LaunchMode"))]
  resolved := Array.replicate 164 none
  statics := some 0 }

def pool7 : Array CpInfo := pool [(1, u "java/lang/Cloneable"), (0, .class_ 1), (0, u "java/lang/Object"), (0, .class_ 3)] 3

/-- java/lang/Cloneable -/
def k7 : Class := { plain "java/lang/Cloneable" (some 0) with
  accessFlags := 1537
  interfaces := #[]
  cf := some (fileOf pool7 2 #[] #[] 1537 4 #[] #[])
  fields := #[]
  methods := #[]
  instanceTypes := #[]
  staticTypes := #[]
  resolved := Array.replicate 8 none
  statics := none }

/-- the primitive byte -/
def k8 : Class := { plain "byte" none with kind := .primitive 'B', accessFlags := 0x411 }
/-- [B -/
def k9 : Class := { plain "[B" (some 0) with kind := .array 8 .byte, interfaces := #[7, 4], accessFlags := 1041 }

/-- the primitive int -/
def k10 : Class := { plain "int" none with kind := .primitive 'I', accessFlags := 0x411 }
/-- [I -/
def k11 : Class := { plain "[I" (some 0) with kind := .array 10 .int, interfaces := #[7, 4], accessFlags := 1041 }

def heap : Heap := #[{ cls := 6, slots := #[.ref 1, .ref 5, .ref 2, .ref 3, .ref 4, .null], vm := .statics 6 },
  { cls := 6, slots := #[.null, .int 0, .int 0, .null], vm := .none },
  { cls := 6, slots := #[.null, .int 2, .int 0, .null], vm := .none },
  { cls := 6, slots := #[.null, .int 3, .int 0, .null], vm := .none },
  { cls := 6, slots := #[.null, .int 4, .int 0, .null], vm := .none },
  { cls := 6, slots := #[.null, .int 1, .int 0, .null], vm := .none }]
def classes : Array Class := #[k0, k1, k2, k3, k4, k5, k6, k7, k8, k9, k10, k11]
def interned : List (Array UInt16 × Addr) := []
def slotsUsed : Nat := 26
def theMethod : MethodId := ⟨1, 1⟩
def args0 : Array Value := #[.int 5]
def aboutOver (below : List Frame) : State where
  vm := { classes := classes, interned := interned.toArray }
  heap := heap
  slotsUsed := slotsUsed
  threads := #[{ frames := .invoking theMethod args0 :: below }]
def below0 : List Frame := [.native { method := ⟨0, 0⟩, args := #[] }]
def about1 : State := aboutOver below0
def p0 : Program := .bare "" "" ""
def e0 : Env := launch0.env 0 0 0
theorem w_frames : about1.frames = Frame.invoking theMethod args0 :: below0 := rfl
set_option maxRecDepth 65536 in
theorem w_args : argsFit about1.vm theMethod args0 = true := by decide +kernel
set_option maxRecDepth 65536 in
theorem w_heap : heapFits about1 = true := by decide +kernel
set_option maxRecDepth 65536 in
theorem w_runnable : about1.curStatus? = some .runnable := by decide +kernel
set_option maxRecDepth 65536 in
theorem w_alone : about1.alone = true := by decide +kernel
set_option maxRecDepth 65536 in
theorem w_named : about1.methodNamed? x = some theMethod := by decide +kernel
set_option maxRecDepth 65536 in
theorem w_hears : about1.hears theMethod below0 = true := by decide +kernel
set_option maxRecDepth 65536 in
theorem w_ripe : about1.ripe theMethod args0 below0 = true := by decide +kernel
theorem w_running : about1.status = .running := rfl
set_option maxRecDepth 65536 in
theorem w_room : about1.hasRoom e0.platform room_1 = true :=
  launch0.hasRoom_least _ room_1 (by decide +kernel) (by decide +kernel) (by decide +kernel) (by decide +kernel) (by decide +kernel) (by decide +kernel)
theorem allAtoms_all (ts : List Jvm.Cond) (a : Array Jvm.Value) (st : Jvm.State) : (allAtoms ts).before a st = ts.all (fun c => c.before a st) := by
  induction ts with
  | nil => rfl
  | cons c t ih =>
    show (Jvm.Cond.and c (allAtoms t)).before a st = _
    rw [Jvm.Cond.before_and, ih, List.all_cons]
def words1 : List Jvm.Cond := Jvm.Cond.code x code maxLocals ret :: tables_1
/-- a 'code' word, met by the world's own term for the bytes: nothing is compared byte by byte -/
theorem code_word {y : MethodName} {bytes : ByteArray} {mx : Nat} {rt : Option FieldType} {a : Array Value} {s : State} {m : MethodId} {meth : Method} {c : Code} (h1 : s.methodNamed? y = some m) (h2 : s.vm.method? m = some meth) (h3 : meth.code = some c) (h4 : c.code = bytes)
    (h5 : (c.maxLocals == mx && c.exceptionTable.isEmpty && decide (c.maxStack ≤ mostOperands) && decide (meth.sig.returnType = rt) && !meth.locks && decide (parseMethodDescriptor y.desc = some meth.sig)) = true) : (Jvm.Cond.code y bytes mx rt).before a s = true := by
  simp only [Bool.and_eq_true, beq_iff_eq, Bool.not_eq_true', decide_eq_true_eq] at h5
  obtain ⟨⟨⟨⟨⟨g1, g2⟩, g3⟩, g4⟩, g5⟩, g6⟩ := h5
  simp [Cond.before, Cond.holds, Cond.value, h1, h2, h3, h4, g1, g2, g3, g4, g5, g6]
def isCode : Jvm.Cond → Bool
  | .code _ _ _ _ => true
  | _ => false
theorem all_split {L : List Jvm.Cond} {P : Jvm.Cond → Bool} (h1 : L.all (fun c => isCode c || P c) = true) (h2 : ∀ c ∈ L.filter isCode, P c = true) : L.all P = true := by
  refine List.all_eq_true.mpr fun c hc => ?_
  have h := List.all_eq_true.mp h1 c hc
  rcases Bool.eq_false_or_eq_true (isCode c) with hi | hi
  · exact h2 c (List.mem_filter.mpr ⟨hc, hi⟩)
  · simpa [hi] using h
set_option maxRecDepth 65536 in
theorem w_c0 : (Jvm.Cond.code x code maxLocals ret).before args0 about1 = true := code_word (m := ⟨1, 1⟩) (meth := k1m1) (c := k1c1) (by decide +kernel) rfl rfl rfl (by decide +kernel)
set_option maxRecDepth 65536 in
theorem w_c1 : (Jvm.Cond.code ({ cls := "com/example/screen_stack_runtime/screenstackruntime/model/LaunchMode", name := "reusesRunningInstance", desc := "()Z" } : Jvm.MethodName) prog_96_method_5_code (1 : Nat) (Option.some Jvm.ClassFile.FieldType.boolean)).before args0 about1 = true := code_word (m := ⟨6, 1⟩) (meth := k6m1) (c := k6c1) (by decide +kernel) rfl rfl rfl (by decide +kernel)
set_option maxRecDepth 65536 in
theorem w_c2 : (Jvm.Cond.code ({ cls := "com/example/screen_stack_runtime/screenstackruntime/model/LaunchMode", name := "keepsOneInstance", desc := "()Z" } : Jvm.MethodName) prog_96_method_4_code (1 : Nat) (Option.some Jvm.ClassFile.FieldType.boolean)).before args0 about1 = true := code_word (m := ⟨6, 0⟩) (meth := k6m0) (c := k6c0) (by decide +kernel) rfl rfl rfl (by decide +kernel)
set_option maxRecDepth 65536 in
theorem w_c3 : (Jvm.Cond.code ({ cls := "com/example/screen_stack_runtime/screenstackruntime/model/LaunchMode", name := "startsAsRoot", desc := "()Z" } : Jvm.MethodName) prog_96_method_6_code (1 : Nat) (Option.some Jvm.ClassFile.FieldType.boolean)).before args0 about1 = true := code_word (m := ⟨6, 2⟩) (meth := k6m2) (c := k6c2) (by decide +kernel) rfl rfl rfl (by decide +kernel)
def codes1 : List Jvm.Cond := [Jvm.Cond.code x code maxLocals ret, Jvm.Cond.code ({ cls := "com/example/screen_stack_runtime/screenstackruntime/model/LaunchMode", name := "reusesRunningInstance", desc := "()Z" } : Jvm.MethodName) prog_96_method_5_code (1 : Nat) (Option.some Jvm.ClassFile.FieldType.boolean), Jvm.Cond.code ({ cls := "com/example/screen_stack_runtime/screenstackruntime/model/LaunchMode", name := "keepsOneInstance", desc := "()Z" } : Jvm.MethodName) prog_96_method_4_code (1 : Nat) (Option.some Jvm.ClassFile.FieldType.boolean), Jvm.Cond.code ({ cls := "com/example/screen_stack_runtime/screenstackruntime/model/LaunchMode", name := "startsAsRoot", desc := "()Z" } : Jvm.MethodName) prog_96_method_6_code (1 : Nat) (Option.some Jvm.ClassFile.FieldType.boolean)]
set_option maxRecDepth 65536 in
theorem codes_eq : words1.filter isCode = codes1 := rfl
theorem w_codes : ∀ c ∈ words1.filter isCode, c.before args0 about1 = true := by
  rw [codes_eq]
  intro c hc
  simp only [codes1, List.mem_cons, List.not_mem_nil, or_false] at hc
  rcases hc with rfl | rfl | rfl | rfl
  · exact w_c0
  · exact w_c1
  · exact w_c2
  · exact w_c3
set_option maxRecDepth 65536 in
theorem w_t1 : (words1.take 24).all (fun c => isCode c || c.before args0 about1) = true := by decide +kernel
set_option maxRecDepth 65536 in
theorem w_t2 : (words1.drop 24).all (fun c => isCode c || c.before args0 about1) = true := by decide +kernel
theorem w_tables : (allAtoms (Jvm.Cond.code x code maxLocals ret :: tables_1)).before args0 about1 = true := by
  rw [allAtoms_all]
  show words1.all (fun c => c.before args0 about1) = true
  refine all_split ?_ w_codes
  rw [← List.take_append_drop 24 words1, List.all_append, w_t1, w_t2]
  rfl
set_option maxRecDepth 65536 in
theorem w_case : (Jvm.Cond.and given_1 narrow_1).before args0 about1 = true := by decide +kernel
theorem w_applies : (headSpec (Jvm.Cond.code x code maxLocals ret :: tables_1) room_1).applies x e0.platform about1 = true :=
  (Spec.applies_iff w_frames).mpr ⟨w_running, w_runnable, w_alone, w_named, w_hears, w_ripe, w_room, w_tables⟩
theorem atStart : AtStart classFile x code maxLocals ret World_1 tables_1 room_1 Calls_1 rest_1 Pre_1 launch0 p0 e0 about1 theMethod args0 below0 :=
  ⟨lists_1, trivial, launch0.admits_env _ _ _, launch0.least_env, fairChoices_fair.cas, fairChoices_fair.clock, w_frames, w_args, w_heap, w_applies, trivial, trivial, w_case⟩
end start1
theorem witness_1 : WitnessClaimed_1 := ⟨start1.p0, start1.e0, start1.about1, start1.theMethod, start1.args0, start1.below0, start1.atStart⟩
end Jvm.Pilot.@@N@@
