import JvmDerived
import JvmDerived.Pilot.@@N@@Statement
import JvmDerived.Pilot.@@N@@Code
set_option linter.unusedVariables false
set_option linter.unusedSimpArgs false
namespace Jvm.RoadKit
open Sem ClassFile Op Lib Jvm.Stand Jvm.Free Jvm.LawKit
section New
variable {p : Program} {l : Launch} {e : Env} {R : Room} {s : State} {m : MethodId} {args : Array Value} {below : List Frame} {meth : Method} {c : Code} {T : State} {locs : List Loc} {cells slots : Nat}
theorem retI (X : Stand p l e R s m args below meth c T locs cells slots) (hx : p.tables.exec = Jvm.exec) {pc : Nat} {Ls : Array Slot} {z : Int32} {rest : List Value} (hret : meth.sig.returnType = some .int) (hd : decode c.code pc = .ok (.ireturn, 1)) {fs : List Frame}
    (hl : ∀ (f : JFrame) (acts : List Action), f.method = m → f.locked = none → f.entered = [] → (doReturn e (T.setTop f) acts (some (.int z))).1 = T.setFrames fs) : Steps p.tables e below (T.setTop (mkF m pc Ls (.int z :: rest))) (T.setFrames fs) := by
  have hm' : T.vm.method? m = some meth := X.method'
  have hn : narrow .int (.int z) = .int z := rfl
  show Steps p.tables e below (T.setTop { method := m, pc := pc, locals := Ls, stack := _ :: rest, locked := none }) _
  jvm_step X.here [X.here.top, hx, hd, hm', hret, hn]
  first | (intro acts; rw [hl _ acts rfl rfl rfl]) | rw [hl _ _ rfl rfl rfl]
  exact Steps.refl _
theorem retA (X : Stand p l e R s m args below meth c T locs cells slots) (hx : p.tables.exec = Jvm.exec) {pc : Nat} {Ls : Array Slot} {w : Value} {t : FieldType} {rest : List Value} (hret : meth.sig.returnType = some t) (ht : t.isReference = true) (hw : w.isRef = true) (hn : narrow t w = w) (hd : decode c.code pc = .ok (.areturn, 1)) {fs : List Frame}
    (hl : ∀ (f : JFrame) (acts : List Action), f.method = m → f.locked = none → f.entered = [] → (doReturn e (T.setTop f) acts (some w)).1 = T.setFrames fs) : Steps p.tables e below (T.setTop (mkF m pc Ls (w :: rest))) (T.setFrames fs) :=
  retOut X hx hret hn (Or.inr (Or.inr (Or.inr (Or.inr ⟨rfl, ht, hw⟩)))) hd hl
end New
/-- all that was there is there still: a write to a cell above -/
theorem own_ext_wr {h0 h h' : Heap} {a : Addr} {sl : Nat} {v : Value} (E : Ext h0 h) (W : Wr h h' a sl v) (q : h0.size ≤ a) : Ext h0 h' := by
  refine ⟨Nat.le_trans E.1 (Keep.of_wr W).1, fun x c hc => (Keep.of_wr W).2.1 x c (E.2 x c hc) fun hm => ?_⟩
  cases List.mem_singleton.mp hm
  exact absurd (Array.getElem?_eq_some_iff.mp hc).1 (Nat.not_lt.mpr q)
theorem own_ext_keep {h0 h h' : Heap} {ws : List Addr} (E : Ext h0 h) (K : Keep h h' ws) (q : ∀ x ∈ ws, h0.size ≤ x) : Ext h0 h' :=
  ⟨Nat.le_trans E.1 K.1, fun x c hc => K.2.1 x c (E.2 x c hc) fun hm => absurd (Array.getElem?_eq_some_iff.mp hc).1 (Nat.not_lt.mpr (q x hm))⟩
theorem own_ext_trans {h0 h h' : Heap} (E : Ext h0 h) (E' : Ext h h') : Ext h0 h' := ⟨Nat.le_trans E.1 E'.1, fun x c hc => E'.2 x c (E.2 x c hc)⟩
theorem own_ext_refl (h : Heap) : Ext h h := ⟨Nat.le_refl _, fun _ _ q => q⟩
/-- a static that holds an object of this very class -/
theorem own_sta {Z : State} {a0 : Array Value} {C n d K : String} (wi : (Cond.initialized C).before a0 Z = true) (wl : (Cond.laysStatic C n d).before a0 Z = true) (hx : (Cond.exactly (.static C n d) K).value a0 Z none Z [] = some true) :
    ∃ w, (Term.static C n d).eval a0 Z none [] Z = some (.ref w) ∧ Sta Z Z.heap C n d (.ref w) ∧ Exa Z Z.heap w K := by
  obtain ⟨w, ev⟩ := exa_v hx
  exact ⟨w, ev, Sta.start ev (Or.inr ⟨wi, wl⟩), Exa.start ev hx⟩
/-- a field of an object that a term names, by an 'eq' of ints -/
theorem own_fld {Z : State} {a0 : Array Value} {t : Term} {w : Addr} {C n d : String} {k : Int32} (ev : t.eval a0 Z none [] Z = some (.ref w)) (h : (Cond.eq (.field t C n d) (.int k)).value a0 Z none Z [] = some true) : Fld Z Z.heap w C n d (.int k) :=
  Fld.start ((fld_at ev).symm.trans (eqv_i (F := .int k) rfl h))
end Jvm.RoadKit
namespace Jvm.Pilot.@@N@@
open Jvm Jvm.ClassFile Sem Op Lib Jvm.Free Jvm.Stand Jvm.LawKit Jvm.RoadKit Bundle Jvm.Pilot.@@N@@.Jvm.D
def own_pick (k : Int32) (w_CENTRAL_GOVERNMENT w_CENTRAL_BANK w_REGIONAL_GOVERNMENT w_PUBLIC_SECTOR_ENTITY w_MULTILATERAL_DEVELOPMENT_BANK w_INTERNATIONAL_ORGANISATION w_BANK w_INVESTMENT_FIRM w_CORPORATE w_INDIVIDUAL w_NONE : Addr) : Addr := if k = (0 : Int32) then w_CENTRAL_GOVERNMENT else if k = (1 : Int32) then w_CENTRAL_BANK else if k = (2 : Int32) then w_REGIONAL_GOVERNMENT else if k = (3 : Int32) then w_PUBLIC_SECTOR_ENTITY else if k = (4 : Int32) then w_MULTILATERAL_DEVELOPMENT_BANK else if k = (5 : Int32) then w_INTERNATIONAL_ORGANISATION else if k = (6 : Int32) then w_BANK else if k = (7 : Int32) then w_INVESTMENT_FIRM else if k = (8 : Int32) then w_CORPORATE else if k = (9 : Int32) then w_INDIVIDUAL else w_NONE
def own_exp (k : Int32) : Int32 := if k = (4 : Int32) then (1 : Int32) else if k = (5 : Int32) then (1 : Int32) else (0 : Int32)
def own_named (a w_MULTILATERAL_DEVELOPMENT_BANK w_INTERNATIONAL_ORGANISATION : Addr) : Int32 := (if a = w_MULTILATERAL_DEVELOPMENT_BANK then (1 : Int32) else (if a = w_INTERNATIONAL_ORGANISATION then (1 : Int32) else (0 : Int32)))
theorem ef_1 (m : MethodId) (k : Int32) : entryFrame m #[(.int k)] 1 = mkF m 0 #[.val (.int k)] [] := by first | (simp [entryFrame, mkF, argsToLocals, Value.category]; done) | rfl
def Q_1 (Z : State) (k : Int32) (w_CENTRAL_GOVERNMENT : Addr) (w_CENTRAL_BANK : Addr) (w_REGIONAL_GOVERNMENT : Addr) (w_PUBLIC_SECTOR_ENTITY : Addr) (w_MULTILATERAL_DEVELOPMENT_BANK : Addr) (w_INTERNATIONAL_ORGANISATION : Addr) (w_BANK : Addr) (w_INVESTMENT_FIRM : Addr) (w_CORPORATE : Addr) (w_INDIVIDUAL : Addr) (w_NONE : Addr) (h0 : Heap) (n0 : Nat) (v : Option Value) (h : Heap) (L : List Loc) : Prop := v = some (.ref (own_pick k w_CENTRAL_GOVERNMENT w_CENTRAL_BANK w_REGIONAL_GOVERNMENT w_PUBLIC_SECTOR_ENTITY w_MULTILATERAL_DEVELOPMENT_BANK w_INTERNATIONAL_ORGANISATION w_BANK w_INVESTMENT_FIRM w_CORPORATE w_INDIVIDUAL w_NONE)) ∧ Fr n0 L ∧ h = h0
theorem pn_0 : plainName "com/example/ponderat/ponderat/CounterpartyTypeIsNamedByEntityCodePinLaw" = true := by first | (simp [plainName, overriddenIn]; done) | decide +kernel
theorem d1_0 : decode method_2_code 0 = .ok (.iload_n 0, 1) := by decide +kernel
theorem d1_1 : decode method_2_code 1 = .ok (.ifCond .ne 7, 3) := by decide +kernel
theorem d1_4 : decode method_2_code 4 = .ok (.getstatic 7, 3) := by decide +kernel
theorem d1_7 : decode method_2_code 7 = .ok (.areturn, 1) := by decide +kernel
theorem d1_8 : decode method_2_code 8 = .ok (.iload_n 0, 1) := by decide +kernel
theorem d1_9 : decode method_2_code 9 = .ok (.iconst 1, 1) := by decide +kernel
theorem d1_10 : decode method_2_code 10 = .ok (.if_icmp .ne 7, 3) := by decide +kernel
theorem d1_13 : decode method_2_code 13 = .ok (.getstatic 13, 3) := by decide +kernel
theorem d1_16 : decode method_2_code 16 = .ok (.areturn, 1) := by decide +kernel
theorem d1_17 : decode method_2_code 17 = .ok (.iload_n 0, 1) := by decide +kernel
theorem d1_18 : decode method_2_code 18 = .ok (.iconst 2, 1) := by decide +kernel
theorem d1_19 : decode method_2_code 19 = .ok (.if_icmp .ne 7, 3) := by decide +kernel
theorem d1_22 : decode method_2_code 22 = .ok (.getstatic 16, 3) := by decide +kernel
theorem d1_25 : decode method_2_code 25 = .ok (.areturn, 1) := by decide +kernel
theorem d1_26 : decode method_2_code 26 = .ok (.iload_n 0, 1) := by decide +kernel
theorem d1_27 : decode method_2_code 27 = .ok (.iconst 3, 1) := by decide +kernel
theorem d1_28 : decode method_2_code 28 = .ok (.if_icmp .ne 7, 3) := by decide +kernel
theorem d1_31 : decode method_2_code 31 = .ok (.getstatic 19, 3) := by decide +kernel
theorem d1_34 : decode method_2_code 34 = .ok (.areturn, 1) := by decide +kernel
theorem d1_35 : decode method_2_code 35 = .ok (.iload_n 0, 1) := by decide +kernel
theorem d1_36 : decode method_2_code 36 = .ok (.iconst 4, 1) := by decide +kernel
theorem d1_37 : decode method_2_code 37 = .ok (.if_icmp .ne 7, 3) := by decide +kernel
theorem d1_40 : decode method_2_code 40 = .ok (.getstatic 22, 3) := by decide +kernel
theorem d1_43 : decode method_2_code 43 = .ok (.areturn, 1) := by decide +kernel
theorem d1_44 : decode method_2_code 44 = .ok (.iload_n 0, 1) := by decide +kernel
theorem d1_45 : decode method_2_code 45 = .ok (.iconst 5, 1) := by decide +kernel
theorem d1_46 : decode method_2_code 46 = .ok (.if_icmp .ne 7, 3) := by decide +kernel
theorem d1_49 : decode method_2_code 49 = .ok (.getstatic 25, 3) := by decide +kernel
theorem d1_52 : decode method_2_code 52 = .ok (.areturn, 1) := by decide +kernel
theorem d1_53 : decode method_2_code 53 = .ok (.iload_n 0, 1) := by decide +kernel
theorem d1_54 : decode method_2_code 54 = .ok (.bipush 6, 2) := by decide +kernel
theorem d1_56 : decode method_2_code 56 = .ok (.if_icmp .ne 7, 3) := by decide +kernel
theorem d1_59 : decode method_2_code 59 = .ok (.getstatic 28, 3) := by decide +kernel
theorem d1_62 : decode method_2_code 62 = .ok (.areturn, 1) := by decide +kernel
theorem d1_63 : decode method_2_code 63 = .ok (.iload_n 0, 1) := by decide +kernel
theorem d1_64 : decode method_2_code 64 = .ok (.bipush 7, 2) := by decide +kernel
theorem d1_66 : decode method_2_code 66 = .ok (.if_icmp .ne 7, 3) := by decide +kernel
theorem d1_69 : decode method_2_code 69 = .ok (.getstatic 31, 3) := by decide +kernel
theorem d1_72 : decode method_2_code 72 = .ok (.areturn, 1) := by decide +kernel
theorem d1_73 : decode method_2_code 73 = .ok (.iload_n 0, 1) := by decide +kernel
theorem d1_74 : decode method_2_code 74 = .ok (.bipush 8, 2) := by decide +kernel
theorem d1_76 : decode method_2_code 76 = .ok (.if_icmp .ne 7, 3) := by decide +kernel
theorem d1_79 : decode method_2_code 79 = .ok (.getstatic 34, 3) := by decide +kernel
theorem d1_82 : decode method_2_code 82 = .ok (.areturn, 1) := by decide +kernel
theorem d1_83 : decode method_2_code 83 = .ok (.iload_n 0, 1) := by decide +kernel
theorem d1_84 : decode method_2_code 84 = .ok (.bipush 9, 2) := by decide +kernel
theorem d1_86 : decode method_2_code 86 = .ok (.if_icmp .ne 7, 3) := by decide +kernel
theorem d1_89 : decode method_2_code 89 = .ok (.getstatic 37, 3) := by decide +kernel
theorem d1_92 : decode method_2_code 92 = .ok (.areturn, 1) := by decide +kernel
theorem d1_93 : decode method_2_code 93 = .ok (.getstatic 40, 3) := by decide +kernel
theorem d1_96 : decode method_2_code 96 = .ok (.areturn, 1) := by decide +kernel
set_option maxRecDepth 65536 in
set_option maxHeartbeats 40000000 in
theorem rm_1 (l : Launch) (Z : State) (a0 : Array Value) (hw : ∀ d ∈ tables_1, d.before a0 Z = true) (ws : List Jvm.Cond) (k : Int32) (w_CENTRAL_GOVERNMENT : Addr) (w_CENTRAL_BANK : Addr) (w_REGIONAL_GOVERNMENT : Addr) (w_PUBLIC_SECTOR_ENTITY : Addr) (w_MULTILATERAL_DEVELOPMENT_BANK : Addr) (w_INTERNATIONAL_ORGANISATION : Addr) (w_BANK : Addr) (w_INVESTMENT_FIRM : Addr) (w_CORPORATE : Addr) (w_INDIVIDUAL : Addr) (w_NONE : Addr) (h0 : Heap) (n0 : Nat) (Z0 : n0 ≤ h0.size) (S_CENTRAL_GOVERNMENT : Sta Z h0 "com/example/ponderat/ponderat/CounterpartyType" "CENTRAL_GOVERNMENT" "Lcom/example/ponderat/ponderat/CounterpartyType;" (.ref w_CENTRAL_GOVERNMENT)) (S_CENTRAL_BANK : Sta Z h0 "com/example/ponderat/ponderat/CounterpartyType" "CENTRAL_BANK" "Lcom/example/ponderat/ponderat/CounterpartyType;" (.ref w_CENTRAL_BANK)) (S_REGIONAL_GOVERNMENT : Sta Z h0 "com/example/ponderat/ponderat/CounterpartyType" "REGIONAL_GOVERNMENT" "Lcom/example/ponderat/ponderat/CounterpartyType;" (.ref w_REGIONAL_GOVERNMENT)) (S_PUBLIC_SECTOR_ENTITY : Sta Z h0 "com/example/ponderat/ponderat/CounterpartyType" "PUBLIC_SECTOR_ENTITY" "Lcom/example/ponderat/ponderat/CounterpartyType;" (.ref w_PUBLIC_SECTOR_ENTITY)) (S_MULTILATERAL_DEVELOPMENT_BANK : Sta Z h0 "com/example/ponderat/ponderat/CounterpartyType" "MULTILATERAL_DEVELOPMENT_BANK" "Lcom/example/ponderat/ponderat/CounterpartyType;" (.ref w_MULTILATERAL_DEVELOPMENT_BANK)) (S_INTERNATIONAL_ORGANISATION : Sta Z h0 "com/example/ponderat/ponderat/CounterpartyType" "INTERNATIONAL_ORGANISATION" "Lcom/example/ponderat/ponderat/CounterpartyType;" (.ref w_INTERNATIONAL_ORGANISATION)) (S_BANK : Sta Z h0 "com/example/ponderat/ponderat/CounterpartyType" "BANK" "Lcom/example/ponderat/ponderat/CounterpartyType;" (.ref w_BANK)) (S_INVESTMENT_FIRM : Sta Z h0 "com/example/ponderat/ponderat/CounterpartyType" "INVESTMENT_FIRM" "Lcom/example/ponderat/ponderat/CounterpartyType;" (.ref w_INVESTMENT_FIRM)) (S_CORPORATE : Sta Z h0 "com/example/ponderat/ponderat/CounterpartyType" "CORPORATE" "Lcom/example/ponderat/ponderat/CounterpartyType;" (.ref w_CORPORATE)) (S_INDIVIDUAL : Sta Z h0 "com/example/ponderat/ponderat/CounterpartyType" "INDIVIDUAL" "Lcom/example/ponderat/ponderat/CounterpartyType;" (.ref w_INDIVIDUAL)) (S_NONE : Sta Z h0 "com/example/ponderat/ponderat/CounterpartyType" "NONE" "Lcom/example/ponderat/ponderat/CounterpartyType;" (.ref w_NONE)) :
    MetFree l (⟨"com/example/ponderat/ponderat/CounterpartyTypeIsNamedByEntityCodePinLaw", "pick", "(I)Lcom/example/ponderat/ponderat/CounterpartyType;"⟩ : MethodName) (head1 (Jvm.Cond.code (⟨"com/example/ponderat/ponderat/CounterpartyTypeIsNamedByEntityCodePinLaw", "pick", "(I)Lcom/example/ponderat/ponderat/CounterpartyType;"⟩ : MethodName) method_2_code 1 (some (.object "com/example/ponderat/ponderat/CounterpartyType")) :: ws) ({ frames := 0, cells := 0, slots := 0, locals := 0 } : Room)) (fun a_ U_ => a_ = #[(.int k)] ∧ Z.Warmed39 U_.vm ∧ U_.heap = h0) (fun _ _ _ _ _ => True) (fun _ U_ o_ V_ => ∃ v_ L_, o_ = .returned v_ ∧ Q_1 Z k w_CENTRAL_GOVERNMENT w_CENTRAL_BANK w_REGIONAL_GOVERNMENT w_PUBLIC_SECTOR_ENTITY w_MULTILATERAL_DEVELOPMENT_BANK w_INTERNATIONAL_ORGANISATION w_BANK w_INVESTMENT_FIRM w_CORPORATE w_INDIVIDUAL w_NONE h0 n0 v_ V_.heap L_ ∧ FrameEnd U_ o_ V_ L_ ({ frames := 0, cells := 0, slots := 0, locals := 0 } : Room).cells ({ frames := 0, cells := 0, slots := 0, locals := 0 } : Room).slots) := by
  refine MetFree.of_bodySF (plainFor_of_name pn_0) hisR ?_
  intro p e s m args below meth c s₁ Bd hml0 hP hK
  obtain ⟨rfl, hZ, hh⟩ := hP
  have hx := Bd.exec
  have hby := Bd.bytes
  have hml : c.maxLocals = 1 := hml0
  have hown : s.vm.findClass "com/example/ponderat/ponderat/CounterpartyTypeIsNamedByEntityCodePinLaw" = some m.cls := findClass_of_methodNamed Bd.named
  have hnm := (name_of_methodNamed Bd.named Bd.method).1
  have X0 : Stand p l e ({ frames := 0, cells := 0, slots := 0, locals := 0 } : Room) s m #[(.int k)] below meth c s₁ [] 0 0 := Stand.of_body Bd
  have e0 : s₁.heap = h0 := by rw [← hh, Bd.state]; rfl
  have N0 := Fr.nil n0
  have pre0 : ∀ t_, Steps p.tables e below (s₁.setTop (mkF m 0 #[.val (.int k)] [])) t_ → Steps p.tables e below (s₁.setTop (entryFrame m #[(.int k)] 1)) t_ := fun t_ k_ => castTop (ef_1 m k) k_
  have pre1 : ∀ t_, Steps p.tables e below (s₁.setTop (mkF m 1 #[.val (.int k)] [(.int k)])) t_ → Steps p.tables e below (s₁.setTop (entryFrame m #[(.int k)] 1)) t_ := fun t_ k_ => pre0 t_ (by
    show Steps p.tables e below (s₁.setTop (mkF m 0 #[.val (.int k)] [])) _
    refine XS.iloadN X0.here hx rfl (hb hby d1_0) rfl ?_
    show Steps p.tables e below (s₁.setTop (mkF m 1 #[.val (.int k)] [(.int k)])) _
    exact k_)
  by_cases hc1_2 : k = (0 : Int32)
  · obtain ⟨T3, X3, e3, st3⟩ := getS2 X0 hx hZ hown (host := "") (Or.inl (hw _ (List.mem_of_getElem? (i := 5) rfl))) Via.refl e0 S_CENTRAL_GOVERNMENT (g := (mkF m 4 #[.val (.int k)] [])) rfl (hb hby d1_4)
    have pre4 : ∀ t_, Steps p.tables e below (T3.setTop (mkF m 7 #[.val (.int k)] [(.ref w_CENTRAL_GOVERNMENT)])) t_ → Steps p.tables e below (s₁.setTop (entryFrame m #[(.int k)] 1)) t_ := fun t_ k_ => pre1 t_ (by
      show Steps p.tables e below (s₁.setTop (mkF m 1 #[.val (.int k)] [(.int k)])) _
      refine XS.ifNo X0.here hx rfl (hb hby d1_1) rfl ((if0 _ _).trans (teq hc1_2).2) ?_
      show Steps p.tables e below (s₁.setTop (mkF m 4 #[.val (.int k)] [])) _
      refine st3 _ ?_
      show Steps p.tables e below (T3.setTop (mkF m 7 #[.val (.int k)] [(.ref w_CENTRAL_GOVERNMENT)])) _
      exact k_)
    obtain ⟨fs, hr, hrun, hended, hW, hsame⟩ := X3.leave (v := some (.ref w_CENTRAL_GOVERNMENT)) (fun h => by rw [Bd.returns] at h; cases h)
    refine ⟨_, _, pre4 _ ?_, hrun, hended, _, _, rfl, ?_, ⟨_, rfl⟩, hW, hsame.mono (by decide) (by decide)⟩
    · show Steps p.tables e below (T3.setTop (mkF m 7 #[.val (.int k)] [(.ref w_CENTRAL_GOVERNMENT)])) _
      exact retA X3 hx Bd.returns rfl rfl rfl (hb hby d1_7) hr
    · show Q_1 Z k w_CENTRAL_GOVERNMENT w_CENTRAL_BANK w_REGIONAL_GOVERNMENT w_PUBLIC_SECTOR_ENTITY w_MULTILATERAL_DEVELOPMENT_BANK w_INTERNATIONAL_ORGANISATION w_BANK w_INVESTMENT_FIRM w_CORPORATE w_INDIVIDUAL w_NONE h0 n0 _ T3.heap _
      rw [e3]
      exact ⟨by rw [own_pick, if_pos hc1_2], N0, rfl⟩
  · have pre5 : ∀ t_, Steps p.tables e below (s₁.setTop (mkF m 10 #[.val (.int k)] [(.int (1 : Int32)), (.int k)])) t_ → Steps p.tables e below (s₁.setTop (entryFrame m #[(.int k)] 1)) t_ := fun t_ k_ => pre1 t_ (by
      show Steps p.tables e below (s₁.setTop (mkF m 1 #[.val (.int k)] [(.int k)])) _
      refine XS.ifYes X0.here hx rfl (pc0 := 1) (pc' := 8) rfl (hb hby d1_1) rfl ((if0 _ _).trans (feq hc1_2).2) (by decide) (by decide) ?_
      show Steps p.tables e below (s₁.setTop (mkF m 8 #[.val (.int k)] [])) _
      refine XS.iloadN X0.here hx rfl (hb hby d1_8) rfl ?_
      show Steps p.tables e below (s₁.setTop (mkF m 9 #[.val (.int k)] [(.int k)])) _
      refine XS.iconst X0.here hx rfl (hb hby d1_9) ?_
      show Steps p.tables e below (s₁.setTop (mkF m 10 #[.val (.int k)] [(.int (1 : Int32)), (.int k)])) _
      exact k_)
    by_cases hc10_6 : k = (1 : Int32)
    · obtain ⟨T7, X7, e7, st7⟩ := getS2 X0 hx hZ hown (host := "") (Or.inl (hw _ (List.mem_of_getElem? (i := 30) rfl))) Via.refl e0 S_CENTRAL_BANK (g := (mkF m 13 #[.val (.int k)] [])) rfl (hb hby d1_13)
      have pre8 : ∀ t_, Steps p.tables e below (T7.setTop (mkF m 16 #[.val (.int k)] [(.ref w_CENTRAL_BANK)])) t_ → Steps p.tables e below (s₁.setTop (entryFrame m #[(.int k)] 1)) t_ := fun t_ k_ => pre5 t_ (by
        show Steps p.tables e below (s₁.setTop (mkF m 10 #[.val (.int k)] [(.int (1 : Int32)), (.int k)])) _
        refine XS.icmpNo X0.here hx rfl (hb hby d1_10) rfl (teq hc10_6).2 ?_
        show Steps p.tables e below (s₁.setTop (mkF m 13 #[.val (.int k)] [])) _
        refine st7 _ ?_
        show Steps p.tables e below (T7.setTop (mkF m 16 #[.val (.int k)] [(.ref w_CENTRAL_BANK)])) _
        exact k_)
      obtain ⟨fs, hr, hrun, hended, hW, hsame⟩ := X7.leave (v := some (.ref w_CENTRAL_BANK)) (fun h => by rw [Bd.returns] at h; cases h)
      refine ⟨_, _, pre8 _ ?_, hrun, hended, _, _, rfl, ?_, ⟨_, rfl⟩, hW, hsame.mono (by decide) (by decide)⟩
      · show Steps p.tables e below (T7.setTop (mkF m 16 #[.val (.int k)] [(.ref w_CENTRAL_BANK)])) _
        exact retA X7 hx Bd.returns rfl rfl rfl (hb hby d1_16) hr
      · show Q_1 Z k w_CENTRAL_GOVERNMENT w_CENTRAL_BANK w_REGIONAL_GOVERNMENT w_PUBLIC_SECTOR_ENTITY w_MULTILATERAL_DEVELOPMENT_BANK w_INTERNATIONAL_ORGANISATION w_BANK w_INVESTMENT_FIRM w_CORPORATE w_INDIVIDUAL w_NONE h0 n0 _ T7.heap _
        rw [e7]
        exact ⟨by rw [own_pick, if_neg hc1_2, if_pos hc10_6], N0, rfl⟩
    · have pre9 : ∀ t_, Steps p.tables e below (s₁.setTop (mkF m 19 #[.val (.int k)] [(.int (2 : Int32)), (.int k)])) t_ → Steps p.tables e below (s₁.setTop (entryFrame m #[(.int k)] 1)) t_ := fun t_ k_ => pre5 t_ (by
        show Steps p.tables e below (s₁.setTop (mkF m 10 #[.val (.int k)] [(.int (1 : Int32)), (.int k)])) _
        refine XS.icmpYes X0.here hx rfl (pc0 := 10) (pc' := 17) rfl (hb hby d1_10) rfl (feq hc10_6).2 (by decide) (by decide) ?_
        show Steps p.tables e below (s₁.setTop (mkF m 17 #[.val (.int k)] [])) _
        refine XS.iloadN X0.here hx rfl (hb hby d1_17) rfl ?_
        show Steps p.tables e below (s₁.setTop (mkF m 18 #[.val (.int k)] [(.int k)])) _
        refine XS.iconst X0.here hx rfl (hb hby d1_18) ?_
        show Steps p.tables e below (s₁.setTop (mkF m 19 #[.val (.int k)] [(.int (2 : Int32)), (.int k)])) _
        exact k_)
      by_cases hc19_10 : k = (2 : Int32)
      · obtain ⟨T11, X11, e11, st11⟩ := getS2 X0 hx hZ hown (host := "") (Or.inl (hw _ (List.mem_of_getElem? (i := 26) rfl))) Via.refl e0 S_REGIONAL_GOVERNMENT (g := (mkF m 22 #[.val (.int k)] [])) rfl (hb hby d1_22)
        have pre12 : ∀ t_, Steps p.tables e below (T11.setTop (mkF m 25 #[.val (.int k)] [(.ref w_REGIONAL_GOVERNMENT)])) t_ → Steps p.tables e below (s₁.setTop (entryFrame m #[(.int k)] 1)) t_ := fun t_ k_ => pre9 t_ (by
          show Steps p.tables e below (s₁.setTop (mkF m 19 #[.val (.int k)] [(.int (2 : Int32)), (.int k)])) _
          refine XS.icmpNo X0.here hx rfl (hb hby d1_19) rfl (teq hc19_10).2 ?_
          show Steps p.tables e below (s₁.setTop (mkF m 22 #[.val (.int k)] [])) _
          refine st11 _ ?_
          show Steps p.tables e below (T11.setTop (mkF m 25 #[.val (.int k)] [(.ref w_REGIONAL_GOVERNMENT)])) _
          exact k_)
        obtain ⟨fs, hr, hrun, hended, hW, hsame⟩ := X11.leave (v := some (.ref w_REGIONAL_GOVERNMENT)) (fun h => by rw [Bd.returns] at h; cases h)
        refine ⟨_, _, pre12 _ ?_, hrun, hended, _, _, rfl, ?_, ⟨_, rfl⟩, hW, hsame.mono (by decide) (by decide)⟩
        · show Steps p.tables e below (T11.setTop (mkF m 25 #[.val (.int k)] [(.ref w_REGIONAL_GOVERNMENT)])) _
          exact retA X11 hx Bd.returns rfl rfl rfl (hb hby d1_25) hr
        · show Q_1 Z k w_CENTRAL_GOVERNMENT w_CENTRAL_BANK w_REGIONAL_GOVERNMENT w_PUBLIC_SECTOR_ENTITY w_MULTILATERAL_DEVELOPMENT_BANK w_INTERNATIONAL_ORGANISATION w_BANK w_INVESTMENT_FIRM w_CORPORATE w_INDIVIDUAL w_NONE h0 n0 _ T11.heap _
          rw [e11]
          exact ⟨by rw [own_pick, if_neg hc1_2, if_neg hc10_6, if_pos hc19_10], N0, rfl⟩
      · have pre13 : ∀ t_, Steps p.tables e below (s₁.setTop (mkF m 28 #[.val (.int k)] [(.int (3 : Int32)), (.int k)])) t_ → Steps p.tables e below (s₁.setTop (entryFrame m #[(.int k)] 1)) t_ := fun t_ k_ => pre9 t_ (by
          show Steps p.tables e below (s₁.setTop (mkF m 19 #[.val (.int k)] [(.int (2 : Int32)), (.int k)])) _
          refine XS.icmpYes X0.here hx rfl (pc0 := 19) (pc' := 26) rfl (hb hby d1_19) rfl (feq hc19_10).2 (by decide) (by decide) ?_
          show Steps p.tables e below (s₁.setTop (mkF m 26 #[.val (.int k)] [])) _
          refine XS.iloadN X0.here hx rfl (hb hby d1_26) rfl ?_
          show Steps p.tables e below (s₁.setTop (mkF m 27 #[.val (.int k)] [(.int k)])) _
          refine XS.iconst X0.here hx rfl (hb hby d1_27) ?_
          show Steps p.tables e below (s₁.setTop (mkF m 28 #[.val (.int k)] [(.int (3 : Int32)), (.int k)])) _
          exact k_)
        by_cases hc28_14 : k = (3 : Int32)
        · obtain ⟨T15, X15, e15, st15⟩ := getS2 X0 hx hZ hown (host := "") (Or.inl (hw _ (List.mem_of_getElem? (i := 20) rfl))) Via.refl e0 S_PUBLIC_SECTOR_ENTITY (g := (mkF m 31 #[.val (.int k)] [])) rfl (hb hby d1_31)
          have pre16 : ∀ t_, Steps p.tables e below (T15.setTop (mkF m 34 #[.val (.int k)] [(.ref w_PUBLIC_SECTOR_ENTITY)])) t_ → Steps p.tables e below (s₁.setTop (entryFrame m #[(.int k)] 1)) t_ := fun t_ k_ => pre13 t_ (by
            show Steps p.tables e below (s₁.setTop (mkF m 28 #[.val (.int k)] [(.int (3 : Int32)), (.int k)])) _
            refine XS.icmpNo X0.here hx rfl (hb hby d1_28) rfl (teq hc28_14).2 ?_
            show Steps p.tables e below (s₁.setTop (mkF m 31 #[.val (.int k)] [])) _
            refine st15 _ ?_
            show Steps p.tables e below (T15.setTop (mkF m 34 #[.val (.int k)] [(.ref w_PUBLIC_SECTOR_ENTITY)])) _
            exact k_)
          obtain ⟨fs, hr, hrun, hended, hW, hsame⟩ := X15.leave (v := some (.ref w_PUBLIC_SECTOR_ENTITY)) (fun h => by rw [Bd.returns] at h; cases h)
          refine ⟨_, _, pre16 _ ?_, hrun, hended, _, _, rfl, ?_, ⟨_, rfl⟩, hW, hsame.mono (by decide) (by decide)⟩
          · show Steps p.tables e below (T15.setTop (mkF m 34 #[.val (.int k)] [(.ref w_PUBLIC_SECTOR_ENTITY)])) _
            exact retA X15 hx Bd.returns rfl rfl rfl (hb hby d1_34) hr
          · show Q_1 Z k w_CENTRAL_GOVERNMENT w_CENTRAL_BANK w_REGIONAL_GOVERNMENT w_PUBLIC_SECTOR_ENTITY w_MULTILATERAL_DEVELOPMENT_BANK w_INTERNATIONAL_ORGANISATION w_BANK w_INVESTMENT_FIRM w_CORPORATE w_INDIVIDUAL w_NONE h0 n0 _ T15.heap _
            rw [e15]
            exact ⟨by rw [own_pick, if_neg hc1_2, if_neg hc10_6, if_neg hc19_10, if_pos hc28_14], N0, rfl⟩
        · have pre17 : ∀ t_, Steps p.tables e below (s₁.setTop (mkF m 37 #[.val (.int k)] [(.int (4 : Int32)), (.int k)])) t_ → Steps p.tables e below (s₁.setTop (entryFrame m #[(.int k)] 1)) t_ := fun t_ k_ => pre13 t_ (by
            show Steps p.tables e below (s₁.setTop (mkF m 28 #[.val (.int k)] [(.int (3 : Int32)), (.int k)])) _
            refine XS.icmpYes X0.here hx rfl (pc0 := 28) (pc' := 35) rfl (hb hby d1_28) rfl (feq hc28_14).2 (by decide) (by decide) ?_
            show Steps p.tables e below (s₁.setTop (mkF m 35 #[.val (.int k)] [])) _
            refine XS.iloadN X0.here hx rfl (hb hby d1_35) rfl ?_
            show Steps p.tables e below (s₁.setTop (mkF m 36 #[.val (.int k)] [(.int k)])) _
            refine XS.iconst X0.here hx rfl (hb hby d1_36) ?_
            show Steps p.tables e below (s₁.setTop (mkF m 37 #[.val (.int k)] [(.int (4 : Int32)), (.int k)])) _
            exact k_)
          by_cases hc37_18 : k = (4 : Int32)
          · obtain ⟨T19, X19, e19, st19⟩ := getS2 X0 hx hZ hown (host := "") (Or.inl (hw _ (List.mem_of_getElem? (i := 37) rfl))) Via.refl e0 S_MULTILATERAL_DEVELOPMENT_BANK (g := (mkF m 40 #[.val (.int k)] [])) rfl (hb hby d1_40)
            have pre20 : ∀ t_, Steps p.tables e below (T19.setTop (mkF m 43 #[.val (.int k)] [(.ref w_MULTILATERAL_DEVELOPMENT_BANK)])) t_ → Steps p.tables e below (s₁.setTop (entryFrame m #[(.int k)] 1)) t_ := fun t_ k_ => pre17 t_ (by
              show Steps p.tables e below (s₁.setTop (mkF m 37 #[.val (.int k)] [(.int (4 : Int32)), (.int k)])) _
              refine XS.icmpNo X0.here hx rfl (hb hby d1_37) rfl (teq hc37_18).2 ?_
              show Steps p.tables e below (s₁.setTop (mkF m 40 #[.val (.int k)] [])) _
              refine st19 _ ?_
              show Steps p.tables e below (T19.setTop (mkF m 43 #[.val (.int k)] [(.ref w_MULTILATERAL_DEVELOPMENT_BANK)])) _
              exact k_)
            obtain ⟨fs, hr, hrun, hended, hW, hsame⟩ := X19.leave (v := some (.ref w_MULTILATERAL_DEVELOPMENT_BANK)) (fun h => by rw [Bd.returns] at h; cases h)
            refine ⟨_, _, pre20 _ ?_, hrun, hended, _, _, rfl, ?_, ⟨_, rfl⟩, hW, hsame.mono (by decide) (by decide)⟩
            · show Steps p.tables e below (T19.setTop (mkF m 43 #[.val (.int k)] [(.ref w_MULTILATERAL_DEVELOPMENT_BANK)])) _
              exact retA X19 hx Bd.returns rfl rfl rfl (hb hby d1_43) hr
            · show Q_1 Z k w_CENTRAL_GOVERNMENT w_CENTRAL_BANK w_REGIONAL_GOVERNMENT w_PUBLIC_SECTOR_ENTITY w_MULTILATERAL_DEVELOPMENT_BANK w_INTERNATIONAL_ORGANISATION w_BANK w_INVESTMENT_FIRM w_CORPORATE w_INDIVIDUAL w_NONE h0 n0 _ T19.heap _
              rw [e19]
              exact ⟨by rw [own_pick, if_neg hc1_2, if_neg hc10_6, if_neg hc19_10, if_neg hc28_14, if_pos hc37_18], N0, rfl⟩
          · have pre21 : ∀ t_, Steps p.tables e below (s₁.setTop (mkF m 46 #[.val (.int k)] [(.int (5 : Int32)), (.int k)])) t_ → Steps p.tables e below (s₁.setTop (entryFrame m #[(.int k)] 1)) t_ := fun t_ k_ => pre17 t_ (by
              show Steps p.tables e below (s₁.setTop (mkF m 37 #[.val (.int k)] [(.int (4 : Int32)), (.int k)])) _
              refine XS.icmpYes X0.here hx rfl (pc0 := 37) (pc' := 44) rfl (hb hby d1_37) rfl (feq hc37_18).2 (by decide) (by decide) ?_
              show Steps p.tables e below (s₁.setTop (mkF m 44 #[.val (.int k)] [])) _
              refine XS.iloadN X0.here hx rfl (hb hby d1_44) rfl ?_
              show Steps p.tables e below (s₁.setTop (mkF m 45 #[.val (.int k)] [(.int k)])) _
              refine XS.iconst X0.here hx rfl (hb hby d1_45) ?_
              show Steps p.tables e below (s₁.setTop (mkF m 46 #[.val (.int k)] [(.int (5 : Int32)), (.int k)])) _
              exact k_)
            by_cases hc46_22 : k = (5 : Int32)
            · obtain ⟨T23, X23, e23, st23⟩ := getS2 X0 hx hZ hown (host := "") (Or.inl (hw _ (List.mem_of_getElem? (i := 34) rfl))) Via.refl e0 S_INTERNATIONAL_ORGANISATION (g := (mkF m 49 #[.val (.int k)] [])) rfl (hb hby d1_49)
              have pre24 : ∀ t_, Steps p.tables e below (T23.setTop (mkF m 52 #[.val (.int k)] [(.ref w_INTERNATIONAL_ORGANISATION)])) t_ → Steps p.tables e below (s₁.setTop (entryFrame m #[(.int k)] 1)) t_ := fun t_ k_ => pre21 t_ (by
                show Steps p.tables e below (s₁.setTop (mkF m 46 #[.val (.int k)] [(.int (5 : Int32)), (.int k)])) _
                refine XS.icmpNo X0.here hx rfl (hb hby d1_46) rfl (teq hc46_22).2 ?_
                show Steps p.tables e below (s₁.setTop (mkF m 49 #[.val (.int k)] [])) _
                refine st23 _ ?_
                show Steps p.tables e below (T23.setTop (mkF m 52 #[.val (.int k)] [(.ref w_INTERNATIONAL_ORGANISATION)])) _
                exact k_)
              obtain ⟨fs, hr, hrun, hended, hW, hsame⟩ := X23.leave (v := some (.ref w_INTERNATIONAL_ORGANISATION)) (fun h => by rw [Bd.returns] at h; cases h)
              refine ⟨_, _, pre24 _ ?_, hrun, hended, _, _, rfl, ?_, ⟨_, rfl⟩, hW, hsame.mono (by decide) (by decide)⟩
              · show Steps p.tables e below (T23.setTop (mkF m 52 #[.val (.int k)] [(.ref w_INTERNATIONAL_ORGANISATION)])) _
                exact retA X23 hx Bd.returns rfl rfl rfl (hb hby d1_52) hr
              · show Q_1 Z k w_CENTRAL_GOVERNMENT w_CENTRAL_BANK w_REGIONAL_GOVERNMENT w_PUBLIC_SECTOR_ENTITY w_MULTILATERAL_DEVELOPMENT_BANK w_INTERNATIONAL_ORGANISATION w_BANK w_INVESTMENT_FIRM w_CORPORATE w_INDIVIDUAL w_NONE h0 n0 _ T23.heap _
                rw [e23]
                exact ⟨by rw [own_pick, if_neg hc1_2, if_neg hc10_6, if_neg hc19_10, if_neg hc28_14, if_neg hc37_18, if_pos hc46_22], N0, rfl⟩
            · have pre25 : ∀ t_, Steps p.tables e below (s₁.setTop (mkF m 56 #[.val (.int k)] [(.int (6 : Int32)), (.int k)])) t_ → Steps p.tables e below (s₁.setTop (entryFrame m #[(.int k)] 1)) t_ := fun t_ k_ => pre21 t_ (by
                show Steps p.tables e below (s₁.setTop (mkF m 46 #[.val (.int k)] [(.int (5 : Int32)), (.int k)])) _
                refine XS.icmpYes X0.here hx rfl (pc0 := 46) (pc' := 53) rfl (hb hby d1_46) rfl (feq hc46_22).2 (by decide) (by decide) ?_
                show Steps p.tables e below (s₁.setTop (mkF m 53 #[.val (.int k)] [])) _
                refine XS.iloadN X0.here hx rfl (hb hby d1_53) rfl ?_
                show Steps p.tables e below (s₁.setTop (mkF m 54 #[.val (.int k)] [(.int k)])) _
                refine XS.bipush X0.here hx rfl (hb hby d1_54) ?_
                show Steps p.tables e below (s₁.setTop (mkF m 56 #[.val (.int k)] [(.int (6 : Int32)), (.int k)])) _
                exact k_)
              by_cases hc56_26 : k = (6 : Int32)
              · obtain ⟨T27, X27, e27, st27⟩ := getS2 X0 hx hZ hown (host := "") (Or.inl (hw _ (List.mem_of_getElem? (i := 35) rfl))) Via.refl e0 S_BANK (g := (mkF m 59 #[.val (.int k)] [])) rfl (hb hby d1_59)
                have pre28 : ∀ t_, Steps p.tables e below (T27.setTop (mkF m 62 #[.val (.int k)] [(.ref w_BANK)])) t_ → Steps p.tables e below (s₁.setTop (entryFrame m #[(.int k)] 1)) t_ := fun t_ k_ => pre25 t_ (by
                  show Steps p.tables e below (s₁.setTop (mkF m 56 #[.val (.int k)] [(.int (6 : Int32)), (.int k)])) _
                  refine XS.icmpNo X0.here hx rfl (hb hby d1_56) rfl (teq hc56_26).2 ?_
                  show Steps p.tables e below (s₁.setTop (mkF m 59 #[.val (.int k)] [])) _
                  refine st27 _ ?_
                  show Steps p.tables e below (T27.setTop (mkF m 62 #[.val (.int k)] [(.ref w_BANK)])) _
                  exact k_)
                obtain ⟨fs, hr, hrun, hended, hW, hsame⟩ := X27.leave (v := some (.ref w_BANK)) (fun h => by rw [Bd.returns] at h; cases h)
                refine ⟨_, _, pre28 _ ?_, hrun, hended, _, _, rfl, ?_, ⟨_, rfl⟩, hW, hsame.mono (by decide) (by decide)⟩
                · show Steps p.tables e below (T27.setTop (mkF m 62 #[.val (.int k)] [(.ref w_BANK)])) _
                  exact retA X27 hx Bd.returns rfl rfl rfl (hb hby d1_62) hr
                · show Q_1 Z k w_CENTRAL_GOVERNMENT w_CENTRAL_BANK w_REGIONAL_GOVERNMENT w_PUBLIC_SECTOR_ENTITY w_MULTILATERAL_DEVELOPMENT_BANK w_INTERNATIONAL_ORGANISATION w_BANK w_INVESTMENT_FIRM w_CORPORATE w_INDIVIDUAL w_NONE h0 n0 _ T27.heap _
                  rw [e27]
                  exact ⟨by rw [own_pick, if_neg hc1_2, if_neg hc10_6, if_neg hc19_10, if_neg hc28_14, if_neg hc37_18, if_neg hc46_22, if_pos hc56_26], N0, rfl⟩
              · have pre29 : ∀ t_, Steps p.tables e below (s₁.setTop (mkF m 66 #[.val (.int k)] [(.int (7 : Int32)), (.int k)])) t_ → Steps p.tables e below (s₁.setTop (entryFrame m #[(.int k)] 1)) t_ := fun t_ k_ => pre25 t_ (by
                  show Steps p.tables e below (s₁.setTop (mkF m 56 #[.val (.int k)] [(.int (6 : Int32)), (.int k)])) _
                  refine XS.icmpYes X0.here hx rfl (pc0 := 56) (pc' := 63) rfl (hb hby d1_56) rfl (feq hc56_26).2 (by decide) (by decide) ?_
                  show Steps p.tables e below (s₁.setTop (mkF m 63 #[.val (.int k)] [])) _
                  refine XS.iloadN X0.here hx rfl (hb hby d1_63) rfl ?_
                  show Steps p.tables e below (s₁.setTop (mkF m 64 #[.val (.int k)] [(.int k)])) _
                  refine XS.bipush X0.here hx rfl (hb hby d1_64) ?_
                  show Steps p.tables e below (s₁.setTop (mkF m 66 #[.val (.int k)] [(.int (7 : Int32)), (.int k)])) _
                  exact k_)
                by_cases hc66_30 : k = (7 : Int32)
                · obtain ⟨T31, X31, e31, st31⟩ := getS2 X0 hx hZ hown (host := "") (Or.inl (hw _ (List.mem_of_getElem? (i := 22) rfl))) Via.refl e0 S_INVESTMENT_FIRM (g := (mkF m 69 #[.val (.int k)] [])) rfl (hb hby d1_69)
                  have pre32 : ∀ t_, Steps p.tables e below (T31.setTop (mkF m 72 #[.val (.int k)] [(.ref w_INVESTMENT_FIRM)])) t_ → Steps p.tables e below (s₁.setTop (entryFrame m #[(.int k)] 1)) t_ := fun t_ k_ => pre29 t_ (by
                    show Steps p.tables e below (s₁.setTop (mkF m 66 #[.val (.int k)] [(.int (7 : Int32)), (.int k)])) _
                    refine XS.icmpNo X0.here hx rfl (hb hby d1_66) rfl (teq hc66_30).2 ?_
                    show Steps p.tables e below (s₁.setTop (mkF m 69 #[.val (.int k)] [])) _
                    refine st31 _ ?_
                    show Steps p.tables e below (T31.setTop (mkF m 72 #[.val (.int k)] [(.ref w_INVESTMENT_FIRM)])) _
                    exact k_)
                  obtain ⟨fs, hr, hrun, hended, hW, hsame⟩ := X31.leave (v := some (.ref w_INVESTMENT_FIRM)) (fun h => by rw [Bd.returns] at h; cases h)
                  refine ⟨_, _, pre32 _ ?_, hrun, hended, _, _, rfl, ?_, ⟨_, rfl⟩, hW, hsame.mono (by decide) (by decide)⟩
                  · show Steps p.tables e below (T31.setTop (mkF m 72 #[.val (.int k)] [(.ref w_INVESTMENT_FIRM)])) _
                    exact retA X31 hx Bd.returns rfl rfl rfl (hb hby d1_72) hr
                  · show Q_1 Z k w_CENTRAL_GOVERNMENT w_CENTRAL_BANK w_REGIONAL_GOVERNMENT w_PUBLIC_SECTOR_ENTITY w_MULTILATERAL_DEVELOPMENT_BANK w_INTERNATIONAL_ORGANISATION w_BANK w_INVESTMENT_FIRM w_CORPORATE w_INDIVIDUAL w_NONE h0 n0 _ T31.heap _
                    rw [e31]
                    exact ⟨by rw [own_pick, if_neg hc1_2, if_neg hc10_6, if_neg hc19_10, if_neg hc28_14, if_neg hc37_18, if_neg hc46_22, if_neg hc56_26, if_pos hc66_30], N0, rfl⟩
                · have pre33 : ∀ t_, Steps p.tables e below (s₁.setTop (mkF m 76 #[.val (.int k)] [(.int (8 : Int32)), (.int k)])) t_ → Steps p.tables e below (s₁.setTop (entryFrame m #[(.int k)] 1)) t_ := fun t_ k_ => pre29 t_ (by
                    show Steps p.tables e below (s₁.setTop (mkF m 66 #[.val (.int k)] [(.int (7 : Int32)), (.int k)])) _
                    refine XS.icmpYes X0.here hx rfl (pc0 := 66) (pc' := 73) rfl (hb hby d1_66) rfl (feq hc66_30).2 (by decide) (by decide) ?_
                    show Steps p.tables e below (s₁.setTop (mkF m 73 #[.val (.int k)] [])) _
                    refine XS.iloadN X0.here hx rfl (hb hby d1_73) rfl ?_
                    show Steps p.tables e below (s₁.setTop (mkF m 74 #[.val (.int k)] [(.int k)])) _
                    refine XS.bipush X0.here hx rfl (hb hby d1_74) ?_
                    show Steps p.tables e below (s₁.setTop (mkF m 76 #[.val (.int k)] [(.int (8 : Int32)), (.int k)])) _
                    exact k_)
                  by_cases hc76_34 : k = (8 : Int32)
                  · obtain ⟨T35, X35, e35, st35⟩ := getS2 X0 hx hZ hown (host := "") (Or.inl (hw _ (List.mem_of_getElem? (i := 24) rfl))) Via.refl e0 S_CORPORATE (g := (mkF m 79 #[.val (.int k)] [])) rfl (hb hby d1_79)
                    have pre36 : ∀ t_, Steps p.tables e below (T35.setTop (mkF m 82 #[.val (.int k)] [(.ref w_CORPORATE)])) t_ → Steps p.tables e below (s₁.setTop (entryFrame m #[(.int k)] 1)) t_ := fun t_ k_ => pre33 t_ (by
                      show Steps p.tables e below (s₁.setTop (mkF m 76 #[.val (.int k)] [(.int (8 : Int32)), (.int k)])) _
                      refine XS.icmpNo X0.here hx rfl (hb hby d1_76) rfl (teq hc76_34).2 ?_
                      show Steps p.tables e below (s₁.setTop (mkF m 79 #[.val (.int k)] [])) _
                      refine st35 _ ?_
                      show Steps p.tables e below (T35.setTop (mkF m 82 #[.val (.int k)] [(.ref w_CORPORATE)])) _
                      exact k_)
                    obtain ⟨fs, hr, hrun, hended, hW, hsame⟩ := X35.leave (v := some (.ref w_CORPORATE)) (fun h => by rw [Bd.returns] at h; cases h)
                    refine ⟨_, _, pre36 _ ?_, hrun, hended, _, _, rfl, ?_, ⟨_, rfl⟩, hW, hsame.mono (by decide) (by decide)⟩
                    · show Steps p.tables e below (T35.setTop (mkF m 82 #[.val (.int k)] [(.ref w_CORPORATE)])) _
                      exact retA X35 hx Bd.returns rfl rfl rfl (hb hby d1_82) hr
                    · show Q_1 Z k w_CENTRAL_GOVERNMENT w_CENTRAL_BANK w_REGIONAL_GOVERNMENT w_PUBLIC_SECTOR_ENTITY w_MULTILATERAL_DEVELOPMENT_BANK w_INTERNATIONAL_ORGANISATION w_BANK w_INVESTMENT_FIRM w_CORPORATE w_INDIVIDUAL w_NONE h0 n0 _ T35.heap _
                      rw [e35]
                      exact ⟨by rw [own_pick, if_neg hc1_2, if_neg hc10_6, if_neg hc19_10, if_neg hc28_14, if_neg hc37_18, if_neg hc46_22, if_neg hc56_26, if_neg hc66_30, if_pos hc76_34], N0, rfl⟩
                  · have pre37 : ∀ t_, Steps p.tables e below (s₁.setTop (mkF m 86 #[.val (.int k)] [(.int (9 : Int32)), (.int k)])) t_ → Steps p.tables e below (s₁.setTop (entryFrame m #[(.int k)] 1)) t_ := fun t_ k_ => pre33 t_ (by
                      show Steps p.tables e below (s₁.setTop (mkF m 76 #[.val (.int k)] [(.int (8 : Int32)), (.int k)])) _
                      refine XS.icmpYes X0.here hx rfl (pc0 := 76) (pc' := 83) rfl (hb hby d1_76) rfl (feq hc76_34).2 (by decide) (by decide) ?_
                      show Steps p.tables e below (s₁.setTop (mkF m 83 #[.val (.int k)] [])) _
                      refine XS.iloadN X0.here hx rfl (hb hby d1_83) rfl ?_
                      show Steps p.tables e below (s₁.setTop (mkF m 84 #[.val (.int k)] [(.int k)])) _
                      refine XS.bipush X0.here hx rfl (hb hby d1_84) ?_
                      show Steps p.tables e below (s₁.setTop (mkF m 86 #[.val (.int k)] [(.int (9 : Int32)), (.int k)])) _
                      exact k_)
                    by_cases hc86_38 : k = (9 : Int32)
                    · obtain ⟨T39, X39, e39, st39⟩ := getS2 X0 hx hZ hown (host := "") (Or.inl (hw _ (List.mem_of_getElem? (i := 32) rfl))) Via.refl e0 S_INDIVIDUAL (g := (mkF m 89 #[.val (.int k)] [])) rfl (hb hby d1_89)
                      have pre40 : ∀ t_, Steps p.tables e below (T39.setTop (mkF m 92 #[.val (.int k)] [(.ref w_INDIVIDUAL)])) t_ → Steps p.tables e below (s₁.setTop (entryFrame m #[(.int k)] 1)) t_ := fun t_ k_ => pre37 t_ (by
                        show Steps p.tables e below (s₁.setTop (mkF m 86 #[.val (.int k)] [(.int (9 : Int32)), (.int k)])) _
                        refine XS.icmpNo X0.here hx rfl (hb hby d1_86) rfl (teq hc86_38).2 ?_
                        show Steps p.tables e below (s₁.setTop (mkF m 89 #[.val (.int k)] [])) _
                        refine st39 _ ?_
                        show Steps p.tables e below (T39.setTop (mkF m 92 #[.val (.int k)] [(.ref w_INDIVIDUAL)])) _
                        exact k_)
                      obtain ⟨fs, hr, hrun, hended, hW, hsame⟩ := X39.leave (v := some (.ref w_INDIVIDUAL)) (fun h => by rw [Bd.returns] at h; cases h)
                      refine ⟨_, _, pre40 _ ?_, hrun, hended, _, _, rfl, ?_, ⟨_, rfl⟩, hW, hsame.mono (by decide) (by decide)⟩
                      · show Steps p.tables e below (T39.setTop (mkF m 92 #[.val (.int k)] [(.ref w_INDIVIDUAL)])) _
                        exact retA X39 hx Bd.returns rfl rfl rfl (hb hby d1_92) hr
                      · show Q_1 Z k w_CENTRAL_GOVERNMENT w_CENTRAL_BANK w_REGIONAL_GOVERNMENT w_PUBLIC_SECTOR_ENTITY w_MULTILATERAL_DEVELOPMENT_BANK w_INTERNATIONAL_ORGANISATION w_BANK w_INVESTMENT_FIRM w_CORPORATE w_INDIVIDUAL w_NONE h0 n0 _ T39.heap _
                        rw [e39]
                        exact ⟨by rw [own_pick, if_neg hc1_2, if_neg hc10_6, if_neg hc19_10, if_neg hc28_14, if_neg hc37_18, if_neg hc46_22, if_neg hc56_26, if_neg hc66_30, if_neg hc76_34, if_pos hc86_38], N0, rfl⟩
                    · obtain ⟨T41, X41, e41, st41⟩ := getS2 X0 hx hZ hown (host := "") (Or.inl (hw _ (List.mem_of_getElem? (i := 28) rfl))) Via.refl e0 S_NONE (g := (mkF m 93 #[.val (.int k)] [])) rfl (hb hby d1_93)
                      have pre42 : ∀ t_, Steps p.tables e below (T41.setTop (mkF m 96 #[.val (.int k)] [(.ref w_NONE)])) t_ → Steps p.tables e below (s₁.setTop (entryFrame m #[(.int k)] 1)) t_ := fun t_ k_ => pre37 t_ (by
                        show Steps p.tables e below (s₁.setTop (mkF m 86 #[.val (.int k)] [(.int (9 : Int32)), (.int k)])) _
                        refine XS.icmpYes X0.here hx rfl (pc0 := 86) (pc' := 93) rfl (hb hby d1_86) rfl (feq hc86_38).2 (by decide) (by decide) ?_
                        show Steps p.tables e below (s₁.setTop (mkF m 93 #[.val (.int k)] [])) _
                        refine st41 _ ?_
                        show Steps p.tables e below (T41.setTop (mkF m 96 #[.val (.int k)] [(.ref w_NONE)])) _
                        exact k_)
                      obtain ⟨fs, hr, hrun, hended, hW, hsame⟩ := X41.leave (v := some (.ref w_NONE)) (fun h => by rw [Bd.returns] at h; cases h)
                      refine ⟨_, _, pre42 _ ?_, hrun, hended, _, _, rfl, ?_, ⟨_, rfl⟩, hW, hsame.mono (by decide) (by decide)⟩
                      · show Steps p.tables e below (T41.setTop (mkF m 96 #[.val (.int k)] [(.ref w_NONE)])) _
                        exact retA X41 hx Bd.returns rfl rfl rfl (hb hby d1_96) hr
                      · show Q_1 Z k w_CENTRAL_GOVERNMENT w_CENTRAL_BANK w_REGIONAL_GOVERNMENT w_PUBLIC_SECTOR_ENTITY w_MULTILATERAL_DEVELOPMENT_BANK w_INTERNATIONAL_ORGANISATION w_BANK w_INVESTMENT_FIRM w_CORPORATE w_INDIVIDUAL w_NONE h0 n0 _ T41.heap _
                        rw [e41]
                        exact ⟨by rw [own_pick, if_neg hc1_2, if_neg hc10_6, if_neg hc19_10, if_neg hc28_14, if_neg hc37_18, if_neg hc46_22, if_neg hc56_26, if_neg hc66_30, if_neg hc76_34, if_neg hc86_38], N0, rfl⟩
theorem ef_3 (m : MethodId) (k : Int32) : entryFrame m #[(.int k)] 1 = mkF m 0 #[.val (.int k)] [] := by first | (simp [entryFrame, mkF, argsToLocals, Value.category]; done) | rfl
def Q_3 (Z : State) (k : Int32) (h0 : Heap) (n0 : Nat) (v : Option Value) (h : Heap) (L : List Loc) : Prop := v = some (.int (own_exp k)) ∧ Fr n0 L ∧ h = h0
theorem d3_0 : decode method_3_code 0 = .ok (.iload_n 0, 1) := by decide +kernel
theorem d3_1 : decode method_3_code 1 = .ok (.iconst 4, 1) := by decide +kernel
theorem d3_2 : decode method_3_code 2 = .ok (.if_icmp .ne 5, 3) := by decide +kernel
theorem d3_5 : decode method_3_code 5 = .ok (.iconst 1, 1) := by decide +kernel
theorem d3_6 : decode method_3_code 6 = .ok (.ireturn, 1) := by decide +kernel
theorem d3_7 : decode method_3_code 7 = .ok (.iload_n 0, 1) := by decide +kernel
theorem d3_8 : decode method_3_code 8 = .ok (.iconst 5, 1) := by decide +kernel
theorem d3_9 : decode method_3_code 9 = .ok (.if_icmp .ne 5, 3) := by decide +kernel
theorem d3_12 : decode method_3_code 12 = .ok (.iconst 1, 1) := by decide +kernel
theorem d3_13 : decode method_3_code 13 = .ok (.ireturn, 1) := by decide +kernel
theorem d3_14 : decode method_3_code 14 = .ok (.iconst 0, 1) := by decide +kernel
theorem d3_15 : decode method_3_code 15 = .ok (.ireturn, 1) := by decide +kernel
set_option maxRecDepth 65536 in
set_option maxHeartbeats 40000000 in
theorem rm_3 (l : Launch) (Z : State) (a0 : Array Value) (hw : ∀ d ∈ tables_1, d.before a0 Z = true) (ws : List Jvm.Cond) (k : Int32) (h0 : Heap) (n0 : Nat) (Z0 : n0 ≤ h0.size) :
    MetFree l (⟨"com/example/ponderat/ponderat/CounterpartyTypeIsNamedByEntityCodePinLaw", "expected", "(I)Z"⟩ : MethodName) (head1 (Jvm.Cond.code (⟨"com/example/ponderat/ponderat/CounterpartyTypeIsNamedByEntityCodePinLaw", "expected", "(I)Z"⟩ : MethodName) method_3_code 1 (some .boolean) :: ws) ({ frames := 0, cells := 0, slots := 0, locals := 0 } : Room)) (fun a_ U_ => a_ = #[(.int k)] ∧ Z.Warmed39 U_.vm ∧ U_.heap = h0) (fun _ _ _ _ _ => True) (fun _ U_ o_ V_ => ∃ v_ L_, o_ = .returned v_ ∧ Q_3 Z k h0 n0 v_ V_.heap L_ ∧ FrameEnd U_ o_ V_ L_ ({ frames := 0, cells := 0, slots := 0, locals := 0 } : Room).cells ({ frames := 0, cells := 0, slots := 0, locals := 0 } : Room).slots) := by
  refine MetFree.of_bodySF (plainFor_of_name pn_0) hisR ?_
  intro p e s m args below meth c s₁ Bd hml0 hP hK
  obtain ⟨rfl, hZ, hh⟩ := hP
  have hx := Bd.exec
  have hby := Bd.bytes
  have hml : c.maxLocals = 1 := hml0
  have hown : s.vm.findClass "com/example/ponderat/ponderat/CounterpartyTypeIsNamedByEntityCodePinLaw" = some m.cls := findClass_of_methodNamed Bd.named
  have hnm := (name_of_methodNamed Bd.named Bd.method).1
  have X0 : Stand p l e ({ frames := 0, cells := 0, slots := 0, locals := 0 } : Room) s m #[(.int k)] below meth c s₁ [] 0 0 := Stand.of_body Bd
  have e0 : s₁.heap = h0 := by rw [← hh, Bd.state]; rfl
  have N0 := Fr.nil n0
  have pre0 : ∀ t_, Steps p.tables e below (s₁.setTop (mkF m 0 #[.val (.int k)] [])) t_ → Steps p.tables e below (s₁.setTop (entryFrame m #[(.int k)] 1)) t_ := fun t_ k_ => castTop (ef_3 m k) k_
  have pre43 : ∀ t_, Steps p.tables e below (s₁.setTop (mkF m 2 #[.val (.int k)] [(.int (4 : Int32)), (.int k)])) t_ → Steps p.tables e below (s₁.setTop (entryFrame m #[(.int k)] 1)) t_ := fun t_ k_ => pre0 t_ (by
    show Steps p.tables e below (s₁.setTop (mkF m 0 #[.val (.int k)] [])) _
    refine XS.iloadN X0.here hx rfl (hb hby d3_0) rfl ?_
    show Steps p.tables e below (s₁.setTop (mkF m 1 #[.val (.int k)] [(.int k)])) _
    refine XS.iconst X0.here hx rfl (hb hby d3_1) ?_
    show Steps p.tables e below (s₁.setTop (mkF m 2 #[.val (.int k)] [(.int (4 : Int32)), (.int k)])) _
    exact k_)
  by_cases hc2_44 : k = (4 : Int32)
  · have pre45 : ∀ t_, Steps p.tables e below (s₁.setTop (mkF m 6 #[.val (.int k)] [(.int (1 : Int32))])) t_ → Steps p.tables e below (s₁.setTop (entryFrame m #[(.int k)] 1)) t_ := fun t_ k_ => pre43 t_ (by
      show Steps p.tables e below (s₁.setTop (mkF m 2 #[.val (.int k)] [(.int (4 : Int32)), (.int k)])) _
      refine XS.icmpNo X0.here hx rfl (hb hby d3_2) rfl (teq hc2_44).2 ?_
      show Steps p.tables e below (s₁.setTop (mkF m 5 #[.val (.int k)] [])) _
      refine XS.iconst X0.here hx rfl (hb hby d3_5) ?_
      show Steps p.tables e below (s₁.setTop (mkF m 6 #[.val (.int k)] [(.int (1 : Int32))])) _
      exact k_)
    obtain ⟨fs, hr, hrun, hended, hW, hsame⟩ := X0.leave (v := some (.int (1 : Int32))) (fun h => by rw [Bd.returns] at h; cases h)
    refine ⟨_, _, pre45 _ ?_, hrun, hended, _, _, rfl, ?_, ⟨_, rfl⟩, hW, hsame.mono (by decide) (by decide)⟩
    · show Steps p.tables e below (s₁.setTop (mkF m 6 #[.val (.int k)] [(.int (1 : Int32))])) _
      exact retN X0 hx (t := .boolean) Bd.returns (by simp) (hb hby d3_6) hr
    · show Q_3 Z k h0 n0 _ s₁.heap _
      rw [e0]
      exact ⟨by rw [own_exp, if_pos hc2_44], N0, rfl⟩
  · have pre46 : ∀ t_, Steps p.tables e below (s₁.setTop (mkF m 9 #[.val (.int k)] [(.int (5 : Int32)), (.int k)])) t_ → Steps p.tables e below (s₁.setTop (entryFrame m #[(.int k)] 1)) t_ := fun t_ k_ => pre43 t_ (by
      show Steps p.tables e below (s₁.setTop (mkF m 2 #[.val (.int k)] [(.int (4 : Int32)), (.int k)])) _
      refine XS.icmpYes X0.here hx rfl (pc0 := 2) (pc' := 7) rfl (hb hby d3_2) rfl (feq hc2_44).2 (by decide) (by decide) ?_
      show Steps p.tables e below (s₁.setTop (mkF m 7 #[.val (.int k)] [])) _
      refine XS.iloadN X0.here hx rfl (hb hby d3_7) rfl ?_
      show Steps p.tables e below (s₁.setTop (mkF m 8 #[.val (.int k)] [(.int k)])) _
      refine XS.iconst X0.here hx rfl (hb hby d3_8) ?_
      show Steps p.tables e below (s₁.setTop (mkF m 9 #[.val (.int k)] [(.int (5 : Int32)), (.int k)])) _
      exact k_)
    by_cases hc9_47 : k = (5 : Int32)
    · have pre48 : ∀ t_, Steps p.tables e below (s₁.setTop (mkF m 13 #[.val (.int k)] [(.int (1 : Int32))])) t_ → Steps p.tables e below (s₁.setTop (entryFrame m #[(.int k)] 1)) t_ := fun t_ k_ => pre46 t_ (by
        show Steps p.tables e below (s₁.setTop (mkF m 9 #[.val (.int k)] [(.int (5 : Int32)), (.int k)])) _
        refine XS.icmpNo X0.here hx rfl (hb hby d3_9) rfl (teq hc9_47).2 ?_
        show Steps p.tables e below (s₁.setTop (mkF m 12 #[.val (.int k)] [])) _
        refine XS.iconst X0.here hx rfl (hb hby d3_12) ?_
        show Steps p.tables e below (s₁.setTop (mkF m 13 #[.val (.int k)] [(.int (1 : Int32))])) _
        exact k_)
      obtain ⟨fs, hr, hrun, hended, hW, hsame⟩ := X0.leave (v := some (.int (1 : Int32))) (fun h => by rw [Bd.returns] at h; cases h)
      refine ⟨_, _, pre48 _ ?_, hrun, hended, _, _, rfl, ?_, ⟨_, rfl⟩, hW, hsame.mono (by decide) (by decide)⟩
      · show Steps p.tables e below (s₁.setTop (mkF m 13 #[.val (.int k)] [(.int (1 : Int32))])) _
        exact retN X0 hx (t := .boolean) Bd.returns (by simp) (hb hby d3_13) hr
      · show Q_3 Z k h0 n0 _ s₁.heap _
        rw [e0]
        exact ⟨by rw [own_exp, if_neg hc2_44, if_pos hc9_47], N0, rfl⟩
    · have pre49 : ∀ t_, Steps p.tables e below (s₁.setTop (mkF m 15 #[.val (.int k)] [(.int (0 : Int32))])) t_ → Steps p.tables e below (s₁.setTop (entryFrame m #[(.int k)] 1)) t_ := fun t_ k_ => pre46 t_ (by
        show Steps p.tables e below (s₁.setTop (mkF m 9 #[.val (.int k)] [(.int (5 : Int32)), (.int k)])) _
        refine XS.icmpYes X0.here hx rfl (pc0 := 9) (pc' := 14) rfl (hb hby d3_9) rfl (feq hc9_47).2 (by decide) (by decide) ?_
        show Steps p.tables e below (s₁.setTop (mkF m 14 #[.val (.int k)] [])) _
        refine XS.iconst X0.here hx rfl (hb hby d3_14) ?_
        show Steps p.tables e below (s₁.setTop (mkF m 15 #[.val (.int k)] [(.int (0 : Int32))])) _
        exact k_)
      obtain ⟨fs, hr, hrun, hended, hW, hsame⟩ := X0.leave (v := some (.int (0 : Int32))) (fun h => by rw [Bd.returns] at h; cases h)
      refine ⟨_, _, pre49 _ ?_, hrun, hended, _, _, rfl, ?_, ⟨_, rfl⟩, hW, hsame.mono (by decide) (by decide)⟩
      · show Steps p.tables e below (s₁.setTop (mkF m 15 #[.val (.int k)] [(.int (0 : Int32))])) _
        exact retN X0 hx (t := .boolean) Bd.returns (by simp) (hb hby d3_15) hr
      · show Q_3 Z k h0 n0 _ s₁.heap _
        rw [e0]
        exact ⟨by rw [own_exp, if_neg hc2_44, if_neg hc9_47], N0, rfl⟩
theorem ef_2 (m : MethodId) (a : Addr) : entryFrame m #[(.ref a)] 1 = mkF m 0 #[.val (.ref a)] [] := by first | (simp [entryFrame, mkF, argsToLocals, Value.category]; done) | rfl
def Q_2 (Z : State) (a : Addr) (w_MULTILATERAL_DEVELOPMENT_BANK : Addr) (w_INTERNATIONAL_ORGANISATION : Addr) (h0 : Heap) (n0 : Nat) (v : Option Value) (h : Heap) (L : List Loc) : Prop := v = some (.int (own_named a w_MULTILATERAL_DEVELOPMENT_BANK w_INTERNATIONAL_ORGANISATION)) ∧ Fr n0 L ∧ h = h0
theorem pn_1 : plainName "com/example/ponderat/ponderat/CounterpartyType" = true := by first | (simp [plainName, overriddenIn]; done) | decide +kernel
theorem d2_0 : decode prog_5_method_4_code 0 = .ok (.aload_n 0, 1) := by decide +kernel
theorem d2_1 : decode prog_5_method_4_code 1 = .ok (.getstatic 16, 3) := by decide +kernel
theorem d2_4 : decode prog_5_method_4_code 4 = .ok (.if_acmp .eq 10, 3) := by decide +kernel
theorem d2_14 : decode prog_5_method_4_code 14 = .ok (.iconst 1, 1) := by decide +kernel
theorem d2_15 : decode prog_5_method_4_code 15 = .ok (.goto 4, 3) := by decide +kernel
theorem d2_19 : decode prog_5_method_4_code 19 = .ok (.ireturn, 1) := by decide +kernel
theorem d2_7 : decode prog_5_method_4_code 7 = .ok (.aload_n 0, 1) := by decide +kernel
theorem d2_8 : decode prog_5_method_4_code 8 = .ok (.getstatic 19, 3) := by decide +kernel
theorem d2_11 : decode prog_5_method_4_code 11 = .ok (.if_acmp .ne 7, 3) := by decide +kernel
theorem d2_18 : decode prog_5_method_4_code 18 = .ok (.iconst 0, 1) := by decide +kernel
set_option maxRecDepth 65536 in
set_option maxHeartbeats 40000000 in
theorem rm_2 (l : Launch) (Z : State) (a0 : Array Value) (hw : ∀ d ∈ tables_1, d.before a0 Z = true) (ws : List Jvm.Cond) (a : Addr) (w_MULTILATERAL_DEVELOPMENT_BANK : Addr) (w_INTERNATIONAL_ORGANISATION : Addr) (h0 : Heap) (n0 : Nat) (Z0 : n0 ≤ h0.size) (S_MULTILATERAL_DEVELOPMENT_BANK : Sta Z h0 "com/example/ponderat/ponderat/CounterpartyType" "MULTILATERAL_DEVELOPMENT_BANK" "Lcom/example/ponderat/ponderat/CounterpartyType;" (.ref w_MULTILATERAL_DEVELOPMENT_BANK)) (S_INTERNATIONAL_ORGANISATION : Sta Z h0 "com/example/ponderat/ponderat/CounterpartyType" "INTERNATIONAL_ORGANISATION" "Lcom/example/ponderat/ponderat/CounterpartyType;" (.ref w_INTERNATIONAL_ORGANISATION)) :
    MetFree l (⟨"com/example/ponderat/ponderat/CounterpartyType", "isNamedByEntityCode", "()Z"⟩ : MethodName) (head1 (Jvm.Cond.code (⟨"com/example/ponderat/ponderat/CounterpartyType", "isNamedByEntityCode", "()Z"⟩ : MethodName) prog_5_method_4_code 1 (some .boolean) :: ws) ({ frames := 0, cells := 0, slots := 0, locals := 0 } : Room)) (fun a_ U_ => a_ = #[(.ref a)] ∧ Z.Warmed39 U_.vm ∧ U_.heap = h0) (fun _ _ _ _ _ => True) (fun _ U_ o_ V_ => ∃ v_ L_, o_ = .returned v_ ∧ Q_2 Z a w_MULTILATERAL_DEVELOPMENT_BANK w_INTERNATIONAL_ORGANISATION h0 n0 v_ V_.heap L_ ∧ FrameEnd U_ o_ V_ L_ ({ frames := 0, cells := 0, slots := 0, locals := 0 } : Room).cells ({ frames := 0, cells := 0, slots := 0, locals := 0 } : Room).slots) := by
  refine MetFree.of_bodySF (plainFor_of_name pn_1) hisR ?_
  intro p e s m args below meth c s₁ Bd hml0 hP hK
  obtain ⟨rfl, hZ, hh⟩ := hP
  have hx := Bd.exec
  have hby := Bd.bytes
  have hml : c.maxLocals = 1 := hml0
  have hown : s.vm.findClass "com/example/ponderat/ponderat/CounterpartyType" = some m.cls := findClass_of_methodNamed Bd.named
  have hnm := (name_of_methodNamed Bd.named Bd.method).1
  have X0 : Stand p l e ({ frames := 0, cells := 0, slots := 0, locals := 0 } : Room) s m #[(.ref a)] below meth c s₁ [] 0 0 := Stand.of_body Bd
  have e0 : s₁.heap = h0 := by rw [← hh, Bd.state]; rfl
  have N0 := Fr.nil n0
  have pre0 : ∀ t_, Steps p.tables e below (s₁.setTop (mkF m 0 #[.val (.ref a)] [])) t_ → Steps p.tables e below (s₁.setTop (entryFrame m #[(.ref a)] 1)) t_ := fun t_ k_ => castTop (ef_2 m a) k_
  obtain ⟨T50, X50, e50, st50⟩ := getS2 X0 hx hZ hown (host := "") (Or.inl (hw _ (List.mem_of_getElem? (i := 13) rfl))) Via.refl e0 S_MULTILATERAL_DEVELOPMENT_BANK (g := (mkF m 1 #[.val (.ref a)] [(.ref a)])) rfl (hb hby d2_1)
  have pre51 : ∀ t_, Steps p.tables e below (T50.setTop (mkF m 4 #[.val (.ref a)] [(.ref w_MULTILATERAL_DEVELOPMENT_BANK), (.ref a)])) t_ → Steps p.tables e below (s₁.setTop (entryFrame m #[(.ref a)] 1)) t_ := fun t_ k_ => pre0 t_ (by
    show Steps p.tables e below (s₁.setTop (mkF m 0 #[.val (.ref a)] [])) _
    refine XS.aloadN X0.here hx rfl (hb hby d2_0) rfl rfl ?_
    show Steps p.tables e below (s₁.setTop (mkF m 1 #[.val (.ref a)] [(.ref a)])) _
    refine st50 _ ?_
    show Steps p.tables e below (T50.setTop (mkF m 4 #[.val (.ref a)] [(.ref w_MULTILATERAL_DEVELOPMENT_BANK), (.ref a)])) _
    exact k_)
  by_cases hc4_52 : a = w_MULTILATERAL_DEVELOPMENT_BANK
  · have pre53 : ∀ t_, Steps p.tables e below (T50.setTop (mkF m 19 #[.val (.ref a)] [(.int (1 : Int32))])) t_ → Steps p.tables e below (s₁.setTop (entryFrame m #[(.ref a)] 1)) t_ := fun t_ k_ => pre51 t_ (by
      show Steps p.tables e below (T50.setTop (mkF m 4 #[.val (.ref a)] [(.ref w_MULTILATERAL_DEVELOPMENT_BANK), (.ref a)])) _
      refine Jvm.RoadKit.acmp (g := (mkF m 4 #[.val (.ref a)] [(.ref w_MULTILATERAL_DEVELOPMENT_BANK), (.ref a)])) X50 hx rfl rfl rfl (pc0 := 4) (pc' := 14) (same := true) rfl (hb hby d2_4) rfl (decide_eq_true (congrArg Value.ref hc4_52)) (by decide) (by decide) ?_
      show Steps p.tables e below (T50.setTop (mkF m 14 #[.val (.ref a)] [])) _
      refine XS.iconst X50.here hx rfl (hb hby d2_14) ?_
      show Steps p.tables e below (T50.setTop (mkF m 15 #[.val (.ref a)] [(.int (1 : Int32))])) _
      refine XS.goto X50.here hx rfl (pc0 := 15) (pc' := 19) rfl (hb hby d2_15) (by decide) (by decide) ?_
      show Steps p.tables e below (T50.setTop (mkF m 19 #[.val (.ref a)] [(.int (1 : Int32))])) _
      exact k_)
    obtain ⟨fs, hr, hrun, hended, hW, hsame⟩ := X50.leave (v := some (.int (1 : Int32))) (fun h => by rw [Bd.returns] at h; cases h)
    refine ⟨_, _, pre53 _ ?_, hrun, hended, _, _, rfl, ?_, ⟨_, rfl⟩, hW, hsame.mono (by decide) (by decide)⟩
    · show Steps p.tables e below (T50.setTop (mkF m 19 #[.val (.ref a)] [(.int (1 : Int32))])) _
      exact retN X50 hx (t := .boolean) Bd.returns (by simp) (hb hby d2_19) hr
    · show Q_2 Z a w_MULTILATERAL_DEVELOPMENT_BANK w_INTERNATIONAL_ORGANISATION h0 n0 _ T50.heap _
      rw [e50]
      exact ⟨by rw [own_named, if_pos hc4_52], N0, rfl⟩
  · obtain ⟨T54, X54, e54, st54⟩ := getS2 X50 hx hZ hown (host := "") (Or.inl (hw _ (List.mem_of_getElem? (i := 15) rfl))) Via.refl e50 S_INTERNATIONAL_ORGANISATION (g := (mkF m 8 #[.val (.ref a)] [(.ref a)])) rfl (hb hby d2_8)
    have pre55 : ∀ t_, Steps p.tables e below (T54.setTop (mkF m 11 #[.val (.ref a)] [(.ref w_INTERNATIONAL_ORGANISATION), (.ref a)])) t_ → Steps p.tables e below (s₁.setTop (entryFrame m #[(.ref a)] 1)) t_ := fun t_ k_ => pre51 t_ (by
      show Steps p.tables e below (T50.setTop (mkF m 4 #[.val (.ref a)] [(.ref w_MULTILATERAL_DEVELOPMENT_BANK), (.ref a)])) _
      refine Jvm.RoadKit.acmp (g := (mkF m 4 #[.val (.ref a)] [(.ref w_MULTILATERAL_DEVELOPMENT_BANK), (.ref a)])) X50 hx rfl rfl rfl (pc0 := 4) (pc' := 7) (same := false) rfl (hb hby d2_4) rfl (decide_eq_false fun q_ => hc4_52 (Value.ref.inj q_)) (by decide) (by decide) ?_
      show Steps p.tables e below (T50.setTop (mkF m 7 #[.val (.ref a)] [])) _
      refine XS.aloadN X50.here hx rfl (hb hby d2_7) rfl rfl ?_
      show Steps p.tables e below (T50.setTop (mkF m 8 #[.val (.ref a)] [(.ref a)])) _
      refine st54 _ ?_
      show Steps p.tables e below (T54.setTop (mkF m 11 #[.val (.ref a)] [(.ref w_INTERNATIONAL_ORGANISATION), (.ref a)])) _
      exact k_)
    by_cases hc11_56 : a = w_INTERNATIONAL_ORGANISATION
    · have pre57 : ∀ t_, Steps p.tables e below (T54.setTop (mkF m 19 #[.val (.ref a)] [(.int (1 : Int32))])) t_ → Steps p.tables e below (s₁.setTop (entryFrame m #[(.ref a)] 1)) t_ := fun t_ k_ => pre55 t_ (by
        show Steps p.tables e below (T54.setTop (mkF m 11 #[.val (.ref a)] [(.ref w_INTERNATIONAL_ORGANISATION), (.ref a)])) _
        refine Jvm.RoadKit.acmp (g := (mkF m 11 #[.val (.ref a)] [(.ref w_INTERNATIONAL_ORGANISATION), (.ref a)])) X54 hx rfl rfl rfl (pc0 := 11) (pc' := 14) (same := true) rfl (hb hby d2_11) rfl (decide_eq_true (congrArg Value.ref hc11_56)) (by decide) (by decide) ?_
        show Steps p.tables e below (T54.setTop (mkF m 14 #[.val (.ref a)] [])) _
        refine XS.iconst X54.here hx rfl (hb hby d2_14) ?_
        show Steps p.tables e below (T54.setTop (mkF m 15 #[.val (.ref a)] [(.int (1 : Int32))])) _
        refine XS.goto X54.here hx rfl (pc0 := 15) (pc' := 19) rfl (hb hby d2_15) (by decide) (by decide) ?_
        show Steps p.tables e below (T54.setTop (mkF m 19 #[.val (.ref a)] [(.int (1 : Int32))])) _
        exact k_)
      obtain ⟨fs, hr, hrun, hended, hW, hsame⟩ := X54.leave (v := some (.int (1 : Int32))) (fun h => by rw [Bd.returns] at h; cases h)
      refine ⟨_, _, pre57 _ ?_, hrun, hended, _, _, rfl, ?_, ⟨_, rfl⟩, hW, hsame.mono (by decide) (by decide)⟩
      · show Steps p.tables e below (T54.setTop (mkF m 19 #[.val (.ref a)] [(.int (1 : Int32))])) _
        exact retN X54 hx (t := .boolean) Bd.returns (by simp) (hb hby d2_19) hr
      · show Q_2 Z a w_MULTILATERAL_DEVELOPMENT_BANK w_INTERNATIONAL_ORGANISATION h0 n0 _ T54.heap _
        rw [e54]
        exact ⟨by rw [own_named, if_neg hc4_52, if_pos hc11_56], N0, rfl⟩
    · have pre58 : ∀ t_, Steps p.tables e below (T54.setTop (mkF m 19 #[.val (.ref a)] [(.int (0 : Int32))])) t_ → Steps p.tables e below (s₁.setTop (entryFrame m #[(.ref a)] 1)) t_ := fun t_ k_ => pre55 t_ (by
        show Steps p.tables e below (T54.setTop (mkF m 11 #[.val (.ref a)] [(.ref w_INTERNATIONAL_ORGANISATION), (.ref a)])) _
        refine Jvm.RoadKit.acmp (g := (mkF m 11 #[.val (.ref a)] [(.ref w_INTERNATIONAL_ORGANISATION), (.ref a)])) X54 hx rfl rfl rfl (pc0 := 11) (pc' := 18) (same := false) rfl (hb hby d2_11) rfl (decide_eq_false fun q_ => hc11_56 (Value.ref.inj q_)) (by decide) (by decide) ?_
        show Steps p.tables e below (T54.setTop (mkF m 18 #[.val (.ref a)] [])) _
        refine XS.iconst X54.here hx rfl (hb hby d2_18) ?_
        show Steps p.tables e below (T54.setTop (mkF m 19 #[.val (.ref a)] [(.int (0 : Int32))])) _
        exact k_)
      obtain ⟨fs, hr, hrun, hended, hW, hsame⟩ := X54.leave (v := some (.int (0 : Int32))) (fun h => by rw [Bd.returns] at h; cases h)
      refine ⟨_, _, pre58 _ ?_, hrun, hended, _, _, rfl, ?_, ⟨_, rfl⟩, hW, hsame.mono (by decide) (by decide)⟩
      · show Steps p.tables e below (T54.setTop (mkF m 19 #[.val (.ref a)] [(.int (0 : Int32))])) _
        exact retN X54 hx (t := .boolean) Bd.returns (by simp) (hb hby d2_19) hr
      · show Q_2 Z a w_MULTILATERAL_DEVELOPMENT_BANK w_INTERNATIONAL_ORGANISATION h0 n0 _ T54.heap _
        rw [e54]
        exact ⟨by rw [own_named, if_neg hc4_52, if_neg hc11_56], N0, rfl⟩
theorem own_law (k : Int32) (w_CENTRAL_GOVERNMENT w_CENTRAL_BANK w_REGIONAL_GOVERNMENT w_PUBLIC_SECTOR_ENTITY w_MULTILATERAL_DEVELOPMENT_BANK w_INTERNATIONAL_ORGANISATION w_BANK w_INVESTMENT_FIRM w_CORPORATE w_INDIVIDUAL w_NONE : Addr) (n_CENTRAL_GOVERNMENT_MULTILATERAL_DEVELOPMENT_BANK : w_CENTRAL_GOVERNMENT ≠ w_MULTILATERAL_DEVELOPMENT_BANK) (n_CENTRAL_GOVERNMENT_INTERNATIONAL_ORGANISATION : w_CENTRAL_GOVERNMENT ≠ w_INTERNATIONAL_ORGANISATION) (n_CENTRAL_BANK_MULTILATERAL_DEVELOPMENT_BANK : w_CENTRAL_BANK ≠ w_MULTILATERAL_DEVELOPMENT_BANK) (n_CENTRAL_BANK_INTERNATIONAL_ORGANISATION : w_CENTRAL_BANK ≠ w_INTERNATIONAL_ORGANISATION) (n_REGIONAL_GOVERNMENT_MULTILATERAL_DEVELOPMENT_BANK : w_REGIONAL_GOVERNMENT ≠ w_MULTILATERAL_DEVELOPMENT_BANK) (n_REGIONAL_GOVERNMENT_INTERNATIONAL_ORGANISATION : w_REGIONAL_GOVERNMENT ≠ w_INTERNATIONAL_ORGANISATION) (n_PUBLIC_SECTOR_ENTITY_MULTILATERAL_DEVELOPMENT_BANK : w_PUBLIC_SECTOR_ENTITY ≠ w_MULTILATERAL_DEVELOPMENT_BANK) (n_PUBLIC_SECTOR_ENTITY_INTERNATIONAL_ORGANISATION : w_PUBLIC_SECTOR_ENTITY ≠ w_INTERNATIONAL_ORGANISATION) (n_MULTILATERAL_DEVELOPMENT_BANK_INTERNATIONAL_ORGANISATION : w_MULTILATERAL_DEVELOPMENT_BANK ≠ w_INTERNATIONAL_ORGANISATION) (n_INTERNATIONAL_ORGANISATION_MULTILATERAL_DEVELOPMENT_BANK : w_INTERNATIONAL_ORGANISATION ≠ w_MULTILATERAL_DEVELOPMENT_BANK) (n_BANK_MULTILATERAL_DEVELOPMENT_BANK : w_BANK ≠ w_MULTILATERAL_DEVELOPMENT_BANK) (n_BANK_INTERNATIONAL_ORGANISATION : w_BANK ≠ w_INTERNATIONAL_ORGANISATION) (n_INVESTMENT_FIRM_MULTILATERAL_DEVELOPMENT_BANK : w_INVESTMENT_FIRM ≠ w_MULTILATERAL_DEVELOPMENT_BANK) (n_INVESTMENT_FIRM_INTERNATIONAL_ORGANISATION : w_INVESTMENT_FIRM ≠ w_INTERNATIONAL_ORGANISATION) (n_CORPORATE_MULTILATERAL_DEVELOPMENT_BANK : w_CORPORATE ≠ w_MULTILATERAL_DEVELOPMENT_BANK) (n_CORPORATE_INTERNATIONAL_ORGANISATION : w_CORPORATE ≠ w_INTERNATIONAL_ORGANISATION) (n_INDIVIDUAL_MULTILATERAL_DEVELOPMENT_BANK : w_INDIVIDUAL ≠ w_MULTILATERAL_DEVELOPMENT_BANK) (n_INDIVIDUAL_INTERNATIONAL_ORGANISATION : w_INDIVIDUAL ≠ w_INTERNATIONAL_ORGANISATION) (n_NONE_MULTILATERAL_DEVELOPMENT_BANK : w_NONE ≠ w_MULTILATERAL_DEVELOPMENT_BANK) (n_NONE_INTERNATIONAL_ORGANISATION : w_NONE ≠ w_INTERNATIONAL_ORGANISATION) : own_named (own_pick k w_CENTRAL_GOVERNMENT w_CENTRAL_BANK w_REGIONAL_GOVERNMENT w_PUBLIC_SECTOR_ENTITY w_MULTILATERAL_DEVELOPMENT_BANK w_INTERNATIONAL_ORGANISATION w_BANK w_INVESTMENT_FIRM w_CORPORATE w_INDIVIDUAL w_NONE) w_MULTILATERAL_DEVELOPMENT_BANK w_INTERNATIONAL_ORGANISATION = own_exp k := by
  unfold own_named own_pick own_exp
  by_cases h0 : k = (0 : Int32)
  · subst h0; simp [n_CENTRAL_GOVERNMENT_MULTILATERAL_DEVELOPMENT_BANK, n_CENTRAL_GOVERNMENT_INTERNATIONAL_ORGANISATION]
  by_cases h1 : k = (1 : Int32)
  · subst h1; simp [n_CENTRAL_BANK_MULTILATERAL_DEVELOPMENT_BANK, n_CENTRAL_BANK_INTERNATIONAL_ORGANISATION]
  by_cases h2 : k = (2 : Int32)
  · subst h2; simp [n_REGIONAL_GOVERNMENT_MULTILATERAL_DEVELOPMENT_BANK, n_REGIONAL_GOVERNMENT_INTERNATIONAL_ORGANISATION]
  by_cases h3 : k = (3 : Int32)
  · subst h3; simp [n_PUBLIC_SECTOR_ENTITY_MULTILATERAL_DEVELOPMENT_BANK, n_PUBLIC_SECTOR_ENTITY_INTERNATIONAL_ORGANISATION]
  by_cases h4 : k = (4 : Int32)
  · subst h4; simp [n_MULTILATERAL_DEVELOPMENT_BANK_INTERNATIONAL_ORGANISATION]
  by_cases h5 : k = (5 : Int32)
  · subst h5; simp [n_INTERNATIONAL_ORGANISATION_MULTILATERAL_DEVELOPMENT_BANK]
  by_cases h6 : k = (6 : Int32)
  · subst h6; simp [n_BANK_MULTILATERAL_DEVELOPMENT_BANK, n_BANK_INTERNATIONAL_ORGANISATION]
  by_cases h7 : k = (7 : Int32)
  · subst h7; simp [n_INVESTMENT_FIRM_MULTILATERAL_DEVELOPMENT_BANK, n_INVESTMENT_FIRM_INTERNATIONAL_ORGANISATION]
  by_cases h8 : k = (8 : Int32)
  · subst h8; simp [n_CORPORATE_MULTILATERAL_DEVELOPMENT_BANK, n_CORPORATE_INTERNATIONAL_ORGANISATION]
  by_cases h9 : k = (9 : Int32)
  · subst h9; simp [n_INDIVIDUAL_MULTILATERAL_DEVELOPMENT_BANK, n_INDIVIDUAL_INTERNATIONAL_ORGANISATION]
  · simp [h0, h1, h2, h3, h4, h5, h6, h7, h8, h9, n_NONE_MULTILATERAL_DEVELOPMENT_BANK, n_NONE_INTERNATIONAL_ORGANISATION]
theorem own_pick_exa (Z : State) (h : Heap) (k : Int32) (w_CENTRAL_GOVERNMENT w_CENTRAL_BANK w_REGIONAL_GOVERNMENT w_PUBLIC_SECTOR_ENTITY w_MULTILATERAL_DEVELOPMENT_BANK w_INTERNATIONAL_ORGANISATION w_BANK w_INVESTMENT_FIRM w_CORPORATE w_INDIVIDUAL w_NONE : Addr) (E_CENTRAL_GOVERNMENT : Exa Z h w_CENTRAL_GOVERNMENT "com/example/ponderat/ponderat/CounterpartyType") (E_CENTRAL_BANK : Exa Z h w_CENTRAL_BANK "com/example/ponderat/ponderat/CounterpartyType") (E_REGIONAL_GOVERNMENT : Exa Z h w_REGIONAL_GOVERNMENT "com/example/ponderat/ponderat/CounterpartyType") (E_PUBLIC_SECTOR_ENTITY : Exa Z h w_PUBLIC_SECTOR_ENTITY "com/example/ponderat/ponderat/CounterpartyType") (E_MULTILATERAL_DEVELOPMENT_BANK : Exa Z h w_MULTILATERAL_DEVELOPMENT_BANK "com/example/ponderat/ponderat/CounterpartyType") (E_INTERNATIONAL_ORGANISATION : Exa Z h w_INTERNATIONAL_ORGANISATION "com/example/ponderat/ponderat/CounterpartyType") (E_BANK : Exa Z h w_BANK "com/example/ponderat/ponderat/CounterpartyType") (E_INVESTMENT_FIRM : Exa Z h w_INVESTMENT_FIRM "com/example/ponderat/ponderat/CounterpartyType") (E_CORPORATE : Exa Z h w_CORPORATE "com/example/ponderat/ponderat/CounterpartyType") (E_INDIVIDUAL : Exa Z h w_INDIVIDUAL "com/example/ponderat/ponderat/CounterpartyType") (E_NONE : Exa Z h w_NONE "com/example/ponderat/ponderat/CounterpartyType") : Exa Z h (own_pick k w_CENTRAL_GOVERNMENT w_CENTRAL_BANK w_REGIONAL_GOVERNMENT w_PUBLIC_SECTOR_ENTITY w_MULTILATERAL_DEVELOPMENT_BANK w_INTERNATIONAL_ORGANISATION w_BANK w_INVESTMENT_FIRM w_CORPORATE w_INDIVIDUAL w_NONE) "com/example/ponderat/ponderat/CounterpartyType" := by
  unfold own_pick
  repeat' split
  all_goals assumption
theorem ef_0 (m : MethodId) (k0 : Int32) : entryFrame m #[(.int k0)] maxLocals = mkF m 0 #[.val (.int k0), .unset, .unset] [] := by first | (simp [entryFrame, mkF, argsToLocals, Value.category, maxLocals]; done) | rfl
def Q_0 (Z : State) (k0 : Int32) (w_CENTRAL_GOVERNMENT : Addr) (w_CENTRAL_BANK : Addr) (w_REGIONAL_GOVERNMENT : Addr) (w_PUBLIC_SECTOR_ENTITY : Addr) (w_MULTILATERAL_DEVELOPMENT_BANK : Addr) (w_INTERNATIONAL_ORGANISATION : Addr) (w_BANK : Addr) (w_INVESTMENT_FIRM : Addr) (w_CORPORATE : Addr) (w_INDIVIDUAL : Addr) (w_NONE : Addr) (h0 : Heap) (n0 : Nat) (v : Option Value) (h : Heap) (L : List Loc) : Prop := v = some (.int (1 : Int32)) ∧ Fr n0 L
theorem pd_0 : parseMethodDescriptor "(I)Lcom/example/ponderat/ponderat/CounterpartyType;" = some ⟨[.int], some (.object "com/example/ponderat/ponderat/CounterpartyType")⟩ := by decide +kernel
theorem pd_1 : parseMethodDescriptor "()Z" = some ⟨[], some .boolean⟩ := by decide +kernel
theorem pd_2 : parseMethodDescriptor "(I)Z" = some ⟨[.int], some .boolean⟩ := by decide +kernel
set_option maxRecDepth 65536 in
set_option maxHeartbeats 40000000 in
theorem rm_0 (l : Launch) (Z : State) (a0 : Array Value) (hw : ∀ d ∈ tables_1, d.before a0 Z = true) (ws : List Jvm.Cond) (k0 : Int32) (w_CENTRAL_GOVERNMENT : Addr) (w_CENTRAL_BANK : Addr) (w_REGIONAL_GOVERNMENT : Addr) (w_PUBLIC_SECTOR_ENTITY : Addr) (w_MULTILATERAL_DEVELOPMENT_BANK : Addr) (w_INTERNATIONAL_ORGANISATION : Addr) (w_BANK : Addr) (w_INVESTMENT_FIRM : Addr) (w_CORPORATE : Addr) (w_INDIVIDUAL : Addr) (w_NONE : Addr) (h0 : Heap) (n0 : Nat) (Z0 : n0 ≤ h0.size) (S_CENTRAL_GOVERNMENT : Sta Z h0 "com/example/ponderat/ponderat/CounterpartyType" "CENTRAL_GOVERNMENT" "Lcom/example/ponderat/ponderat/CounterpartyType;" (.ref w_CENTRAL_GOVERNMENT)) (S_CENTRAL_BANK : Sta Z h0 "com/example/ponderat/ponderat/CounterpartyType" "CENTRAL_BANK" "Lcom/example/ponderat/ponderat/CounterpartyType;" (.ref w_CENTRAL_BANK)) (S_REGIONAL_GOVERNMENT : Sta Z h0 "com/example/ponderat/ponderat/CounterpartyType" "REGIONAL_GOVERNMENT" "Lcom/example/ponderat/ponderat/CounterpartyType;" (.ref w_REGIONAL_GOVERNMENT)) (S_PUBLIC_SECTOR_ENTITY : Sta Z h0 "com/example/ponderat/ponderat/CounterpartyType" "PUBLIC_SECTOR_ENTITY" "Lcom/example/ponderat/ponderat/CounterpartyType;" (.ref w_PUBLIC_SECTOR_ENTITY)) (S_MULTILATERAL_DEVELOPMENT_BANK : Sta Z h0 "com/example/ponderat/ponderat/CounterpartyType" "MULTILATERAL_DEVELOPMENT_BANK" "Lcom/example/ponderat/ponderat/CounterpartyType;" (.ref w_MULTILATERAL_DEVELOPMENT_BANK)) (S_INTERNATIONAL_ORGANISATION : Sta Z h0 "com/example/ponderat/ponderat/CounterpartyType" "INTERNATIONAL_ORGANISATION" "Lcom/example/ponderat/ponderat/CounterpartyType;" (.ref w_INTERNATIONAL_ORGANISATION)) (S_BANK : Sta Z h0 "com/example/ponderat/ponderat/CounterpartyType" "BANK" "Lcom/example/ponderat/ponderat/CounterpartyType;" (.ref w_BANK)) (S_INVESTMENT_FIRM : Sta Z h0 "com/example/ponderat/ponderat/CounterpartyType" "INVESTMENT_FIRM" "Lcom/example/ponderat/ponderat/CounterpartyType;" (.ref w_INVESTMENT_FIRM)) (S_CORPORATE : Sta Z h0 "com/example/ponderat/ponderat/CounterpartyType" "CORPORATE" "Lcom/example/ponderat/ponderat/CounterpartyType;" (.ref w_CORPORATE)) (S_INDIVIDUAL : Sta Z h0 "com/example/ponderat/ponderat/CounterpartyType" "INDIVIDUAL" "Lcom/example/ponderat/ponderat/CounterpartyType;" (.ref w_INDIVIDUAL)) (S_NONE : Sta Z h0 "com/example/ponderat/ponderat/CounterpartyType" "NONE" "Lcom/example/ponderat/ponderat/CounterpartyType;" (.ref w_NONE)) (E_CENTRAL_GOVERNMENT : Exa Z h0 w_CENTRAL_GOVERNMENT "com/example/ponderat/ponderat/CounterpartyType") (E_CENTRAL_BANK : Exa Z h0 w_CENTRAL_BANK "com/example/ponderat/ponderat/CounterpartyType") (E_REGIONAL_GOVERNMENT : Exa Z h0 w_REGIONAL_GOVERNMENT "com/example/ponderat/ponderat/CounterpartyType") (E_PUBLIC_SECTOR_ENTITY : Exa Z h0 w_PUBLIC_SECTOR_ENTITY "com/example/ponderat/ponderat/CounterpartyType") (E_MULTILATERAL_DEVELOPMENT_BANK : Exa Z h0 w_MULTILATERAL_DEVELOPMENT_BANK "com/example/ponderat/ponderat/CounterpartyType") (E_INTERNATIONAL_ORGANISATION : Exa Z h0 w_INTERNATIONAL_ORGANISATION "com/example/ponderat/ponderat/CounterpartyType") (E_BANK : Exa Z h0 w_BANK "com/example/ponderat/ponderat/CounterpartyType") (E_INVESTMENT_FIRM : Exa Z h0 w_INVESTMENT_FIRM "com/example/ponderat/ponderat/CounterpartyType") (E_CORPORATE : Exa Z h0 w_CORPORATE "com/example/ponderat/ponderat/CounterpartyType") (E_INDIVIDUAL : Exa Z h0 w_INDIVIDUAL "com/example/ponderat/ponderat/CounterpartyType") (E_NONE : Exa Z h0 w_NONE "com/example/ponderat/ponderat/CounterpartyType") (n_CENTRAL_GOVERNMENT_MULTILATERAL_DEVELOPMENT_BANK : w_CENTRAL_GOVERNMENT ≠ w_MULTILATERAL_DEVELOPMENT_BANK) (n_CENTRAL_GOVERNMENT_INTERNATIONAL_ORGANISATION : w_CENTRAL_GOVERNMENT ≠ w_INTERNATIONAL_ORGANISATION) (n_CENTRAL_BANK_MULTILATERAL_DEVELOPMENT_BANK : w_CENTRAL_BANK ≠ w_MULTILATERAL_DEVELOPMENT_BANK) (n_CENTRAL_BANK_INTERNATIONAL_ORGANISATION : w_CENTRAL_BANK ≠ w_INTERNATIONAL_ORGANISATION) (n_REGIONAL_GOVERNMENT_MULTILATERAL_DEVELOPMENT_BANK : w_REGIONAL_GOVERNMENT ≠ w_MULTILATERAL_DEVELOPMENT_BANK) (n_REGIONAL_GOVERNMENT_INTERNATIONAL_ORGANISATION : w_REGIONAL_GOVERNMENT ≠ w_INTERNATIONAL_ORGANISATION) (n_PUBLIC_SECTOR_ENTITY_MULTILATERAL_DEVELOPMENT_BANK : w_PUBLIC_SECTOR_ENTITY ≠ w_MULTILATERAL_DEVELOPMENT_BANK) (n_PUBLIC_SECTOR_ENTITY_INTERNATIONAL_ORGANISATION : w_PUBLIC_SECTOR_ENTITY ≠ w_INTERNATIONAL_ORGANISATION) (n_MULTILATERAL_DEVELOPMENT_BANK_INTERNATIONAL_ORGANISATION : w_MULTILATERAL_DEVELOPMENT_BANK ≠ w_INTERNATIONAL_ORGANISATION) (n_INTERNATIONAL_ORGANISATION_MULTILATERAL_DEVELOPMENT_BANK : w_INTERNATIONAL_ORGANISATION ≠ w_MULTILATERAL_DEVELOPMENT_BANK) (n_BANK_MULTILATERAL_DEVELOPMENT_BANK : w_BANK ≠ w_MULTILATERAL_DEVELOPMENT_BANK) (n_BANK_INTERNATIONAL_ORGANISATION : w_BANK ≠ w_INTERNATIONAL_ORGANISATION) (n_INVESTMENT_FIRM_MULTILATERAL_DEVELOPMENT_BANK : w_INVESTMENT_FIRM ≠ w_MULTILATERAL_DEVELOPMENT_BANK) (n_INVESTMENT_FIRM_INTERNATIONAL_ORGANISATION : w_INVESTMENT_FIRM ≠ w_INTERNATIONAL_ORGANISATION) (n_CORPORATE_MULTILATERAL_DEVELOPMENT_BANK : w_CORPORATE ≠ w_MULTILATERAL_DEVELOPMENT_BANK) (n_CORPORATE_INTERNATIONAL_ORGANISATION : w_CORPORATE ≠ w_INTERNATIONAL_ORGANISATION) (n_INDIVIDUAL_MULTILATERAL_DEVELOPMENT_BANK : w_INDIVIDUAL ≠ w_MULTILATERAL_DEVELOPMENT_BANK) (n_INDIVIDUAL_INTERNATIONAL_ORGANISATION : w_INDIVIDUAL ≠ w_INTERNATIONAL_ORGANISATION) (n_NONE_MULTILATERAL_DEVELOPMENT_BANK : w_NONE ≠ w_MULTILATERAL_DEVELOPMENT_BANK) (n_NONE_INTERNATIONAL_ORGANISATION : w_NONE ≠ w_INTERNATIONAL_ORGANISATION) :
    MetFree l x (head1 (Jvm.Cond.code x code maxLocals ret :: ws) room_1) (fun a_ U_ => a_ = #[(.int k0)] ∧ Z.Warmed39 U_.vm ∧ U_.heap = h0) (fun _ _ _ _ _ => True) (fun _ U_ o_ V_ => ∃ v_ L_, o_ = .returned v_ ∧ Q_0 Z k0 w_CENTRAL_GOVERNMENT w_CENTRAL_BANK w_REGIONAL_GOVERNMENT w_PUBLIC_SECTOR_ENTITY w_MULTILATERAL_DEVELOPMENT_BANK w_INTERNATIONAL_ORGANISATION w_BANK w_INVESTMENT_FIRM w_CORPORATE w_INDIVIDUAL w_NONE h0 n0 v_ V_.heap L_ ∧ FrameEnd U_ o_ V_ L_ room_1.cells room_1.slots) := by
  refine MetFree.of_bodySF (plainFor_of_name pn_0) hisR ?_
  intro p e s m args below meth c s₁ Bd hml0 hP hK
  obtain ⟨rfl, hZ, hh⟩ := hP
  have hx := Bd.exec
  have hby := Bd.bytes
  have hml : c.maxLocals = 3 := hml0
  have hown : s.vm.findClass "com/example/ponderat/ponderat/CounterpartyTypeIsNamedByEntityCodePinLaw" = some m.cls := findClass_of_methodNamed Bd.named
  have hnm := (name_of_methodNamed Bd.named Bd.method).1
  have X0 : Stand p l e room_1 s m #[(.int k0)] below meth c s₁ [] 0 0 := Stand.of_body Bd
  have e0 : s₁.heap = h0 := by rw [← hh, Bd.state]; rfl
  have N0 := Fr.nil n0
  have pre0 : ∀ t_, Steps p.tables e below (s₁.setTop (mkF m 0 #[.val (.int k0), .unset, .unset] [])) t_ → Steps p.tables e below (s₁.setTop (entryFrame m #[(.int k0)] maxLocals)) t_ := fun t_ k_ => castTop (ef_0 m k0) k_
  obtain ⟨v59, _, ⟨T59, L59, k59, n59⟩, -, X59, ⟨Lc59, hQ59, l59, y59, z59⟩, st59⟩ := Jvm.LawKit.callS X0 hx (y := (⟨"com/example/ponderat/ponderat/CounterpartyTypeIsNamedByEntityCodePinLaw", "pick", "(I)Lcom/example/ponderat/ponderat/CounterpartyType;"⟩ : MethodName)) hown (mvT hZ (hw _ (List.mem_of_getElem? (i := 1) rfl))) (mvT hZ (hw _ (List.mem_of_getElem? (i := 2) rfl))) (mvT hZ (hw _ (List.mem_of_getElem? (i := 3) rfl))) (mvT hZ (hw _ (List.mem_of_getElem? (i := 4) rfl))) (by decide) (backOf (W := 0) (rm_1 l Z a0 hw [] ((k0 &&& (2147483647 : Int32)) % (11 : Int32)) w_CENTRAL_GOVERNMENT w_CENTRAL_BANK w_REGIONAL_GOVERNMENT w_PUBLIC_SECTOR_ENTITY w_MULTILATERAL_DEVELOPMENT_BANK w_INTERNATIONAL_ORGANISATION w_BANK w_INVESTMENT_FIRM w_CORPORATE w_INDIVIDUAL w_NONE h0 n0 Z0 S_CENTRAL_GOVERNMENT S_CENTRAL_BANK S_REGIONAL_GOVERNMENT S_PUBLIC_SECTOR_ENTITY S_MULTILATERAL_DEVELOPMENT_BANK S_INTERNATIONAL_ORGANISATION S_BANK S_INVESTMENT_FIRM S_CORPORATE S_INDIVIDUAL S_NONE) hZ (hw _ (List.mem_of_getElem? (i := 4) rfl)) (hw _ (List.mem_of_getElem? (i := 3) rfl)) (by decide) (by decide)) (g := (mkF m 9 #[.val (.int k0), .val (.int ((k0 &&& (2147483647 : Int32)) % (11 : Int32))), .unset] [(.int ((k0 &&& (2147483647 : Int32)) % (11 : Int32)))])) rfl (by rw [hml]; rfl) (argsL := [(.int ((k0 &&& (2147483647 : Int32)) % (11 : Int32)))]) (rest := []) (lenOf pd_0 rfl) rfl (by show 2 * 0 + _ ≤ _; exact Nat.le_of_eq rfl) (hb hby at_9) (fun _ _ => ⟨rfl, e0, (by decide : 0 + 0 ≤ _), (by decide : 0 + 0 ≤ _)⟩)
  dsimp only [Pt.U, Pt.locs, Pt.cells, Pt.slots] at X59 l59 y59 z59 st59 hQ59
  subst l59 y59 z59
  obtain ⟨hv59, N59q, e59⟩ := hQ59
  have N59 := Fr.app N0 N59q
  subst hv59
  obtain ⟨cq60, kq60, q60a, q60b, q60c⟩ := isOf hZ e59 (own_pick_exa Z h0 ((k0 &&& (2147483647 : Int32)) % (11 : Int32)) w_CENTRAL_GOVERNMENT w_CENTRAL_BANK w_REGIONAL_GOVERNMENT w_PUBLIC_SECTOR_ENTITY w_MULTILATERAL_DEVELOPMENT_BANK w_INTERNATIONAL_ORGANISATION w_BANK w_INVESTMENT_FIRM w_CORPORATE w_INDIVIDUAL w_NONE E_CENTRAL_GOVERNMENT E_CENTRAL_BANK E_REGIONAL_GOVERNMENT E_PUBLIC_SECTOR_ENTITY E_MULTILATERAL_DEVELOPMENT_BANK E_INTERNATIONAL_ORGANISATION E_BANK E_INVESTMENT_FIRM E_CORPORATE E_INDIVIDUAL E_NONE)
  obtain ⟨v60, _, ⟨T60, L60, k60, n60⟩, -, X60, ⟨Lc60, hQ60, l60, y60, z60⟩, st60⟩ := X59.virtualBack hx (y := (⟨"com/example/ponderat/ponderat/CounterpartyType", "isNamedByEntityCode", "()Z"⟩ : MethodName)) (z := (⟨"com/example/ponderat/ponderat/CounterpartyType", "isNamedByEntityCode", "()Z"⟩ : MethodName)) hown (mvT hZ (hw _ (List.mem_of_getElem? (i := 8) rfl))) (mvT hZ (hw _ (List.mem_of_getElem? (i := 9) rfl))) (notFace_of_selects (args := #[]) (mvT hZ (hw _ (List.mem_of_getElem? (i := 11) rfl)))) (mvT hZ (hw _ (List.mem_of_getElem? (i := 11) rfl))) (mvT hZ (hw _ (List.mem_of_getElem? (i := 10) rfl))) (by decide) (backOf (W := 0) (rm_2 l Z a0 hw [] (own_pick ((k0 &&& (2147483647 : Int32)) % (11 : Int32)) w_CENTRAL_GOVERNMENT w_CENTRAL_BANK w_REGIONAL_GOVERNMENT w_PUBLIC_SECTOR_ENTITY w_MULTILATERAL_DEVELOPMENT_BANK w_INTERNATIONAL_ORGANISATION w_BANK w_INVESTMENT_FIRM w_CORPORATE w_INDIVIDUAL w_NONE) w_MULTILATERAL_DEVELOPMENT_BANK w_INTERNATIONAL_ORGANISATION h0 n0 Z0 S_MULTILATERAL_DEVELOPMENT_BANK S_INTERNATIONAL_ORGANISATION) hZ (hw _ (List.mem_of_getElem? (i := 12) rfl)) (hw _ (List.mem_of_getElem? (i := 6) rfl)) (by decide) (by decide)) q60a q60c (g := (mkF m 14 #[.val (.int k0), .val (.int ((k0 &&& (2147483647 : Int32)) % (11 : Int32))), .val (.ref (own_pick ((k0 &&& (2147483647 : Int32)) % (11 : Int32)) w_CENTRAL_GOVERNMENT w_CENTRAL_BANK w_REGIONAL_GOVERNMENT w_PUBLIC_SECTOR_ENTITY w_MULTILATERAL_DEVELOPMENT_BANK w_INTERNATIONAL_ORGANISATION w_BANK w_INVESTMENT_FIRM w_CORPORATE w_INDIVIDUAL w_NONE))] [(.ref (own_pick ((k0 &&& (2147483647 : Int32)) % (11 : Int32)) w_CENTRAL_GOVERNMENT w_CENTRAL_BANK w_REGIONAL_GOVERNMENT w_PUBLIC_SECTOR_ENTITY w_MULTILATERAL_DEVELOPMENT_BANK w_INTERNATIONAL_ORGANISATION w_BANK w_INVESTMENT_FIRM w_CORPORATE w_INDIVIDUAL w_NONE))])) rfl (by rw [hml]; rfl) (Steps.refl _) (argsL := []) (rest := []) (lenOf pd_1 rfl) rfl (by show 2 * 0 + _ ≤ _; exact Nat.le_of_eq rfl) (hb hby at_14) (fun _ _ => ⟨rfl, e59, (by decide : 0 + 0 ≤ _), (by decide : 0 + 0 ≤ _)⟩)
  dsimp only [Pt.U, Pt.locs, Pt.cells, Pt.slots] at X60 l60 y60 z60 st60 hQ60
  subst l60 y60 z60
  obtain ⟨hv60, N60q, e60⟩ := hQ60
  have N60 := Fr.app N59 N60q
  subst hv60
  obtain ⟨v61, _, ⟨T61, L61, k61, n61⟩, -, X61, ⟨Lc61, hQ61, l61, y61, z61⟩, st61⟩ := Jvm.LawKit.callS X60 hx (y := (⟨"com/example/ponderat/ponderat/CounterpartyTypeIsNamedByEntityCodePinLaw", "expected", "(I)Z"⟩ : MethodName)) hown (mvT hZ (hw _ (List.mem_of_getElem? (i := 17) rfl))) (mvT hZ (hw _ (List.mem_of_getElem? (i := 18) rfl))) (mvT hZ (hw _ (List.mem_of_getElem? (i := 3) rfl))) (mvT hZ (hw _ (List.mem_of_getElem? (i := 19) rfl))) (by decide) (backOf (W := 1) (rm_3 l Z a0 hw [] ((k0 &&& (2147483647 : Int32)) % (11 : Int32)) h0 n0 Z0 ) hZ (hw _ (List.mem_of_getElem? (i := 19) rfl)) (hw _ (List.mem_of_getElem? (i := 3) rfl)) (by decide) (by decide)) (g := (mkF m 18 #[.val (.int k0), .val (.int ((k0 &&& (2147483647 : Int32)) % (11 : Int32))), .val (.ref (own_pick ((k0 &&& (2147483647 : Int32)) % (11 : Int32)) w_CENTRAL_GOVERNMENT w_CENTRAL_BANK w_REGIONAL_GOVERNMENT w_PUBLIC_SECTOR_ENTITY w_MULTILATERAL_DEVELOPMENT_BANK w_INTERNATIONAL_ORGANISATION w_BANK w_INVESTMENT_FIRM w_CORPORATE w_INDIVIDUAL w_NONE))] [(.int ((k0 &&& (2147483647 : Int32)) % (11 : Int32))), (.int (own_named (own_pick ((k0 &&& (2147483647 : Int32)) % (11 : Int32)) w_CENTRAL_GOVERNMENT w_CENTRAL_BANK w_REGIONAL_GOVERNMENT w_PUBLIC_SECTOR_ENTITY w_MULTILATERAL_DEVELOPMENT_BANK w_INTERNATIONAL_ORGANISATION w_BANK w_INVESTMENT_FIRM w_CORPORATE w_INDIVIDUAL w_NONE) w_MULTILATERAL_DEVELOPMENT_BANK w_INTERNATIONAL_ORGANISATION))])) rfl (by rw [hml]; rfl) (argsL := [(.int ((k0 &&& (2147483647 : Int32)) % (11 : Int32)))]) (rest := [(.int (own_named (own_pick ((k0 &&& (2147483647 : Int32)) % (11 : Int32)) w_CENTRAL_GOVERNMENT w_CENTRAL_BANK w_REGIONAL_GOVERNMENT w_PUBLIC_SECTOR_ENTITY w_MULTILATERAL_DEVELOPMENT_BANK w_INTERNATIONAL_ORGANISATION w_BANK w_INVESTMENT_FIRM w_CORPORATE w_INDIVIDUAL w_NONE) w_MULTILATERAL_DEVELOPMENT_BANK w_INTERNATIONAL_ORGANISATION))]) (lenOf pd_2 rfl) rfl (by show 2 * 0 + _ ≤ _; exact Nat.le_of_eq rfl) (hb hby at_18) (fun _ _ => ⟨rfl, e60, (by decide : 0 + 0 ≤ _), (by decide : 0 + 0 ≤ _)⟩)
  dsimp only [Pt.U, Pt.locs, Pt.cells, Pt.slots] at X61 l61 y61 z61 st61 hQ61
  subst l61 y61 z61
  obtain ⟨hv61, N61q, e61⟩ := hQ61
  have N61 := Fr.app N60 N61q
  subst hv61
  have pre62 : ∀ t_, Steps p.tables e below (T61.setTop (mkF m 29 #[.val (.int k0), .val (.int ((k0 &&& (2147483647 : Int32)) % (11 : Int32))), .val (.ref (own_pick ((k0 &&& (2147483647 : Int32)) % (11 : Int32)) w_CENTRAL_GOVERNMENT w_CENTRAL_BANK w_REGIONAL_GOVERNMENT w_PUBLIC_SECTOR_ENTITY w_MULTILATERAL_DEVELOPMENT_BANK w_INTERNATIONAL_ORGANISATION w_BANK w_INVESTMENT_FIRM w_CORPORATE w_INDIVIDUAL w_NONE))] [(.int (1 : Int32))])) t_ → Steps p.tables e below (s₁.setTop (entryFrame m #[(.int k0)] maxLocals)) t_ := fun t_ k_ => pre0 t_ (by
    show Steps p.tables e below (s₁.setTop (mkF m 0 #[.val (.int k0), .unset, .unset] [])) _
    refine XS.iloadN X0.here hx rfl (hb hby at_0) rfl ?_
    show Steps p.tables e below (s₁.setTop (mkF m 1 #[.val (.int k0), .unset, .unset] [(.int k0)])) _
    refine X0.ldcInt hx hown (mvT hZ (hw _ (List.mem_of_getElem? (i := 0) rfl))) (g := (mkF m 1 #[.val (.int k0), .unset, .unset] [(.int k0)])) rfl (hb hby at_1) _ ?_
    show Steps p.tables e below (s₁.setTop (mkF m 3 #[.val (.int k0), .unset, .unset] [(.int (2147483647 : Int32)), (.int k0)])) _
    refine XS.iand X0.here hx rfl (hb hby at_3) rfl ?_
    show Steps p.tables e below (s₁.setTop (mkF m 4 #[.val (.int k0), .unset, .unset] [(.int (k0 &&& (2147483647 : Int32)))])) _
    refine XS.bipush X0.here hx rfl (hb hby at_4) ?_
    show Steps p.tables e below (s₁.setTop (mkF m 6 #[.val (.int k0), .unset, .unset] [(.int (11 : Int32)), (.int (k0 &&& (2147483647 : Int32)))])) _
    refine iremM X0 hx rfl (hb hby at_6) rfl (by decide) ?_
    show Steps p.tables e below (s₁.setTop (mkF m 7 #[.val (.int k0), .unset, .unset] [(.int ((k0 &&& (2147483647 : Int32)) % (11 : Int32)))])) _
    refine XS.istoreN X0.here hx rfl (hb hby at_7) rfl (l' := #[.val (.int k0), .val (.int ((k0 &&& (2147483647 : Int32)) % (11 : Int32))), .unset]) rfl ?_
    show Steps p.tables e below (s₁.setTop (mkF m 8 #[.val (.int k0), .val (.int ((k0 &&& (2147483647 : Int32)) % (11 : Int32))), .unset] [])) _
    refine XS.iloadN X0.here hx rfl (hb hby at_8) rfl ?_
    show Steps p.tables e below (s₁.setTop (mkF m 9 #[.val (.int k0), .val (.int ((k0 &&& (2147483647 : Int32)) % (11 : Int32))), .unset] [(.int ((k0 &&& (2147483647 : Int32)) % (11 : Int32)))])) _
    refine st59 _ ?_
    show Steps p.tables e below (T59.setTop (mkF m 12 #[.val (.int k0), .val (.int ((k0 &&& (2147483647 : Int32)) % (11 : Int32))), .unset] [(.ref (own_pick ((k0 &&& (2147483647 : Int32)) % (11 : Int32)) w_CENTRAL_GOVERNMENT w_CENTRAL_BANK w_REGIONAL_GOVERNMENT w_PUBLIC_SECTOR_ENTITY w_MULTILATERAL_DEVELOPMENT_BANK w_INTERNATIONAL_ORGANISATION w_BANK w_INVESTMENT_FIRM w_CORPORATE w_INDIVIDUAL w_NONE))])) _
    refine XS.astoreN X59.here hx rfl (hb hby at_12) rfl rfl (l' := #[.val (.int k0), .val (.int ((k0 &&& (2147483647 : Int32)) % (11 : Int32))), .val (.ref (own_pick ((k0 &&& (2147483647 : Int32)) % (11 : Int32)) w_CENTRAL_GOVERNMENT w_CENTRAL_BANK w_REGIONAL_GOVERNMENT w_PUBLIC_SECTOR_ENTITY w_MULTILATERAL_DEVELOPMENT_BANK w_INTERNATIONAL_ORGANISATION w_BANK w_INVESTMENT_FIRM w_CORPORATE w_INDIVIDUAL w_NONE))]) rfl ?_
    show Steps p.tables e below (T59.setTop (mkF m 13 #[.val (.int k0), .val (.int ((k0 &&& (2147483647 : Int32)) % (11 : Int32))), .val (.ref (own_pick ((k0 &&& (2147483647 : Int32)) % (11 : Int32)) w_CENTRAL_GOVERNMENT w_CENTRAL_BANK w_REGIONAL_GOVERNMENT w_PUBLIC_SECTOR_ENTITY w_MULTILATERAL_DEVELOPMENT_BANK w_INTERNATIONAL_ORGANISATION w_BANK w_INVESTMENT_FIRM w_CORPORATE w_INDIVIDUAL w_NONE))] [])) _
    refine XS.aloadN X59.here hx rfl (hb hby at_13) rfl rfl ?_
    show Steps p.tables e below (T59.setTop (mkF m 14 #[.val (.int k0), .val (.int ((k0 &&& (2147483647 : Int32)) % (11 : Int32))), .val (.ref (own_pick ((k0 &&& (2147483647 : Int32)) % (11 : Int32)) w_CENTRAL_GOVERNMENT w_CENTRAL_BANK w_REGIONAL_GOVERNMENT w_PUBLIC_SECTOR_ENTITY w_MULTILATERAL_DEVELOPMENT_BANK w_INTERNATIONAL_ORGANISATION w_BANK w_INVESTMENT_FIRM w_CORPORATE w_INDIVIDUAL w_NONE))] [(.ref (own_pick ((k0 &&& (2147483647 : Int32)) % (11 : Int32)) w_CENTRAL_GOVERNMENT w_CENTRAL_BANK w_REGIONAL_GOVERNMENT w_PUBLIC_SECTOR_ENTITY w_MULTILATERAL_DEVELOPMENT_BANK w_INTERNATIONAL_ORGANISATION w_BANK w_INVESTMENT_FIRM w_CORPORATE w_INDIVIDUAL w_NONE))])) _
    refine st60.trans ?_
    show Steps p.tables e below (T60.setTop (mkF m 17 #[.val (.int k0), .val (.int ((k0 &&& (2147483647 : Int32)) % (11 : Int32))), .val (.ref (own_pick ((k0 &&& (2147483647 : Int32)) % (11 : Int32)) w_CENTRAL_GOVERNMENT w_CENTRAL_BANK w_REGIONAL_GOVERNMENT w_PUBLIC_SECTOR_ENTITY w_MULTILATERAL_DEVELOPMENT_BANK w_INTERNATIONAL_ORGANISATION w_BANK w_INVESTMENT_FIRM w_CORPORATE w_INDIVIDUAL w_NONE))] [(.int (own_named (own_pick ((k0 &&& (2147483647 : Int32)) % (11 : Int32)) w_CENTRAL_GOVERNMENT w_CENTRAL_BANK w_REGIONAL_GOVERNMENT w_PUBLIC_SECTOR_ENTITY w_MULTILATERAL_DEVELOPMENT_BANK w_INTERNATIONAL_ORGANISATION w_BANK w_INVESTMENT_FIRM w_CORPORATE w_INDIVIDUAL w_NONE) w_MULTILATERAL_DEVELOPMENT_BANK w_INTERNATIONAL_ORGANISATION))])) _
    refine XS.iloadN X60.here hx rfl (hb hby at_17) rfl ?_
    show Steps p.tables e below (T60.setTop (mkF m 18 #[.val (.int k0), .val (.int ((k0 &&& (2147483647 : Int32)) % (11 : Int32))), .val (.ref (own_pick ((k0 &&& (2147483647 : Int32)) % (11 : Int32)) w_CENTRAL_GOVERNMENT w_CENTRAL_BANK w_REGIONAL_GOVERNMENT w_PUBLIC_SECTOR_ENTITY w_MULTILATERAL_DEVELOPMENT_BANK w_INTERNATIONAL_ORGANISATION w_BANK w_INVESTMENT_FIRM w_CORPORATE w_INDIVIDUAL w_NONE))] [(.int ((k0 &&& (2147483647 : Int32)) % (11 : Int32))), (.int (own_named (own_pick ((k0 &&& (2147483647 : Int32)) % (11 : Int32)) w_CENTRAL_GOVERNMENT w_CENTRAL_BANK w_REGIONAL_GOVERNMENT w_PUBLIC_SECTOR_ENTITY w_MULTILATERAL_DEVELOPMENT_BANK w_INTERNATIONAL_ORGANISATION w_BANK w_INVESTMENT_FIRM w_CORPORATE w_INDIVIDUAL w_NONE) w_MULTILATERAL_DEVELOPMENT_BANK w_INTERNATIONAL_ORGANISATION))])) _
    refine st61 _ ?_
    show Steps p.tables e below (T61.setTop (mkF m 21 #[.val (.int k0), .val (.int ((k0 &&& (2147483647 : Int32)) % (11 : Int32))), .val (.ref (own_pick ((k0 &&& (2147483647 : Int32)) % (11 : Int32)) w_CENTRAL_GOVERNMENT w_CENTRAL_BANK w_REGIONAL_GOVERNMENT w_PUBLIC_SECTOR_ENTITY w_MULTILATERAL_DEVELOPMENT_BANK w_INTERNATIONAL_ORGANISATION w_BANK w_INVESTMENT_FIRM w_CORPORATE w_INDIVIDUAL w_NONE))] [(.int (own_exp ((k0 &&& (2147483647 : Int32)) % (11 : Int32)))), (.int (own_named (own_pick ((k0 &&& (2147483647 : Int32)) % (11 : Int32)) w_CENTRAL_GOVERNMENT w_CENTRAL_BANK w_REGIONAL_GOVERNMENT w_PUBLIC_SECTOR_ENTITY w_MULTILATERAL_DEVELOPMENT_BANK w_INTERNATIONAL_ORGANISATION w_BANK w_INVESTMENT_FIRM w_CORPORATE w_INDIVIDUAL w_NONE) w_MULTILATERAL_DEVELOPMENT_BANK w_INTERNATIONAL_ORGANISATION))])) _
    refine XS.icmpNo X61.here hx rfl (hb hby at_21) rfl (teq (own_law ((k0 &&& (2147483647 : Int32)) % (11 : Int32)) w_CENTRAL_GOVERNMENT w_CENTRAL_BANK w_REGIONAL_GOVERNMENT w_PUBLIC_SECTOR_ENTITY w_MULTILATERAL_DEVELOPMENT_BANK w_INTERNATIONAL_ORGANISATION w_BANK w_INVESTMENT_FIRM w_CORPORATE w_INDIVIDUAL w_NONE n_CENTRAL_GOVERNMENT_MULTILATERAL_DEVELOPMENT_BANK n_CENTRAL_GOVERNMENT_INTERNATIONAL_ORGANISATION n_CENTRAL_BANK_MULTILATERAL_DEVELOPMENT_BANK n_CENTRAL_BANK_INTERNATIONAL_ORGANISATION n_REGIONAL_GOVERNMENT_MULTILATERAL_DEVELOPMENT_BANK n_REGIONAL_GOVERNMENT_INTERNATIONAL_ORGANISATION n_PUBLIC_SECTOR_ENTITY_MULTILATERAL_DEVELOPMENT_BANK n_PUBLIC_SECTOR_ENTITY_INTERNATIONAL_ORGANISATION n_MULTILATERAL_DEVELOPMENT_BANK_INTERNATIONAL_ORGANISATION n_INTERNATIONAL_ORGANISATION_MULTILATERAL_DEVELOPMENT_BANK n_BANK_MULTILATERAL_DEVELOPMENT_BANK n_BANK_INTERNATIONAL_ORGANISATION n_INVESTMENT_FIRM_MULTILATERAL_DEVELOPMENT_BANK n_INVESTMENT_FIRM_INTERNATIONAL_ORGANISATION n_CORPORATE_MULTILATERAL_DEVELOPMENT_BANK n_CORPORATE_INTERNATIONAL_ORGANISATION n_INDIVIDUAL_MULTILATERAL_DEVELOPMENT_BANK n_INDIVIDUAL_INTERNATIONAL_ORGANISATION n_NONE_MULTILATERAL_DEVELOPMENT_BANK n_NONE_INTERNATIONAL_ORGANISATION)).2 ?_
    show Steps p.tables e below (T61.setTop (mkF m 24 #[.val (.int k0), .val (.int ((k0 &&& (2147483647 : Int32)) % (11 : Int32))), .val (.ref (own_pick ((k0 &&& (2147483647 : Int32)) % (11 : Int32)) w_CENTRAL_GOVERNMENT w_CENTRAL_BANK w_REGIONAL_GOVERNMENT w_PUBLIC_SECTOR_ENTITY w_MULTILATERAL_DEVELOPMENT_BANK w_INTERNATIONAL_ORGANISATION w_BANK w_INVESTMENT_FIRM w_CORPORATE w_INDIVIDUAL w_NONE))] [])) _
    refine XS.iconst X61.here hx rfl (hb hby at_24) ?_
    show Steps p.tables e below (T61.setTop (mkF m 25 #[.val (.int k0), .val (.int ((k0 &&& (2147483647 : Int32)) % (11 : Int32))), .val (.ref (own_pick ((k0 &&& (2147483647 : Int32)) % (11 : Int32)) w_CENTRAL_GOVERNMENT w_CENTRAL_BANK w_REGIONAL_GOVERNMENT w_PUBLIC_SECTOR_ENTITY w_MULTILATERAL_DEVELOPMENT_BANK w_INTERNATIONAL_ORGANISATION w_BANK w_INVESTMENT_FIRM w_CORPORATE w_INDIVIDUAL w_NONE))] [(.int (1 : Int32))])) _
    refine XS.goto X61.here hx rfl (pc0 := 25) (pc' := 29) rfl (hb hby at_25) (by decide) (by decide) ?_
    show Steps p.tables e below (T61.setTop (mkF m 29 #[.val (.int k0), .val (.int ((k0 &&& (2147483647 : Int32)) % (11 : Int32))), .val (.ref (own_pick ((k0 &&& (2147483647 : Int32)) % (11 : Int32)) w_CENTRAL_GOVERNMENT w_CENTRAL_BANK w_REGIONAL_GOVERNMENT w_PUBLIC_SECTOR_ENTITY w_MULTILATERAL_DEVELOPMENT_BANK w_INTERNATIONAL_ORGANISATION w_BANK w_INVESTMENT_FIRM w_CORPORATE w_INDIVIDUAL w_NONE))] [(.int (1 : Int32))])) _
    exact k_)
  obtain ⟨fs, hr, hrun, hended, hW, hsame⟩ := X61.leave (v := some (.int (1 : Int32))) (fun h => by rw [Bd.returns] at h; cases h)
  refine ⟨_, _, pre62 _ ?_, hrun, hended, _, _, rfl, ?_, ⟨_, rfl⟩, hW, hsame.mono (by decide) (by decide)⟩
  · show Steps p.tables e below (T61.setTop (mkF m 29 #[.val (.int k0), .val (.int ((k0 &&& (2147483647 : Int32)) % (11 : Int32))), .val (.ref (own_pick ((k0 &&& (2147483647 : Int32)) % (11 : Int32)) w_CENTRAL_GOVERNMENT w_CENTRAL_BANK w_REGIONAL_GOVERNMENT w_PUBLIC_SECTOR_ENTITY w_MULTILATERAL_DEVELOPMENT_BANK w_INTERNATIONAL_ORGANISATION w_BANK w_INVESTMENT_FIRM w_CORPORATE w_INDIVIDUAL w_NONE))] [(.int (1 : Int32))])) _
    exact retN X61 hx (t := .boolean) Bd.returns (by simp) (hb hby at_29) hr
  · show Q_0 Z k0 w_CENTRAL_GOVERNMENT w_CENTRAL_BANK w_REGIONAL_GOVERNMENT w_PUBLIC_SECTOR_ENTITY w_MULTILATERAL_DEVELOPMENT_BANK w_INTERNATIONAL_ORGANISATION w_BANK w_INVESTMENT_FIRM w_CORPORATE w_INDIVIDUAL w_NONE h0 n0 _ T61.heap _
    rw [e61]
    exact ⟨rfl, N61⟩
set_option maxRecDepth 65536 in
set_option maxHeartbeats 40000000 in
theorem comes_1 {Post : Tables → Env → Array Value → State → Outcome → State → Prop} (hpost : ∀ tb e args s v u, (limb_1_1.after args s (.returned v) u = true ∧ limb_1_2.after args s (.returned v) u = true ∧ True) → FrameEnd s (.returned v) u (Jvm.fieldLocs frame_1_writes args s ++ Jvm.arrayLocs frame_1_arrays args s ++ Jvm.staticLocs frame_1_statics s) 0 0 → Post tb e args s (.returned v) u) :
    ArmFor flags0 classFile x code maxLocals ret World_1 tables_1 room_1 Calls_1 rest_1 Pre_1 Post := by
  intro l hfl _ _ p e ha hc hk s m args below hf hA hF happ hP
  obtain ⟨hcalls, hrest, hpre⟩ := hP
  obtain ⟨-, -, -, hnamed, -, -, -, hat⟩ := (Spec.applies_iff hf).mp happ
  obtain ⟨hg, hn⟩ := and_e (Cond.before_iff.mp (show (Jvm.Cond.and given_1 narrow_1).before args s = true from hpre))
  obtain ⟨hcount, hg0⟩ := and_e hg
  obtain ⟨w0, rfl⟩ : ∃ w0 : Value, args = #[w0] := by
    have hs : args.size = 1 := by simpa [Cond.value, given_1] using hcount
    obtain ⟨L⟩ := args
    match L, hs with
    | [w0], _ => exact ⟨w0, rfl⟩
  have hw := fun d (hd : d ∈ tables_1) => atoms_spec (ws := Jvm.Cond.code x code maxLocals ret :: tables_1) hat d (List.mem_cons_of_mem _ hd)
  have hfit : Fit s := fun {y c} hc i hi => by
    obtain ⟨ha, rfl⟩ := Array.getElem?_eq_some_iff.mp hc
    have q := List.all_eq_true.mp ((Array.all_eq_true_iff_forall_mem.mp hF) _ (Array.getElem_mem ha)) i (List.mem_range.mpr hi)
    simpa [Array.getElem?_eq_getElem hi] using q
  obtain ⟨i0, ei0⟩ := is_v hg0
  obtain rfl : w0 = (.int i0) := Option.some.inj ei0
  obtain ⟨g0, hn_0⟩ := and_e hn
  obtain ⟨g1, hn_1⟩ := and_e hn_0
  obtain ⟨g2, hn_2⟩ := and_e hn_1
  obtain ⟨g3, hn_3⟩ := and_e hn_2
  obtain ⟨g4, hn_4⟩ := and_e hn_3
  obtain ⟨g5, hn_5⟩ := and_e hn_4
  obtain ⟨g6, hn_6⟩ := and_e hn_5
  obtain ⟨g7, hn_7⟩ := and_e hn_6
  obtain ⟨g8, hn_8⟩ := and_e hn_7
  obtain ⟨g9, hn_9⟩ := and_e hn_8
  obtain ⟨g10, hn_10⟩ := and_e hn_9
  obtain ⟨g11, hn_11⟩ := and_e hn_10
  obtain ⟨g12, hn_12⟩ := and_e hn_11
  obtain ⟨g13, hn_13⟩ := and_e hn_12
  obtain ⟨g14, hn_14⟩ := and_e hn_13
  obtain ⟨g15, hn_15⟩ := and_e hn_14
  obtain ⟨g16, hn_16⟩ := and_e hn_15
  obtain ⟨g17, hn_17⟩ := and_e hn_16
  obtain ⟨g18, hn_18⟩ := and_e hn_17
  obtain ⟨g19, hn_19⟩ := and_e hn_18
  obtain ⟨g20, hn_20⟩ := and_e hn_19
  have g21 := hn_20
  obtain ⟨w_CENTRAL_GOVERNMENT, ev_CENTRAL_GOVERNMENT, S_CENTRAL_GOVERNMENT, E_CENTRAL_GOVERNMENT⟩ := own_sta (hw _ (List.mem_of_getElem? (i := 6) rfl)) (hw _ (List.mem_of_getElem? (i := 7) rfl)) g0
  obtain ⟨w_MULTILATERAL_DEVELOPMENT_BANK, ev_MULTILATERAL_DEVELOPMENT_BANK, S_MULTILATERAL_DEVELOPMENT_BANK, E_MULTILATERAL_DEVELOPMENT_BANK⟩ := own_sta (hw _ (List.mem_of_getElem? (i := 6) rfl)) (hw _ (List.mem_of_getElem? (i := 14) rfl)) g1
  obtain ⟨w_INTERNATIONAL_ORGANISATION, ev_INTERNATIONAL_ORGANISATION, S_INTERNATIONAL_ORGANISATION, E_INTERNATIONAL_ORGANISATION⟩ := own_sta (hw _ (List.mem_of_getElem? (i := 6) rfl)) (hw _ (List.mem_of_getElem? (i := 16) rfl)) g4
  obtain ⟨w_PUBLIC_SECTOR_ENTITY, ev_PUBLIC_SECTOR_ENTITY, S_PUBLIC_SECTOR_ENTITY, E_PUBLIC_SECTOR_ENTITY⟩ := own_sta (hw _ (List.mem_of_getElem? (i := 6) rfl)) (hw _ (List.mem_of_getElem? (i := 21) rfl)) g6
  obtain ⟨w_INVESTMENT_FIRM, ev_INVESTMENT_FIRM, S_INVESTMENT_FIRM, E_INVESTMENT_FIRM⟩ := own_sta (hw _ (List.mem_of_getElem? (i := 6) rfl)) (hw _ (List.mem_of_getElem? (i := 23) rfl)) g8
  obtain ⟨w_CORPORATE, ev_CORPORATE, S_CORPORATE, E_CORPORATE⟩ := own_sta (hw _ (List.mem_of_getElem? (i := 6) rfl)) (hw _ (List.mem_of_getElem? (i := 25) rfl)) g10
  obtain ⟨w_REGIONAL_GOVERNMENT, ev_REGIONAL_GOVERNMENT, S_REGIONAL_GOVERNMENT, E_REGIONAL_GOVERNMENT⟩ := own_sta (hw _ (List.mem_of_getElem? (i := 6) rfl)) (hw _ (List.mem_of_getElem? (i := 27) rfl)) g12
  obtain ⟨w_NONE, ev_NONE, S_NONE, E_NONE⟩ := own_sta (hw _ (List.mem_of_getElem? (i := 6) rfl)) (hw _ (List.mem_of_getElem? (i := 29) rfl)) g14
  obtain ⟨w_CENTRAL_BANK, ev_CENTRAL_BANK, S_CENTRAL_BANK, E_CENTRAL_BANK⟩ := own_sta (hw _ (List.mem_of_getElem? (i := 6) rfl)) (hw _ (List.mem_of_getElem? (i := 31) rfl)) g16
  obtain ⟨w_INDIVIDUAL, ev_INDIVIDUAL, S_INDIVIDUAL, E_INDIVIDUAL⟩ := own_sta (hw _ (List.mem_of_getElem? (i := 6) rfl)) (hw _ (List.mem_of_getElem? (i := 33) rfl)) g18
  obtain ⟨w_BANK, ev_BANK, S_BANK, E_BANK⟩ := own_sta (hw _ (List.mem_of_getElem? (i := 6) rfl)) (hw _ (List.mem_of_getElem? (i := 36) rfl)) g20
  have F_CENTRAL_GOVERNMENT_ordinal : Fld s s.heap w_CENTRAL_GOVERNMENT "java/lang/Enum" "ordinal" "I" (.int (0 : Int32)) := own_fld ev_CENTRAL_GOVERNMENT g2
  have F_MULTILATERAL_DEVELOPMENT_BANK_ordinal : Fld s s.heap w_MULTILATERAL_DEVELOPMENT_BANK "java/lang/Enum" "ordinal" "I" (.int (4 : Int32)) := own_fld ev_MULTILATERAL_DEVELOPMENT_BANK g3
  have F_INTERNATIONAL_ORGANISATION_ordinal : Fld s s.heap w_INTERNATIONAL_ORGANISATION "java/lang/Enum" "ordinal" "I" (.int (5 : Int32)) := own_fld ev_INTERNATIONAL_ORGANISATION g5
  have F_PUBLIC_SECTOR_ENTITY_ordinal : Fld s s.heap w_PUBLIC_SECTOR_ENTITY "java/lang/Enum" "ordinal" "I" (.int (3 : Int32)) := own_fld ev_PUBLIC_SECTOR_ENTITY g7
  have F_INVESTMENT_FIRM_ordinal : Fld s s.heap w_INVESTMENT_FIRM "java/lang/Enum" "ordinal" "I" (.int (7 : Int32)) := own_fld ev_INVESTMENT_FIRM g9
  have F_CORPORATE_ordinal : Fld s s.heap w_CORPORATE "java/lang/Enum" "ordinal" "I" (.int (8 : Int32)) := own_fld ev_CORPORATE g11
  have F_REGIONAL_GOVERNMENT_ordinal : Fld s s.heap w_REGIONAL_GOVERNMENT "java/lang/Enum" "ordinal" "I" (.int (2 : Int32)) := own_fld ev_REGIONAL_GOVERNMENT g13
  have F_NONE_ordinal : Fld s s.heap w_NONE "java/lang/Enum" "ordinal" "I" (.int (10 : Int32)) := own_fld ev_NONE g15
  have F_CENTRAL_BANK_ordinal : Fld s s.heap w_CENTRAL_BANK "java/lang/Enum" "ordinal" "I" (.int (1 : Int32)) := own_fld ev_CENTRAL_BANK g17
  have F_INDIVIDUAL_ordinal : Fld s s.heap w_INDIVIDUAL "java/lang/Enum" "ordinal" "I" (.int (9 : Int32)) := own_fld ev_INDIVIDUAL g19
  have F_BANK_ordinal : Fld s s.heap w_BANK "java/lang/Enum" "ordinal" "I" (.int (6 : Int32)) := own_fld ev_BANK g21
  obtain ⟨n, o, h1, h2, h3, _, L, rfl, ⟨rfl, N⟩, hq⟩ := rm_0 l s _ hw tables_1 i0 w_CENTRAL_GOVERNMENT w_CENTRAL_BANK w_REGIONAL_GOVERNMENT w_PUBLIC_SECTOR_ENTITY w_MULTILATERAL_DEVELOPMENT_BANK w_INTERNATIONAL_ORGANISATION w_BANK w_INVESTMENT_FIRM w_CORPORATE w_INDIVIDUAL w_NONE s.heap s.heap.size (Nat.le_refl _) S_CENTRAL_GOVERNMENT S_CENTRAL_BANK S_REGIONAL_GOVERNMENT S_PUBLIC_SECTOR_ENTITY S_MULTILATERAL_DEVELOPMENT_BANK S_INTERNATIONAL_ORGANISATION S_BANK S_INVESTMENT_FIRM S_CORPORATE S_INDIVIDUAL S_NONE E_CENTRAL_GOVERNMENT E_CENTRAL_BANK E_REGIONAL_GOVERNMENT E_PUBLIC_SECTOR_ENTITY E_MULTILATERAL_DEVELOPMENT_BANK E_INTERNATIONAL_ORGANISATION E_BANK E_INVESTMENT_FIRM E_CORPORATE E_INDIVIDUAL E_NONE (Fld.ne F_CENTRAL_GOVERNMENT_ordinal F_MULTILATERAL_DEVELOPMENT_BANK_ordinal (by decide)) (Fld.ne F_CENTRAL_GOVERNMENT_ordinal F_INTERNATIONAL_ORGANISATION_ordinal (by decide)) (Fld.ne F_CENTRAL_BANK_ordinal F_MULTILATERAL_DEVELOPMENT_BANK_ordinal (by decide)) (Fld.ne F_CENTRAL_BANK_ordinal F_INTERNATIONAL_ORGANISATION_ordinal (by decide)) (Fld.ne F_REGIONAL_GOVERNMENT_ordinal F_MULTILATERAL_DEVELOPMENT_BANK_ordinal (by decide)) (Fld.ne F_REGIONAL_GOVERNMENT_ordinal F_INTERNATIONAL_ORGANISATION_ordinal (by decide)) (Fld.ne F_PUBLIC_SECTOR_ENTITY_ordinal F_MULTILATERAL_DEVELOPMENT_BANK_ordinal (by decide)) (Fld.ne F_PUBLIC_SECTOR_ENTITY_ordinal F_INTERNATIONAL_ORGANISATION_ordinal (by decide)) (Fld.ne F_MULTILATERAL_DEVELOPMENT_BANK_ordinal F_INTERNATIONAL_ORGANISATION_ordinal (by decide)) (Fld.ne F_INTERNATIONAL_ORGANISATION_ordinal F_MULTILATERAL_DEVELOPMENT_BANK_ordinal (by decide)) (Fld.ne F_BANK_ordinal F_MULTILATERAL_DEVELOPMENT_BANK_ordinal (by decide)) (Fld.ne F_BANK_ordinal F_INTERNATIONAL_ORGANISATION_ordinal (by decide)) (Fld.ne F_INVESTMENT_FIRM_ordinal F_MULTILATERAL_DEVELOPMENT_BANK_ordinal (by decide)) (Fld.ne F_INVESTMENT_FIRM_ordinal F_INTERNATIONAL_ORGANISATION_ordinal (by decide)) (Fld.ne F_CORPORATE_ordinal F_MULTILATERAL_DEVELOPMENT_BANK_ordinal (by decide)) (Fld.ne F_CORPORATE_ordinal F_INTERNATIONAL_ORGANISATION_ordinal (by decide)) (Fld.ne F_INDIVIDUAL_ordinal F_MULTILATERAL_DEVELOPMENT_BANK_ordinal (by decide)) (Fld.ne F_INDIVIDUAL_ordinal F_INTERNATIONAL_ORGANISATION_ordinal (by decide)) (Fld.ne F_NONE_ordinal F_MULTILATERAL_DEVELOPMENT_BANK_ordinal (by decide)) (Fld.ne F_NONE_ordinal F_INTERNATIONAL_ORGANISATION_ordinal (by decide)) p e ha hc hk s m _ below hf ((Spec.applies_iff_loose hf).mp happ).1 ⟨rfl, State.Warmed39.refl s, rfl⟩ trivial
  refine ⟨n, _, h1, h2, h3, hpost _ _ _ _ _ _ ⟨Cond.after_iff.mpr rfl, Cond.after_iff.mpr (eq_i res_at (Term.int_eval (1)) rfl), trivial⟩ ⟨hq.1, hq.2.1, (hq.2.2.sift fun y hy => Or.inr (N y hy)).mono (by decide) (by decide)⟩⟩
theorem main_1_1 : Claimed_1_1 := comes_1 fun _ _ _ _ _ _ h hF => ⟨h.1, hF⟩
theorem main_1_2 : Claimed_1_2 := comes_1 fun _ _ _ _ _ _ h hF => ⟨h.2.1, hF⟩
end Jvm.Pilot.@@N@@
namespace Jvm.Pilot.@@N@@
open Jvm Jvm.ClassFile Sem Op Lib Jvm.Free Jvm.Stand Jvm.Pilot.@@N@@.Jvm.D
/-! MADE BY PROGRAM (witnessworld.py) out of the Statement's table words and the real class files: 12 classes; the members and pool entries that the words name. The judged class is class 1, her method 3. -/
namespace start1
open Jvm.ClassFile
def u (s : String) : CpInfo := .utf8 (stringToUtf16 s)
/-- a pool by its gaps: so many unusable entries, then the entry; so many at the end -/
def gap : Nat → List CpInfo → List CpInfo
  | 0, r => r
  | n + 1, r => .unusable :: gap n r
def poolList (es : List (Nat × CpInfo)) (last : Nat) : List CpInfo := es.foldr (fun e r => gap e.1 (e.2 :: r)) (gap last [])
def pool (es : List (Nat × CpInfo)) (last : Nat) : Array CpInfo := ⟨poolList es last⟩
def fileOf (pool : Array CpInfo) (this : Nat) (attrs : Array Attribute := #[]) (ms : Array MethodInfo := #[]) (fl : Nat := 33) (sup : Nat := 0) (ifs : Array Nat := #[]) (fds : Array FieldInfo := #[]) : ClassFile where
  minorVersion := 0
  majorVersion := 65
  constantPool := pool
  accessFlags := fl
  thisClass := this
  superClass := sup
  interfaces := ifs
  fields := fds
  methods := ms
  attributes := attrs
def plain (name : String) (sup : Option ClassId) : Class where
  name := name
  kind := .ordinary
  loader := none
  accessFlags := 33
  super := sup
  interfaces := #[]
  cf := none
  fields := #[]
  methods := #[]
  instanceTypes := #[]
  staticTypes := #[]
  resolved := #[]
  callSites := []
  init := .initialized
  statics := none
  mirror := none

def pool0 : Array CpInfo := pool [(5, u "<init>"), (0, u "()V"), (1, .class_ 10), (1, u "java/lang/Object")] 113

def k0m0 : Method := { name := "<init>", desc := "()V", sig := { parameters := [], returnType := none }, accessFlags := 1, code := none }
/-- java/lang/Object -/
def k0 : Class := { plain "java/lang/Object" none with
  accessFlags := 33
  interfaces := #[]
  cf := some (fileOf pool0 8 #[] #[{ accessFlags := 1, nameIndex := 5, descriptorIndex := 6, attributes := #[] }] 33 0 #[] #[])
  fields := #[]
  methods := #[k0m0]
  instanceTypes := #[]
  staticTypes := #[]
  resolved := Array.replicate 124 none
  statics := none }

def pool1 : Array CpInfo := pool [(2, .class_ 4), (1, u "java/lang/Object"), (0, u "<init>"), (0, u "()V"), (0, .fieldref 8 9), (0, .class_ 10), (0, .nameAndType 11 12), (0, u "com/example/ponderat/ponderat/CounterpartyType"), (0, u "CENTRAL_GOVERNMENT"), (0, u "Lcom/example/ponderat/ponderat/CounterpartyType;"), (0, .fieldref 8 14), (0, .nameAndType 15 12), (0, u "CENTRAL_BANK"), (0, .fieldref 8 17), (0, .nameAndType 18 12), (0, u "REGIONAL_GOVERNMENT"), (0, .fieldref 8 20), (0, .nameAndType 21 12), (0, u "PUBLIC_SECTOR_ENTITY"), (0, .fieldref 8 23), (0, .nameAndType 24 12), (0, u "MULTILATERAL_DEVELOPMENT_BANK"), (0, .fieldref 8 26), (0, .nameAndType 27 12), (0, u "INTERNATIONAL_ORGANISATION"), (0, .fieldref 8 29), (0, .nameAndType 30 12), (0, u "BANK"), (0, .fieldref 8 32), (0, .nameAndType 33 12), (0, u "INVESTMENT_FIRM"), (0, .fieldref 8 35), (0, .nameAndType 36 12), (0, u "CORPORATE"), (0, .fieldref 8 38), (0, .nameAndType 39 12), (0, u "INDIVIDUAL"), (0, .fieldref 8 41), (0, .nameAndType 42 12), (0, u "NONE"), (0, .integer 2147483647), (0, .methodref 45 46), (0, .class_ 47), (0, .nameAndType 48 49), (0, u "com/example/ponderat/ponderat/CounterpartyTypeIsNamedByEntityCodePinLaw"), (0, u "pick"), (0, u "(I)Lcom/example/ponderat/ponderat/CounterpartyType;"), (0, .methodref 8 51), (0, .nameAndType 52 53), (0, u "isNamedByEntityCode"), (0, u "()Z"), (0, .methodref 45 55), (0, .nameAndType 56 57), (0, u "expected"), (0, u "(I)Z"), (3, u "law")] 2

def k1m0 : Method := { name := "<init>", desc := "()V", sig := { parameters := [], returnType := none }, accessFlags := 1, code := none }
def k1c1 : Code := { maxStack := 2, maxLocals := 1, code := method_2_code, exceptionTable := #[], attributes := #[] }
def k1m1 : Method := { name := "pick", desc := "(I)Lcom/example/ponderat/ponderat/CounterpartyType;", sig := { parameters := [.int], returnType := some (.object "com/example/ponderat/ponderat/CounterpartyType") }, accessFlags := 10, code := some k1c1 }
def k1c2 : Code := { maxStack := 2, maxLocals := 1, code := method_3_code, exceptionTable := #[], attributes := #[] }
def k1m2 : Method := { name := "expected", desc := "(I)Z", sig := { parameters := [.int], returnType := some .boolean }, accessFlags := 10, code := some k1c2 }
def k1c3 : Code := { maxStack := 2, maxLocals := 3, code := code, exceptionTable := #[], attributes := #[] }
def k1m3 : Method := { name := "law", desc := "(I)Z", sig := { parameters := [.int], returnType := some .boolean }, accessFlags := 9, code := some k1c3 }
/-- com/example/ponderat/ponderat/CounterpartyTypeIsNamedByEntityCodePinLaw -/
def k1 : Class := { plain "com/example/ponderat/ponderat/CounterpartyTypeIsNamedByEntityCodePinLaw" (some 0) with
  accessFlags := 49
  interfaces := #[]
  cf := some (fileOf pool1 45 #[] #[{ accessFlags := 1, nameIndex := 5, descriptorIndex := 6, attributes := #[] }, { accessFlags := 10, nameIndex := 48, descriptorIndex := 49, attributes := #[] }, { accessFlags := 10, nameIndex := 56, descriptorIndex := 57, attributes := #[] }, { accessFlags := 9, nameIndex := 61, descriptorIndex := 57, attributes := #[] }] 49 2 #[] #[])
  fields := #[]
  methods := #[k1m0, k1m1, k1m2, k1m3]
  instanceTypes := #[]
  staticTypes := #[]
  resolved := Array.replicate 64 none
  statics := none }

def pool2 : Array CpInfo := pool [(1, .class_ 2), (0, u "java/lang/constant/Constable"), (0, .class_ 4), (0, u "java/lang/Object")] 6

/-- java/lang/constant/Constable -/
def k2 : Class := { plain "java/lang/constant/Constable" (some 0) with
  accessFlags := 1537
  interfaces := #[]
  cf := some (fileOf pool2 1 #[] #[] 1537 3 #[] #[])
  fields := #[]
  methods := #[]
  instanceTypes := #[]
  staticTypes := #[]
  resolved := Array.replicate 11 none
  statics := none }

def pool3 : Array CpInfo := pool [(1, .class_ 2), (0, u "java/lang/Comparable"), (0, .class_ 4), (0, u "java/lang/Object")] 7

/-- java/lang/Comparable -/
def k3 : Class := { plain "java/lang/Comparable" (some 0) with
  accessFlags := 1537
  interfaces := #[]
  cf := some (fileOf pool3 1 #[] #[] 1537 3 #[] #[])
  fields := #[]
  methods := #[]
  instanceTypes := #[]
  staticTypes := #[]
  resolved := Array.replicate 12 none
  statics := none }

def pool4 : Array CpInfo := pool [(1, .class_ 2), (0, u "java/io/Serializable"), (0, .class_ 4), (0, u "java/lang/Object")] 2

/-- java/io/Serializable -/
def k4 : Class := { plain "java/io/Serializable" (some 0) with
  accessFlags := 1537
  interfaces := #[]
  cf := some (fileOf pool4 1 #[] #[] 1537 3 #[] #[])
  fields := #[]
  methods := #[]
  instanceTypes := #[]
  staticTypes := #[]
  resolved := Array.replicate 7 none
  statics := none }

def pool5 : Array CpInfo := pool [(2, .class_ 4), (1, u "java/lang/Enum"), (0, u "name"), (0, u "Ljava/lang/String;"), (2, u "ordinal"), (0, u "I"), (1, .class_ 14), (1, u "java/lang/Object"), (4, u "hash"), (86, .class_ 108), (1, u "java/lang/Enum$EnumDesc"), (2, .class_ 112), (0, u "java/lang/constant/Constable"), (0, .class_ 114), (0, u "java/lang/Comparable"), (0, .class_ 116), (0, u "java/io/Serializable")] 87

/-- java/lang/Enum -/
def k5 : Class := { plain "java/lang/Enum" (some 0) with
  accessFlags := 1057
  interfaces := #[2, 3, 4]
  cf := some (fileOf pool5 2 #[.nestMembers #[106]] #[] 1057 12 #[111, 113, 115] #[{ accessFlags := 18, nameIndex := 5, descriptorIndex := 6, attributes := #[] }, { accessFlags := 18, nameIndex := 9, descriptorIndex := 10, attributes := #[] }, { accessFlags := 2, nameIndex := 19, descriptorIndex := 10, attributes := #[] }])
  fields := #[{ name := "name", type := (.object "java/lang/String"), accessFlags := 18, slot := 0, constantValue := 0 }, { name := "ordinal", type := .int, accessFlags := 18, slot := 1, constantValue := 0 }, { name := "hash", type := .int, accessFlags := 2, slot := 2, constantValue := 0 }]
  methods := #[]
  instanceTypes := #[(.object "java/lang/String"), .int, .int]
  staticTypes := #[]
  resolved := Array.replicate 204 none
  statics := none }

def pool6 : Array CpInfo := pool [(1, .class_ 2), (0, u "com/example/ponderat/ponderat/CounterpartyType"), (2, u "CENTRAL_GOVERNMENT"), (0, u "Lcom/example/ponderat/ponderat/CounterpartyType;"), (2, u "CENTRAL_BANK"), (2, u "REGIONAL_GOVERNMENT"), (2, u "PUBLIC_SECTOR_ENTITY"), (0, .fieldref 1 17), (0, .nameAndType 18 6), (0, u "MULTILATERAL_DEVELOPMENT_BANK"), (0, .fieldref 1 20), (0, .nameAndType 21 6), (0, u "INTERNATIONAL_ORGANISATION"), (2, u "BANK"), (2, u "INVESTMENT_FIRM"), (2, u "CORPORATE"), (2, u "INDIVIDUAL"), (2, u "NONE"), (2, u "$VALUES"), (0, u "[Lcom/example/ponderat/ponderat/CounterpartyType;"), (6, .class_ 49), (1, u "java/lang/Enum"), (29, u "isNamedByEntityCode"), (0, u "()Z")] 5

def k6c0 : Code := { maxStack := 2, maxLocals := 1, code := prog_5_method_4_code, exceptionTable := #[], attributes := #[] }
def k6m0 : Method := { name := "isNamedByEntityCode", desc := "()Z", sig := { parameters := [], returnType := some .boolean }, accessFlags := 1, code := some k6c0 }
/-- com/example/ponderat/ponderat/CounterpartyType -/
def k6 : Class := { plain "com/example/ponderat/ponderat/CounterpartyType" (some 5) with
  accessFlags := 16433
  interfaces := #[]
  cf := some (fileOf pool6 1 #[] #[{ accessFlags := 1, nameIndex := 79, descriptorIndex := 80, attributes := #[] }] 16433 47 #[] #[{ accessFlags := 16409, nameIndex := 5, descriptorIndex := 6, attributes := #[] }, { accessFlags := 16409, nameIndex := 9, descriptorIndex := 6, attributes := #[] }, { accessFlags := 16409, nameIndex := 12, descriptorIndex := 6, attributes := #[] }, { accessFlags := 16409, nameIndex := 15, descriptorIndex := 6, attributes := #[] }, { accessFlags := 16409, nameIndex := 18, descriptorIndex := 6, attributes := #[] }, { accessFlags := 16409, nameIndex := 21, descriptorIndex := 6, attributes := #[] }, { accessFlags := 16409, nameIndex := 24, descriptorIndex := 6, attributes := #[] }, { accessFlags := 16409, nameIndex := 27, descriptorIndex := 6, attributes := #[] }, { accessFlags := 16409, nameIndex := 30, descriptorIndex := 6, attributes := #[] }, { accessFlags := 16409, nameIndex := 33, descriptorIndex := 6, attributes := #[] }, { accessFlags := 16409, nameIndex := 36, descriptorIndex := 6, attributes := #[] }, { accessFlags := 4122, nameIndex := 39, descriptorIndex := 40, attributes := #[] }])
  fields := #[{ name := "CENTRAL_GOVERNMENT", type := (.object "com/example/ponderat/ponderat/CounterpartyType"), accessFlags := 16409, slot := 0, constantValue := 0 }, { name := "CENTRAL_BANK", type := (.object "com/example/ponderat/ponderat/CounterpartyType"), accessFlags := 16409, slot := 1, constantValue := 0 }, { name := "REGIONAL_GOVERNMENT", type := (.object "com/example/ponderat/ponderat/CounterpartyType"), accessFlags := 16409, slot := 2, constantValue := 0 }, { name := "PUBLIC_SECTOR_ENTITY", type := (.object "com/example/ponderat/ponderat/CounterpartyType"), accessFlags := 16409, slot := 3, constantValue := 0 }, { name := "MULTILATERAL_DEVELOPMENT_BANK", type := (.object "com/example/ponderat/ponderat/CounterpartyType"), accessFlags := 16409, slot := 4, constantValue := 0 }, { name := "INTERNATIONAL_ORGANISATION", type := (.object "com/example/ponderat/ponderat/CounterpartyType"), accessFlags := 16409, slot := 5, constantValue := 0 }, { name := "BANK", type := (.object "com/example/ponderat/ponderat/CounterpartyType"), accessFlags := 16409, slot := 6, constantValue := 0 }, { name := "INVESTMENT_FIRM", type := (.object "com/example/ponderat/ponderat/CounterpartyType"), accessFlags := 16409, slot := 7, constantValue := 0 }, { name := "CORPORATE", type := (.object "com/example/ponderat/ponderat/CounterpartyType"), accessFlags := 16409, slot := 8, constantValue := 0 }, { name := "INDIVIDUAL", type := (.object "com/example/ponderat/ponderat/CounterpartyType"), accessFlags := 16409, slot := 9, constantValue := 0 }, { name := "NONE", type := (.object "com/example/ponderat/ponderat/CounterpartyType"), accessFlags := 16409, slot := 10, constantValue := 0 }, { name := "$VALUES", type := (.array (.object "com/example/ponderat/ponderat/CounterpartyType")), accessFlags := 4122, slot := 11, constantValue := 0 }]
  methods := #[k6m0]
  instanceTypes := #[(.object "java/lang/String"), .int, .int]
  staticTypes := #[(.object "com/example/ponderat/ponderat/CounterpartyType"), (.object "com/example/ponderat/ponderat/CounterpartyType"), (.object "com/example/ponderat/ponderat/CounterpartyType"), (.object "com/example/ponderat/ponderat/CounterpartyType"), (.object "com/example/ponderat/ponderat/CounterpartyType"), (.object "com/example/ponderat/ponderat/CounterpartyType"), (.object "com/example/ponderat/ponderat/CounterpartyType"), (.object "com/example/ponderat/ponderat/CounterpartyType"), (.object "com/example/ponderat/ponderat/CounterpartyType"), (.object "com/example/ponderat/ponderat/CounterpartyType"), (.object "com/example/ponderat/ponderat/CounterpartyType"), (.array (.object "com/example/ponderat/ponderat/CounterpartyType"))]
  resolved := Array.replicate 86 none
  statics := some 0 }

def pool7 : Array CpInfo := pool [(1, u "java/lang/Cloneable"), (0, .class_ 1), (0, u "java/lang/Object"), (0, .class_ 3)] 3

/-- java/lang/Cloneable -/
def k7 : Class := { plain "java/lang/Cloneable" (some 0) with
  accessFlags := 1537
  interfaces := #[]
  cf := some (fileOf pool7 2 #[] #[] 1537 4 #[] #[])
  fields := #[]
  methods := #[]
  instanceTypes := #[]
  staticTypes := #[]
  resolved := Array.replicate 8 none
  statics := none }

/-- the primitive byte -/
def k8 : Class := { plain "byte" none with kind := .primitive 'B', accessFlags := 0x411 }
/-- [B -/
def k9 : Class := { plain "[B" (some 0) with kind := .array 8 .byte, interfaces := #[7, 4], accessFlags := 1041 }

/-- the primitive int -/
def k10 : Class := { plain "int" none with kind := .primitive 'I', accessFlags := 0x411 }
/-- [I -/
def k11 : Class := { plain "[I" (some 0) with kind := .array 10 .int, interfaces := #[7, 4], accessFlags := 1041 }

def heap : Heap := #[{ cls := 6, slots := #[.ref 1, .ref 9, .ref 7, .ref 4, .ref 2, .ref 3, .ref 11, .ref 5, .ref 6, .ref 10, .ref 8, .null], vm := .statics 6 },
  { cls := 6, slots := #[.null, .int 0, .int 0], vm := .none },
  { cls := 6, slots := #[.null, .int 4, .int 0], vm := .none },
  { cls := 6, slots := #[.null, .int 5, .int 0], vm := .none },
  { cls := 6, slots := #[.null, .int 3, .int 0], vm := .none },
  { cls := 6, slots := #[.null, .int 7, .int 0], vm := .none },
  { cls := 6, slots := #[.null, .int 8, .int 0], vm := .none },
  { cls := 6, slots := #[.null, .int 2, .int 0], vm := .none },
  { cls := 6, slots := #[.null, .int 10, .int 0], vm := .none },
  { cls := 6, slots := #[.null, .int 1, .int 0], vm := .none },
  { cls := 6, slots := #[.null, .int 9, .int 0], vm := .none },
  { cls := 6, slots := #[.null, .int 6, .int 0], vm := .none }]
def classes : Array Class := #[k0, k1, k2, k3, k4, k5, k6, k7, k8, k9, k10, k11]
def interned : List (Array UInt16 × Addr) := []
def slotsUsed : Nat := 45
def theMethod : MethodId := ⟨1, 3⟩
def args0 : Array Value := #[.int 5]
def aboutOver (below : List Frame) : State where
  vm := { classes := classes, interned := interned.toArray }
  heap := heap
  slotsUsed := slotsUsed
  threads := #[{ frames := .invoking theMethod args0 :: below }]
def below0 : List Frame := [.native { method := ⟨0, 0⟩, args := #[] }]
def about1 : State := aboutOver below0
def p0 : Program := .bare "" "" ""
def e0 : Env := launch0.env 0 0 0
theorem w_frames : about1.frames = Frame.invoking theMethod args0 :: below0 := rfl
set_option maxRecDepth 65536 in
theorem w_args : argsFit about1.vm theMethod args0 = true := by decide +kernel
set_option maxRecDepth 65536 in
theorem w_heap : heapFits about1 = true := by decide +kernel
set_option maxRecDepth 65536 in
theorem w_runnable : about1.curStatus? = some .runnable := by decide +kernel
set_option maxRecDepth 65536 in
theorem w_alone : about1.alone = true := by decide +kernel
set_option maxRecDepth 65536 in
theorem w_named : about1.methodNamed? x = some theMethod := by decide +kernel
set_option maxRecDepth 65536 in
theorem w_hears : about1.hears theMethod below0 = true := by decide +kernel
set_option maxRecDepth 65536 in
theorem w_ripe : about1.ripe theMethod args0 below0 = true := by decide +kernel
theorem w_running : about1.status = .running := rfl
set_option maxRecDepth 65536 in
theorem w_room : about1.hasRoom e0.platform room_1 = true :=
  launch0.hasRoom_least _ room_1 (by decide +kernel) (by decide +kernel) (by decide +kernel) (by decide +kernel) (by decide +kernel) (by decide +kernel)
theorem allAtoms_all (ts : List Jvm.Cond) (a : Array Jvm.Value) (st : Jvm.State) : (allAtoms ts).before a st = ts.all (fun c => c.before a st) := by
  induction ts with
  | nil => rfl
  | cons c t ih =>
    show (Jvm.Cond.and c (allAtoms t)).before a st = _
    rw [Jvm.Cond.before_and, ih, List.all_cons]
def words1 : List Jvm.Cond := Jvm.Cond.code x code maxLocals ret :: tables_1
/-- a 'code' word, met by the world's own term for the bytes: nothing is compared byte by byte -/
theorem code_word {y : MethodName} {bytes : ByteArray} {mx : Nat} {rt : Option FieldType} {a : Array Value} {s : State} {m : MethodId} {meth : Method} {c : Code} (h1 : s.methodNamed? y = some m) (h2 : s.vm.method? m = some meth) (h3 : meth.code = some c) (h4 : c.code = bytes)
    (h5 : (c.maxLocals == mx && c.exceptionTable.isEmpty && decide (c.maxStack ≤ mostOperands) && decide (meth.sig.returnType = rt) && !meth.locks && decide (parseMethodDescriptor y.desc = some meth.sig)) = true) : (Jvm.Cond.code y bytes mx rt).before a s = true := by
  simp only [Bool.and_eq_true, beq_iff_eq, Bool.not_eq_true', decide_eq_true_eq] at h5
  obtain ⟨⟨⟨⟨⟨g1, g2⟩, g3⟩, g4⟩, g5⟩, g6⟩ := h5
  simp [Cond.before, Cond.holds, Cond.value, h1, h2, h3, h4, g1, g2, g3, g4, g5, g6]
def isCode : Jvm.Cond → Bool
  | .code _ _ _ _ => true
  | _ => false
theorem all_split {L : List Jvm.Cond} {P : Jvm.Cond → Bool} (h1 : L.all (fun c => isCode c || P c) = true) (h2 : ∀ c ∈ L.filter isCode, P c = true) : L.all P = true := by
  refine List.all_eq_true.mpr fun c hc => ?_
  have h := List.all_eq_true.mp h1 c hc
  rcases Bool.eq_false_or_eq_true (isCode c) with hi | hi
  · exact h2 c (List.mem_filter.mpr ⟨hc, hi⟩)
  · simpa [hi] using h
set_option maxRecDepth 65536 in
theorem w_c0 : (Jvm.Cond.code x code maxLocals ret).before args0 about1 = true := code_word (m := ⟨1, 3⟩) (meth := k1m3) (c := k1c3) (by decide +kernel) rfl rfl rfl (by decide +kernel)
set_option maxRecDepth 65536 in
theorem w_c1 : (Jvm.Cond.code ({ cls := "com/example/ponderat/ponderat/CounterpartyTypeIsNamedByEntityCodePinLaw", name := "pick", desc := "(I)Lcom/example/ponderat/ponderat/CounterpartyType;" } : Jvm.MethodName) method_2_code (1 : Nat) (Option.some (Jvm.ClassFile.FieldType.object "com/example/ponderat/ponderat/CounterpartyType"))).before args0 about1 = true := code_word (m := ⟨1, 1⟩) (meth := k1m1) (c := k1c1) (by decide +kernel) rfl rfl rfl (by decide +kernel)
set_option maxRecDepth 65536 in
theorem w_c2 : (Jvm.Cond.code ({ cls := "com/example/ponderat/ponderat/CounterpartyType", name := "isNamedByEntityCode", desc := "()Z" } : Jvm.MethodName) prog_5_method_4_code (1 : Nat) (Option.some Jvm.ClassFile.FieldType.boolean)).before args0 about1 = true := code_word (m := ⟨6, 0⟩) (meth := k6m0) (c := k6c0) (by decide +kernel) rfl rfl rfl (by decide +kernel)
set_option maxRecDepth 65536 in
theorem w_c3 : (Jvm.Cond.code ({ cls := "com/example/ponderat/ponderat/CounterpartyTypeIsNamedByEntityCodePinLaw", name := "expected", desc := "(I)Z" } : Jvm.MethodName) method_3_code (1 : Nat) (Option.some Jvm.ClassFile.FieldType.boolean)).before args0 about1 = true := code_word (m := ⟨1, 2⟩) (meth := k1m2) (c := k1c2) (by decide +kernel) rfl rfl rfl (by decide +kernel)
def codes1 : List Jvm.Cond := [Jvm.Cond.code x code maxLocals ret, Jvm.Cond.code ({ cls := "com/example/ponderat/ponderat/CounterpartyTypeIsNamedByEntityCodePinLaw", name := "pick", desc := "(I)Lcom/example/ponderat/ponderat/CounterpartyType;" } : Jvm.MethodName) method_2_code (1 : Nat) (Option.some (Jvm.ClassFile.FieldType.object "com/example/ponderat/ponderat/CounterpartyType")), Jvm.Cond.code ({ cls := "com/example/ponderat/ponderat/CounterpartyType", name := "isNamedByEntityCode", desc := "()Z" } : Jvm.MethodName) prog_5_method_4_code (1 : Nat) (Option.some Jvm.ClassFile.FieldType.boolean), Jvm.Cond.code ({ cls := "com/example/ponderat/ponderat/CounterpartyTypeIsNamedByEntityCodePinLaw", name := "expected", desc := "(I)Z" } : Jvm.MethodName) method_3_code (1 : Nat) (Option.some Jvm.ClassFile.FieldType.boolean)]
set_option maxRecDepth 65536 in
theorem codes_eq : words1.filter isCode = codes1 := rfl
theorem w_codes : ∀ c ∈ words1.filter isCode, c.before args0 about1 = true := by
  rw [codes_eq]
  intro c hc
  simp only [codes1, List.mem_cons, List.not_mem_nil, or_false] at hc
  rcases hc with rfl | rfl | rfl | rfl
  · exact w_c0
  · exact w_c1
  · exact w_c2
  · exact w_c3
set_option maxRecDepth 65536 in
theorem w_t1 : (words1.take 24).all (fun c => isCode c || c.before args0 about1) = true := by decide +kernel
set_option maxRecDepth 65536 in
theorem w_t2 : (words1.drop 24).all (fun c => isCode c || c.before args0 about1) = true := by decide +kernel
theorem w_tables : (allAtoms (Jvm.Cond.code x code maxLocals ret :: tables_1)).before args0 about1 = true := by
  rw [allAtoms_all]
  show words1.all (fun c => c.before args0 about1) = true
  refine all_split ?_ w_codes
  rw [← List.take_append_drop 24 words1, List.all_append, w_t1, w_t2]
  rfl
set_option maxRecDepth 65536 in
theorem w_case : (Jvm.Cond.and given_1 narrow_1).before args0 about1 = true := by decide +kernel
theorem w_applies : (headSpec (Jvm.Cond.code x code maxLocals ret :: tables_1) room_1).applies x e0.platform about1 = true :=
  (Spec.applies_iff w_frames).mpr ⟨w_running, w_runnable, w_alone, w_named, w_hears, w_ripe, w_room, w_tables⟩
theorem atStart : AtStart classFile x code maxLocals ret World_1 tables_1 room_1 Calls_1 rest_1 Pre_1 launch0 p0 e0 about1 theMethod args0 below0 :=
  ⟨lists_1, trivial, launch0.admits_env _ _ _, launch0.least_env, fairChoices_fair.cas, fairChoices_fair.clock, w_frames, w_args, w_heap, w_applies, trivial, trivial, w_case⟩
end start1
theorem witness_1 : WitnessClaimed_1 := ⟨start1.p0, start1.e0, start1.about1, start1.theMethod, start1.args0, start1.below0, start1.atStart⟩
end Jvm.Pilot.@@N@@
