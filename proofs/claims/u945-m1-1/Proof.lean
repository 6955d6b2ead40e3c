import JvmDerived
import JvmDerived.Pilot.@@N@@Statement
import JvmDerived.Pilot.@@N@@Code
set_option linter.unusedVariables false
set_option linter.unusedSimpArgs false
namespace Jvm.RoadKit
open Sem ClassFile Op Lib Jvm.Stand Jvm.Free Jvm.LawKit
section New
variable {p : Program} {l : Launch} {e : Env} {R : Room} {s : State} {m : MethodId} {args : Array Value} {below : List Frame} {meth : Method} {c : Code} {T : State} {locs : List Loc} {cells slots : Nat}
theorem retI (X : Stand p l e R s m args below meth c T locs cells slots) (hx : p.tables.exec = Jvm.exec) {pc : Nat} {Ls : Array Slot} {z : Int32} {rest : List Value} (hret : meth.sig.returnType = some .int) (hd : decode c.code pc = .ok (.ireturn, 1)) {fs : List Frame}
    (hl : ∀ (f : JFrame) (acts : List Action), f.method = m → f.locked = none → f.entered = [] → (doReturn e (T.setTop f) acts (some (.int z))).1 = T.setFrames fs) : Steps p.tables e below (T.setTop (mkF m pc Ls (.int z :: rest))) (T.setFrames fs) := by
  have hm' : T.vm.method? m = some meth := X.method'
  have hn : narrow .int (.int z) = .int z := rfl
  show Steps p.tables e below (T.setTop { method := m, pc := pc, locals := Ls, stack := _ :: rest, locked := none }) _
  jvm_step X.here [X.here.top, hx, hd, hm', hret, hn]
  first | (intro acts; rw [hl _ acts rfl rfl rfl]) | rw [hl _ _ rfl rfl rfl]
  exact Steps.refl _
end New
end Jvm.RoadKit
namespace Jvm.Pilot.@@N@@
open Jvm Jvm.ClassFile Sem Op Lib Jvm.Free Jvm.Stand Jvm.LawKit Jvm.RoadKit Bundle Jvm.Pilot.@@N@@.Jvm.D
/-- a run from U comes to an end at which P holds -/
def Go (p : Program) (e : Env) (below : List Frame) (P : State → Outcome → Prop) (U : State) : Prop := ∃ s₂ o, Steps p.tables e below U s₂ ∧ P s₂ o
theorem Go.out {p : Program} {e : Env} {below : List Frame} {P : State → Outcome → Prop} {U : State} (h : Go p e below P U) : ∃ s₂ o, Steps p.tables e below U s₂ ∧ P s₂ o := h
theorem Go.pre {p : Program} {e : Env} {below : List Frame} {P : State → Outcome → Prop} {U U' : State} (st : ∀ t, Steps p.tables e below U' t → Steps p.tables e below U t) (h : Go p e below P U') : Go p e below P U := by
  obtain ⟨t, o, h1, h2⟩ := h
  exact ⟨t, o, st _ h1, h2⟩
theorem Go.named {p : Program} {e : Env} {below : List Frame} {P : State → Outcome → Prop} {U : State} (h : ∀ P', P' = P → Go p e below P' U) : Go p e below P U := h P rfl
theorem Go.fin {p : Program} {e : Env} {below : List Frame} {P : State → Outcome → Prop} {U t : State} {o : Outcome} (st : Steps p.tables e below U t) (h : P t o) : Go p e below P U := ⟨t, o, st, h⟩
theorem own_cut {p : Program} {e : Env} {below : List Frame} {U U' : State} (st : Steps p.tables e below U U') : ∀ t, Steps p.tables e below U' t → Steps p.tables e below U t := fun _ k => st.trans k
theorem own_ltT {x y : Int64} (h : x < y) : lcmpW x y < 0 := by rw [lcW]; exact (lc_lt x y).mpr h
theorem own_ltF {x y : Int64} (h : ¬ x < y) : ¬ lcmpW x y < 0 := by rw [lcW]; exact fun q => h ((lc_lt x y).mp q)
theorem own_gtT {x y : Int64} (h : y < x) : 0 < lcmpW x y := by rw [lcW]; exact (lc_gt x y).mpr h
theorem own_gtF {x y : Int64} (h : ¬ y < x) : ¬ 0 < lcmpW x y := by rw [lcW]; exact fun q => h ((lc_gt x y).mp q)
theorem own_eqT {x y : Int64} (h : x = y) : lcmpW x y = 0 := by rw [lcW]; exact (lc_eq x y).mpr h
theorem own_eqF {x y : Int64} (h : ¬ x = y) : ¬ lcmpW x y = 0 := by rw [lcW]; exact fun q => h ((lc_eq x y).mp q)

theorem own_staK {Z : State} {h h' : Heap} {C n d : String} {v : Value} (F : Sta Z h C n d v) (K : Keep h h' []) : Sta Z h' C n d v := by
  obtain ⟨cf, i, k, f, st, cell, h1, h2, h3, h4, h5, r⟩ := F
  exact ⟨cf, i, k, f, st, cell, h1, h2, h3, h4, K.2.1 _ _ h5 nin0, r⟩
theorem own_fldI {args : Array Value} {s : State} {t : Term} {C n d : String} {a : Addr} {k : Int32} (ht : t.eval args s none [] s = some (.ref a)) (h : (Cond.eq (Term.field t C n d) (Term.int k)).value args s none s [] = some true) : Fld s s.heap a C n d (.int k) := by
  apply Fld.start
  have e := fld_at (C := C) (n := n) (dd := d) ht
  have ek : (Term.int k).eval args s none [] s = some (.int k) := Term.int_eval k
  cases hf : s.fieldOf? a C n d with
  | none => rw [hf] at e; simp [Cond.value, e] at h
  | some v =>
    rw [hf] at e
    cases v <;> simp [Cond.value, e, ek] at h
    subst h; rfl
theorem own_fldJ {args : Array Value} {s : State} {t : Term} {C n d : String} {a : Addr} {k : Int64} (ht : t.eval args s none [] s = some (.ref a)) (h : (Cond.eq (Term.field t C n d) (Term.long k)).value args s none s [] = some true) : Fld s s.heap a C n d (.long k) := by
  apply Fld.start
  have e := fld_at (C := C) (n := n) (dd := d) ht
  have ek : (Term.long k).eval args s none [] s = some (.long k) := by simp [Term.eval]
  cases hf : s.fieldOf? a C n d with
  | none => rw [hf] at e; simp [Cond.value, e] at h
  | some v =>
    rw [hf] at e
    cases v <;> simp [Cond.value, e, ek] at h
    subst h; rfl
theorem d_prog_14_method_4_0 : decode prog_14_method_4_code 0 = .ok (.aload_n 0, 1) := by decide +kernel
theorem d_prog_14_method_4_1 : decode prog_14_method_4_code 1 = .ok (.getstatic 3, 3) := by decide +kernel
theorem d_prog_14_method_4_4 : decode prog_14_method_4_code 4 = .ok (.if_acmp .ne 10, 3) := by decide +kernel
theorem d_prog_14_method_4_7 : decode prog_14_method_4_code 7 = .ok (.getstatic 7, 3) := by decide +kernel
theorem d_prog_14_method_4_10 : decode prog_14_method_4_code 10 = .ok (.astore_n 1, 1) := by decide +kernel
theorem d_prog_14_method_4_11 : decode prog_14_method_4_code 11 = .ok (.goto 7, 3) := by decide +kernel
theorem d_prog_14_method_4_18 : decode prog_14_method_4_code 18 = .ok (.aload_n 1, 1) := by decide +kernel
theorem d_prog_14_method_4_19 : decode prog_14_method_4_code 19 = .ok (.areturn, 1) := by decide +kernel
theorem d_prog_14_method_4_14 : decode prog_14_method_4_code 14 = .ok (.getstatic 3, 3) := by decide +kernel
theorem d_prog_14_method_4_17 : decode prog_14_method_4_code 17 = .ok (.astore_n 1, 1) := by decide +kernel
theorem pd_0 : parseMethodDescriptor "()Lcom/example/pages_over_partitions/pagesoverpartitions/SortOrder;" = some ⟨[], some (.object "com/example/pages_over_partitions/pagesoverpartitions/SortOrder")⟩ := by decide +kernel
theorem own_ne {Z : State} {h : Heap} {a b : Addr} {C n d : String} {v w : Value} (F : Fld Z h a C n d v) (G : Fld Z h b C n d w) (hvw : v ≠ w) : ¬ a = b := fun e => by
  subst e
  obtain ⟨c1, f1, k1, i1, g1, a1, a2, -, -, -, -, a7⟩ := F
  obtain ⟨c2, f2, k2, i2, g2, b1, b2, -, -, -, -, b7⟩ := G
  cases a1.symm.trans b1
  cases a2.symm.trans b2
  exact hvw (Option.some.inj (a7.symm.trans b7))

theorem ef_rev (m : MethodId) (x0 : Addr) : entryFrame m #[(.ref x0)] 2 = mkF m 0 #[rv x0, .unset] [] := by first | (simp [entryFrame, mkF, argsToLocals, Value.category]; done) | rfl
theorem pn_rev : plainName "com/example/pages_over_partitions/pagesoverpartitions/SortOrder" = true := by first | (simp [plainName, overriddenIn]; done) | decide +kernel
def Q_rev (Z : State) (a1 : Addr) (aC : Addr) (aR : Addr) (h0 : Heap) (n0 : Nat) (v : Option Value) (h : Heap) (L : List Loc) : Prop := (a1 = aC ∧ v = some (.ref aR) ∧ Fr n0 L ∧ h = h0) ∨ (¬ a1 = aC ∧ v = some (.ref aC) ∧ Fr n0 L ∧ h = h0)
set_option maxRecDepth 65536 in
set_option maxHeartbeats 40000000 in
theorem rm_rev (l : Launch) (Z : State) (a0 : Array Value) (hw : ∀ d ∈ tables_1, d.before a0 Z = true) (ws : List Jvm.Cond) (a1 : Addr) (aC : Addr) (aR : Addr) (h0 : Heap) (n0 : Nat) (Z0 : n0 ≤ h0.size) (S_aC : Sta Z h0 "com/example/pages_over_partitions/pagesoverpartitions/SortOrder" "CLUSTERING" "Lcom/example/pages_over_partitions/pagesoverpartitions/SortOrder;" (.ref aC)) (S_aR : Sta Z h0 "com/example/pages_over_partitions/pagesoverpartitions/SortOrder" "REVERSE" "Lcom/example/pages_over_partitions/pagesoverpartitions/SortOrder;" (.ref aR)) :
    MetFree l (⟨"com/example/pages_over_partitions/pagesoverpartitions/SortOrder", "reversed", "()Lcom/example/pages_over_partitions/pagesoverpartitions/SortOrder;"⟩ : MethodName) (head1 (Jvm.Cond.code (⟨"com/example/pages_over_partitions/pagesoverpartitions/SortOrder", "reversed", "()Lcom/example/pages_over_partitions/pagesoverpartitions/SortOrder;"⟩ : MethodName) prog_14_method_4_code 2 (some (.object "com/example/pages_over_partitions/pagesoverpartitions/SortOrder")) :: ws) ({ frames := 0, cells := 0, slots := 0, locals := 0 } : Room)) (fun a U => a = #[(.ref a1)] ∧ Z.Warmed39 U.vm ∧ U.heap = h0) (fun _ _ _ _ _ => True) (fun _ U o U' => ∃ v L, o = .returned v ∧ Q_rev Z a1 aC aR h0 n0 v U'.heap L ∧ FrameEnd U o U' L ({ frames := 0, cells := 0, slots := 0, locals := 0 } : Room).cells ({ frames := 0, cells := 0, slots := 0, locals := 0 } : Room).slots) := by
  refine MetFree.of_bodySF (plainFor_of_name pn_rev) hisR ?_
  intro p e s m args below meth c s₁ Bd hml0 hP hK
  obtain ⟨rfl, hZ, hh⟩ := hP
  have hx := Bd.exec
  have hby := Bd.bytes
  have hml : c.maxLocals = 2 := hml0
  have hown : s.vm.findClass "com/example/pages_over_partitions/pagesoverpartitions/SortOrder" = some m.cls := findClass_of_methodNamed Bd.named
  have hnm := (name_of_methodNamed Bd.named Bd.method).1
  have X0 : Stand p l e ({ frames := 0, cells := 0, slots := 0, locals := 0 } : Room) s m #[(.ref a1)] below meth c s₁ [] 0 0 := Stand.of_body Bd
  have e0 : s₁.heap = h0 := by rw [← hh, Bd.state]; rfl
  have N0 := Fr.nil n0
  refine Go.out ?_
  refine Go.pre (fun t k => castTop (ef_rev m a1) k) ?_
  show Go p e below _ (s₁.setTop (mkF m 0 #[rv a1, .unset] []))
  refine Go.pre (fun _ k => XS.aloadN X0.here hx rfl (hb hby d_prog_14_method_4_0) rfl rfl k) ?_
  show Go p e below _ (s₁.setTop (mkF m 1 #[rv a1, .unset] [(.ref a1)]))
  obtain ⟨T1, X1, e1, st1⟩ := getS2 X0 hx hZ hown (host := "") (Or.inl (hw _ (List.mem_of_getElem? (i := 8) rfl))) Via.refl e0 S_aC (g := (mkF m 1 #[rv a1, .unset] [(.ref a1)])) rfl (hb hby d_prog_14_method_4_1)
  refine Go.pre st1 ?_
  show Go p e below _ (T1.setTop (mkF m 4 #[rv a1, .unset] [(.ref aC), (.ref a1)]))
  by_cases ha4_2 : a1 = aC
  · skip
    refine Go.pre (fun _ k => Jvm.RoadKit.acmp (g := (mkF m 4 #[rv a1, .unset] [(.ref aC), (.ref a1)])) X1 hx rfl rfl rfl (pc0 := 4) (pc' := 7) (same := true) rfl (hb hby d_prog_14_method_4_4) rfl (decide_eq_true (congrArg Value.ref ha4_2)) (by decide) (by decide) k) ?_
    show Go p e below _ (T1.setTop (mkF m 7 #[rv a1, .unset] []))
    obtain ⟨T3, X3, e3, st3⟩ := getS2 X1 hx hZ hown (host := "") (Or.inl (hw _ (List.mem_of_getElem? (i := 9) rfl))) Via.refl e1 S_aR (g := (mkF m 7 #[rv a1, .unset] [])) rfl (hb hby d_prog_14_method_4_7)
    refine Go.pre st3 ?_
    show Go p e below _ (T3.setTop (mkF m 10 #[rv a1, .unset] [(.ref aR)]))
    refine Go.pre (fun _ k => XS.astoreN X3.here hx rfl (hb hby d_prog_14_method_4_10) rfl rfl (l' := #[rv a1, rv aR]) rfl k) ?_
    show Go p e below _ (T3.setTop (mkF m 11 #[rv a1, rv aR] []))
    refine Go.pre (fun _ k => XS.goto X3.here hx rfl (pc0 := 11) (pc' := 18) rfl (hb hby d_prog_14_method_4_11) (by decide) (by decide) k) ?_
    show Go p e below _ (T3.setTop (mkF m 18 #[rv a1, rv aR] []))
    refine Go.pre (fun _ k => XS.aloadN X3.here hx rfl (hb hby d_prog_14_method_4_18) rfl rfl k) ?_
    show Go p e below _ (T3.setTop (mkF m 19 #[rv a1, rv aR] [(.ref aR)]))
    obtain ⟨fs, hr, hrun, hended, hW, hsame⟩ := X3.leave (v := some (.ref aR)) (fun h => by rw [Bd.returns] at h; cases h)
    refine Go.fin (retOut X3 hx Bd.returns rfl (Or.inr (Or.inr (Or.inr (Or.inr ⟨rfl, rfl, rfl⟩)))) (hb hby d_prog_14_method_4_19) hr) ⟨hrun, hended, _, _, rfl, ?_, ⟨_, rfl⟩, hW, hsame.mono (by decide) (by decide)⟩
    show Q_rev Z a1 aC aR h0 n0 _ T3.heap _
    rw [e3]
    exact Or.inl ⟨ha4_2, rfl, N0, rfl⟩
  · skip
    refine Go.pre (fun _ k => Jvm.RoadKit.acmp (g := (mkF m 4 #[rv a1, .unset] [(.ref aC), (.ref a1)])) X1 hx rfl rfl rfl (pc0 := 4) (pc' := 14) (same := false) rfl (hb hby d_prog_14_method_4_4) rfl (decide_eq_false fun q => ha4_2 (Value.ref.inj q)) (by decide) (by decide) k) ?_
    show Go p e below _ (T1.setTop (mkF m 14 #[rv a1, .unset] []))
    obtain ⟨T4, X4, e4, st4⟩ := getS2 X1 hx hZ hown (host := "") (Or.inl (hw _ (List.mem_of_getElem? (i := 8) rfl))) Via.refl e1 S_aC (g := (mkF m 14 #[rv a1, .unset] [])) rfl (hb hby d_prog_14_method_4_14)
    refine Go.pre st4 ?_
    show Go p e below _ (T4.setTop (mkF m 17 #[rv a1, .unset] [(.ref aC)]))
    refine Go.pre (fun _ k => XS.astoreN X4.here hx rfl (hb hby d_prog_14_method_4_17) rfl rfl (l' := #[rv a1, rv aC]) rfl k) ?_
    show Go p e below _ (T4.setTop (mkF m 18 #[rv a1, rv aC] []))
    refine Go.pre (fun _ k => XS.aloadN X4.here hx rfl (hb hby d_prog_14_method_4_18) rfl rfl k) ?_
    show Go p e below _ (T4.setTop (mkF m 19 #[rv a1, rv aC] [(.ref aC)]))
    obtain ⟨fs, hr, hrun, hended, hW, hsame⟩ := X4.leave (v := some (.ref aC)) (fun h => by rw [Bd.returns] at h; cases h)
    refine Go.fin (retOut X4 hx Bd.returns rfl (Or.inr (Or.inr (Or.inr (Or.inr ⟨rfl, rfl, rfl⟩)))) (hb hby d_prog_14_method_4_19) hr) ⟨hrun, hended, _, _, rfl, ?_, ⟨_, rfl⟩, hW, hsame.mono (by decide) (by decide)⟩
    show Q_rev Z a1 aC aR h0 n0 _ T4.heap _
    rw [e4]
    exact Or.inr ⟨ha4_2, rfl, N0, rfl⟩

theorem ef_law (m : MethodId) (x0 : Int32) : entryFrame m #[(.int x0)] maxLocals = mkF m 0 #[iv x0, .unset, .unset, .unset, .unset, .unset] [] := by first | (simp [entryFrame, mkF, argsToLocals, Value.category, maxLocals]; done) | rfl
theorem pn_law : plainName "com/example/pages_over_partitions/pagesoverpartitions/SortOrderReversedPinLaw" = true := by first | (simp [plainName, overriddenIn]; done) | decide +kernel
def Q_law (Z : State) (p1 : Int32) (aC : Addr) (aR : Addr) (h0 : Heap) (n0 : Nat) (v : Option Value) (h : Heap) (L : List Loc) : Prop := v = some (.int 1) ∧ Fr n0 L
set_option maxRecDepth 65536 in
set_option maxHeartbeats 40000000 in
theorem rm_law (l : Launch) (Z : State) (a0 : Array Value) (hw : ∀ d ∈ tables_1, d.before a0 Z = true) (ws : List Jvm.Cond) (p1 : Int32) (aC : Addr) (aR : Addr) (h0 : Heap) (n0 : Nat) (Z0 : n0 ≤ h0.size) (S_aC : Sta Z h0 "com/example/pages_over_partitions/pagesoverpartitions/SortOrder" "CLUSTERING" "Lcom/example/pages_over_partitions/pagesoverpartitions/SortOrder;" (.ref aC)) (S_aR : Sta Z h0 "com/example/pages_over_partitions/pagesoverpartitions/SortOrder" "REVERSE" "Lcom/example/pages_over_partitions/pagesoverpartitions/SortOrder;" (.ref aR)) (E_aC : Exa Z h0 aC "com/example/pages_over_partitions/pagesoverpartitions/SortOrder") (E_aR : Exa Z h0 aR "com/example/pages_over_partitions/pagesoverpartitions/SortOrder") (hne : ¬ aC = aR) :
    MetFree l x (head1 (Jvm.Cond.code x code maxLocals ret :: ws) room_1) (fun a U => a = #[(.int p1)] ∧ Z.Warmed39 U.vm ∧ U.heap = h0) (fun _ _ _ _ _ => True) (fun _ U o U' => ∃ v L, o = .returned v ∧ Q_law Z p1 aC aR h0 n0 v U'.heap L ∧ FrameEnd U o U' L room_1.cells room_1.slots) := by
  refine MetFree.of_bodySF (plainFor_of_name pn_law) hisR ?_
  intro p e s m args below meth c s₁ Bd hml0 hP hK
  obtain ⟨rfl, hZ, hh⟩ := hP
  have hx := Bd.exec
  have hby := Bd.bytes
  have hml : c.maxLocals = 6 := hml0
  have hown : s.vm.findClass "com/example/pages_over_partitions/pagesoverpartitions/SortOrderReversedPinLaw" = some m.cls := findClass_of_methodNamed Bd.named
  have hnm := (name_of_methodNamed Bd.named Bd.method).1
  have X0 : Stand p l e room_1 s m #[(.int p1)] below meth c s₁ [] 0 0 := Stand.of_body Bd
  have e0 : s₁.heap = h0 := by rw [← hh, Bd.state]; rfl
  have N0 := Fr.nil n0
  refine Go.out ?_
  refine Go.pre (fun t k => castTop (ef_law m p1) k) ?_
  show Go p e below _ (s₁.setTop (mkF m 0 #[iv p1, .unset, .unset, .unset, .unset, .unset] []))
  refine Go.pre (fun _ k => XS.iloadN X0.here hx rfl (hb hby at_0) rfl k) ?_
  show Go p e below _ (s₁.setTop (mkF m 1 #[iv p1, .unset, .unset, .unset, .unset, .unset] [(.int p1)]))
  refine Go.pre (fun _ k => XS.iconst X0.here hx rfl (hb hby at_1) k) ?_
  show Go p e below _ (s₁.setTop (mkF m 2 #[iv p1, .unset, .unset, .unset, .unset, .unset] [(.int (1 : Int32)), (.int p1)]))
  refine Go.pre (fun _ k => XS.iand X0.here hx rfl (hb hby at_2) rfl k) ?_
  show Go p e below _ (s₁.setTop (mkF m 3 #[iv p1, .unset, .unset, .unset, .unset, .unset] [(.int (p1 &&& (1 : Int32)))]))
  by_cases hc3_1 : (p1 &&& (1 : Int32)) = (0 : Int32)
  · skip
    refine Go.pre (fun _ k => XS.ifYes X0.here hx rfl (pc0 := 3) (pc' := 12) rfl (hb hby at_3) rfl ((if0 _ _).trans (teq hc3_1).1) (by decide) (by decide) k) ?_
    show Go p e below _ (s₁.setTop (mkF m 12 #[iv p1, .unset, .unset, .unset, .unset, .unset] []))
    obtain ⟨T2, X2, e2, st2⟩ := getS2 X0 hx hZ hown (host := "") (Or.inl (hw _ (List.mem_of_getElem? (i := 0) rfl))) Via.refl e0 S_aC (g := (mkF m 12 #[iv p1, .unset, .unset, .unset, .unset, .unset] [])) rfl (hb hby at_12)
    refine Go.pre st2 ?_
    show Go p e below _ (T2.setTop (mkF m 15 #[iv p1, .unset, .unset, .unset, .unset, .unset] [(.ref aC)]))
    refine Go.pre (fun _ k => XS.astoreN X2.here hx rfl (hb hby at_15) rfl rfl (l' := #[iv p1, rv aC, .unset, .unset, .unset, .unset]) rfl k) ?_
    show Go p e below _ (T2.setTop (mkF m 16 #[iv p1, rv aC, .unset, .unset, .unset, .unset] []))
    refine Go.pre (fun _ k => XS.aloadN X2.here hx rfl (hb hby at_16) rfl rfl k) ?_
    show Go p e below _ (T2.setTop (mkF m 17 #[iv p1, rv aC, .unset, .unset, .unset, .unset] [(.ref aC)]))
    obtain ⟨cq3, kq3, q3a, q3b, q3c⟩ := isOf hZ e2 E_aC
    obtain ⟨_, _, ⟨T3, L3, k3, n3⟩, -, X3, ⟨Lc3, hQ3, l3, y3, z3⟩, st3⟩ := X2.virtualBack hx (y := (⟨"com/example/pages_over_partitions/pagesoverpartitions/SortOrder", "reversed", "()Lcom/example/pages_over_partitions/pagesoverpartitions/SortOrder;"⟩ : MethodName)) (z := (⟨"com/example/pages_over_partitions/pagesoverpartitions/SortOrder", "reversed", "()Lcom/example/pages_over_partitions/pagesoverpartitions/SortOrder;"⟩ : MethodName)) hown (mvT hZ (hw _ (List.mem_of_getElem? (i := 3) rfl))) (mvT hZ (hw _ (List.mem_of_getElem? (i := 4) rfl))) (notFace_of_selects (args := #[]) (mvT hZ (hw _ (List.mem_of_getElem? (i := 6) rfl)))) (mvT hZ (hw _ (List.mem_of_getElem? (i := 6) rfl))) (mvT hZ (hw _ (List.mem_of_getElem? (i := 5) rfl))) (by decide) (backOf (W := 0) (rm_rev l Z a0 hw [] aC aC aR h0 n0 Z0 S_aC S_aR) hZ (hw _ (List.mem_of_getElem? (i := 7) rfl)) (hw _ (List.mem_of_getElem? (i := 1) rfl)) (by decide) (by decide)) q3a q3c (g := (mkF m 17 #[iv p1, rv aC, .unset, .unset, .unset, .unset] [(.ref aC)])) rfl (by rw [hml]; rfl) (Steps.refl _) (argsL := []) (rest := []) (lenOf pd_0 rfl) rfl (by show 2 * 0 + _ ≤ _; exact Nat.le_of_eq rfl) (hb hby at_17) (fun _ _ => ⟨rfl, e2, (by decide : 0 + 0 ≤ _), (by decide : 0 + 0 ≤ _)⟩)
    dsimp only [Pt.U, Pt.locs, Pt.cells, Pt.slots] at X3 l3 y3 z3 st3 hQ3
    subst l3 y3 z3
    refine Go.pre (own_cut st3) ?_
    rcases hQ3 with ⟨hp3, rfl, N3q, eh3⟩ | ⟨hp3, rfl, N3q, eh3⟩
    · skip
      have N3 := Fr.app N0 N3q
      show Go p e below _ (T3.setTop (mkF m 20 #[iv p1, rv aC, .unset, .unset, .unset, .unset] [(.ref aR)]))
      refine Go.pre (fun _ k => XS.astoreN X3.here hx rfl (hb hby at_20) rfl rfl (l' := #[iv p1, rv aC, rv aR, .unset, .unset, .unset]) rfl k) ?_
      show Go p e below _ (T3.setTop (mkF m 21 #[iv p1, rv aC, rv aR, .unset, .unset, .unset] []))
      refine Go.pre (fun _ k => XS.aloadN X3.here hx rfl (hb hby at_21) rfl rfl k) ?_
      show Go p e below _ (T3.setTop (mkF m 22 #[iv p1, rv aC, rv aR, .unset, .unset, .unset] [(.ref aR)]))
      obtain ⟨T4, X4, e4, st4⟩ := getS2 X3 hx hZ hown (host := "") (Or.inl (hw _ (List.mem_of_getElem? (i := 0) rfl))) Via.refl eh3 S_aC (g := (mkF m 22 #[iv p1, rv aC, rv aR, .unset, .unset, .unset] [(.ref aR)])) rfl (hb hby at_22)
      refine Go.pre st4 ?_
      show Go p e below _ (T4.setTop (mkF m 25 #[iv p1, rv aC, rv aR, .unset, .unset, .unset] [(.ref aC), (.ref aR)]))
      refine Go.pre (fun _ k => Jvm.RoadKit.acmp (g := (mkF m 25 #[iv p1, rv aC, rv aR, .unset, .unset, .unset] [(.ref aC), (.ref aR)])) X4 hx rfl rfl rfl (pc0 := 25) (pc' := 28) (same := false) rfl (hb hby at_25) rfl (decide_eq_false fun q => hne (Value.ref.inj q).symm) (by decide) (by decide) k) ?_
      show Go p e below _ (T4.setTop (mkF m 28 #[iv p1, rv aC, rv aR, .unset, .unset, .unset] []))
      refine Go.pre (fun _ k => XS.aloadN X4.here hx rfl (hb hby at_28) rfl rfl k) ?_
      show Go p e below _ (T4.setTop (mkF m 29 #[iv p1, rv aC, rv aR, .unset, .unset, .unset] [(.ref aR)]))
      obtain ⟨T5, X5, e5, st5⟩ := getS2 X4 hx hZ hown (host := "") (Or.inl (hw _ (List.mem_of_getElem? (i := 11) rfl))) Via.refl e4 S_aR (g := (mkF m 29 #[iv p1, rv aC, rv aR, .unset, .unset, .unset] [(.ref aR)])) rfl (hb hby at_29)
      refine Go.pre st5 ?_
      show Go p e below _ (T5.setTop (mkF m 32 #[iv p1, rv aC, rv aR, .unset, .unset, .unset] [(.ref aR), (.ref aR)]))
      refine Go.pre (fun _ k => Jvm.RoadKit.acmp (g := (mkF m 32 #[iv p1, rv aC, rv aR, .unset, .unset, .unset] [(.ref aR), (.ref aR)])) X5 hx rfl rfl rfl (pc0 := 32) (pc' := 35) (same := true) rfl (hb hby at_32) rfl (decide_eq_true rfl) (by decide) (by decide) k) ?_
      show Go p e below _ (T5.setTop (mkF m 35 #[iv p1, rv aC, rv aR, .unset, .unset, .unset] []))
      refine Go.pre (fun _ k => XS.iconst X5.here hx rfl (hb hby at_35) k) ?_
      show Go p e below _ (T5.setTop (mkF m 36 #[iv p1, rv aC, rv aR, .unset, .unset, .unset] [(.int (1 : Int32))]))
      refine Go.pre (fun _ k => XS.goto X5.here hx rfl (pc0 := 36) (pc' := 40) rfl (hb hby at_36) (by decide) (by decide) k) ?_
      show Go p e below _ (T5.setTop (mkF m 40 #[iv p1, rv aC, rv aR, .unset, .unset, .unset] [(.int (1 : Int32))]))
      refine Go.pre (fun _ k => XS.istoreN X5.here hx rfl (hb hby at_40) rfl (l' := #[iv p1, rv aC, rv aR, iv (1 : Int32), .unset, .unset]) rfl k) ?_
      show Go p e below _ (T5.setTop (mkF m 41 #[iv p1, rv aC, rv aR, iv (1 : Int32), .unset, .unset] []))
      refine Go.pre (fun _ k => XS.iloadN X5.here hx rfl (hb hby at_41) rfl k) ?_
      show Go p e below _ (T5.setTop (mkF m 42 #[iv p1, rv aC, rv aR, iv (1 : Int32), .unset, .unset] [(.int (1 : Int32))]))
      refine Go.pre (fun _ k => XS.ifYes X5.here hx rfl (pc0 := 42) (pc' := 47) rfl (hb hby at_42) rfl ((if0 _ _).trans (feq (by decide : ¬ ((1 : Int32) = (0 : Int32)))).2) (by decide) (by decide) k) ?_
      show Go p e below _ (T5.setTop (mkF m 47 #[iv p1, rv aC, rv aR, iv (1 : Int32), .unset, .unset] []))
      refine Go.pre (fun _ k => XS.aloadN X5.here hx rfl (hb hby at_47) rfl rfl k) ?_
      show Go p e below _ (T5.setTop (mkF m 48 #[iv p1, rv aC, rv aR, iv (1 : Int32), .unset, .unset] [(.ref aR)]))
      refine Go.pre (fun _ k => XS.aloadN X5.here hx rfl (hb hby at_48) rfl rfl k) ?_
      show Go p e below _ (T5.setTop (mkF m 49 #[iv p1, rv aC, rv aR, iv (1 : Int32), .unset, .unset] [(.ref aC), (.ref aR)]))
      refine Go.pre (fun _ k => Jvm.RoadKit.acmp (g := (mkF m 49 #[iv p1, rv aC, rv aR, iv (1 : Int32), .unset, .unset] [(.ref aC), (.ref aR)])) X5 hx rfl rfl rfl (pc0 := 49) (pc' := 52) (same := false) rfl (hb hby at_49) rfl (decide_eq_false fun q => hne (Value.ref.inj q).symm) (by decide) (by decide) k) ?_
      show Go p e below _ (T5.setTop (mkF m 52 #[iv p1, rv aC, rv aR, iv (1 : Int32), .unset, .unset] []))
      refine Go.pre (fun _ k => XS.iconst X5.here hx rfl (hb hby at_52) k) ?_
      show Go p e below _ (T5.setTop (mkF m 53 #[iv p1, rv aC, rv aR, iv (1 : Int32), .unset, .unset] [(.int (1 : Int32))]))
      refine Go.pre (fun _ k => XS.goto X5.here hx rfl (pc0 := 53) (pc' := 57) rfl (hb hby at_53) (by decide) (by decide) k) ?_
      show Go p e below _ (T5.setTop (mkF m 57 #[iv p1, rv aC, rv aR, iv (1 : Int32), .unset, .unset] [(.int (1 : Int32))]))
      refine Go.pre (fun _ k => XS.istore X5.here hx rfl (hb hby at_57) rfl (l' := #[iv p1, rv aC, rv aR, iv (1 : Int32), iv (1 : Int32), .unset]) rfl k) ?_
      show Go p e below _ (T5.setTop (mkF m 59 #[iv p1, rv aC, rv aR, iv (1 : Int32), iv (1 : Int32), .unset] []))
      refine Go.pre (fun _ k => XS.aloadN X5.here hx rfl (hb hby at_59) rfl rfl k) ?_
      show Go p e below _ (T5.setTop (mkF m 60 #[iv p1, rv aC, rv aR, iv (1 : Int32), iv (1 : Int32), .unset] [(.ref aR)]))
      obtain ⟨cq6, kq6, q6a, q6b, q6c⟩ := isOf hZ e5 E_aR
      obtain ⟨_, _, ⟨T6, L6, k6, n6⟩, -, X6, ⟨Lc6, hQ6, l6, y6, z6⟩, st6⟩ := X5.virtualBack hx (y := (⟨"com/example/pages_over_partitions/pagesoverpartitions/SortOrder", "reversed", "()Lcom/example/pages_over_partitions/pagesoverpartitions/SortOrder;"⟩ : MethodName)) (z := (⟨"com/example/pages_over_partitions/pagesoverpartitions/SortOrder", "reversed", "()Lcom/example/pages_over_partitions/pagesoverpartitions/SortOrder;"⟩ : MethodName)) hown (mvT hZ (hw _ (List.mem_of_getElem? (i := 3) rfl))) (mvT hZ (hw _ (List.mem_of_getElem? (i := 4) rfl))) (notFace_of_selects (args := #[]) (mvT hZ (hw _ (List.mem_of_getElem? (i := 6) rfl)))) (mvT hZ (hw _ (List.mem_of_getElem? (i := 6) rfl))) (mvT hZ (hw _ (List.mem_of_getElem? (i := 5) rfl))) (by decide) (backOf (W := 0) (rm_rev l Z a0 hw [] aR aC aR h0 n0 Z0 S_aC S_aR) hZ (hw _ (List.mem_of_getElem? (i := 7) rfl)) (hw _ (List.mem_of_getElem? (i := 1) rfl)) (by decide) (by decide)) q6a q6c (g := (mkF m 60 #[iv p1, rv aC, rv aR, iv (1 : Int32), iv (1 : Int32), .unset] [(.ref aR)])) rfl (by rw [hml]; rfl) (Steps.refl _) (argsL := []) (rest := []) (lenOf pd_0 rfl) rfl (by show 2 * 0 + _ ≤ _; exact Nat.le_of_eq rfl) (hb hby at_60) (fun _ _ => ⟨rfl, e5, (by decide : 0 + 0 ≤ _), (by decide : 0 + 0 ≤ _)⟩)
      dsimp only [Pt.U, Pt.locs, Pt.cells, Pt.slots] at X6 l6 y6 z6 st6 hQ6
      subst l6 y6 z6
      refine Go.pre (own_cut st6) ?_
      rcases hQ6 with ⟨hp6, rfl, N6q, eh6⟩ | ⟨hp6, rfl, N6q, eh6⟩
      · skip
        have N6 := Fr.app N3 N6q
        exact absurd hp6.symm hne
      · skip
        have N6 := Fr.app N3 N6q
        show Go p e below _ (T6.setTop (mkF m 63 #[iv p1, rv aC, rv aR, iv (1 : Int32), iv (1 : Int32), .unset] [(.ref aC)]))
        refine Go.pre (fun _ k => XS.aloadN X6.here hx rfl (hb hby at_63) rfl rfl k) ?_
        show Go p e below _ (T6.setTop (mkF m 64 #[iv p1, rv aC, rv aR, iv (1 : Int32), iv (1 : Int32), .unset] [(.ref aC), (.ref aC)]))
        refine Go.pre (fun _ k => Jvm.RoadKit.acmp (g := (mkF m 64 #[iv p1, rv aC, rv aR, iv (1 : Int32), iv (1 : Int32), .unset] [(.ref aC), (.ref aC)])) X6 hx rfl rfl rfl (pc0 := 64) (pc' := 67) (same := true) rfl (hb hby at_64) rfl (decide_eq_true rfl) (by decide) (by decide) k) ?_
        show Go p e below _ (T6.setTop (mkF m 67 #[iv p1, rv aC, rv aR, iv (1 : Int32), iv (1 : Int32), .unset] []))
        refine Go.pre (fun _ k => XS.iconst X6.here hx rfl (hb hby at_67) k) ?_
        show Go p e below _ (T6.setTop (mkF m 68 #[iv p1, rv aC, rv aR, iv (1 : Int32), iv (1 : Int32), .unset] [(.int (1 : Int32))]))
        refine Go.pre (fun _ k => XS.goto X6.here hx rfl (pc0 := 68) (pc' := 72) rfl (hb hby at_68) (by decide) (by decide) k) ?_
        show Go p e below _ (T6.setTop (mkF m 72 #[iv p1, rv aC, rv aR, iv (1 : Int32), iv (1 : Int32), .unset] [(.int (1 : Int32))]))
        refine Go.pre (fun _ k => XS.istore X6.here hx rfl (hb hby at_72) rfl (l' := #[iv p1, rv aC, rv aR, iv (1 : Int32), iv (1 : Int32), iv (1 : Int32)]) rfl k) ?_
        show Go p e below _ (T6.setTop (mkF m 74 #[iv p1, rv aC, rv aR, iv (1 : Int32), iv (1 : Int32), iv (1 : Int32)] []))
        refine Go.pre (fun _ k => XS.iload X6.here hx rfl (hb hby at_74) rfl k) ?_
        show Go p e below _ (T6.setTop (mkF m 76 #[iv p1, rv aC, rv aR, iv (1 : Int32), iv (1 : Int32), iv (1 : Int32)] [(.int (1 : Int32))]))
        refine Go.pre (fun _ k => XS.ifNo X6.here hx rfl (hb hby at_76) rfl ((if0 _ _).trans (feq (by decide : ¬ ((1 : Int32) = (0 : Int32)))).1) k) ?_
        show Go p e below _ (T6.setTop (mkF m 79 #[iv p1, rv aC, rv aR, iv (1 : Int32), iv (1 : Int32), iv (1 : Int32)] []))
        refine Go.pre (fun _ k => XS.iload X6.here hx rfl (hb hby at_79) rfl k) ?_
        show Go p e below _ (T6.setTop (mkF m 81 #[iv p1, rv aC, rv aR, iv (1 : Int32), iv (1 : Int32), iv (1 : Int32)] [(.int (1 : Int32))]))
        refine Go.pre (fun _ k => XS.ifNo X6.here hx rfl (hb hby at_81) rfl ((if0 _ _).trans (feq (by decide : ¬ ((1 : Int32) = (0 : Int32)))).1) k) ?_
        show Go p e below _ (T6.setTop (mkF m 84 #[iv p1, rv aC, rv aR, iv (1 : Int32), iv (1 : Int32), iv (1 : Int32)] []))
        refine Go.pre (fun _ k => XS.iconst X6.here hx rfl (hb hby at_84) k) ?_
        show Go p e below _ (T6.setTop (mkF m 85 #[iv p1, rv aC, rv aR, iv (1 : Int32), iv (1 : Int32), iv (1 : Int32)] [(.int (1 : Int32))]))
        refine Go.pre (fun _ k => XS.goto X6.here hx rfl (pc0 := 85) (pc' := 89) rfl (hb hby at_85) (by decide) (by decide) k) ?_
        show Go p e below _ (T6.setTop (mkF m 89 #[iv p1, rv aC, rv aR, iv (1 : Int32), iv (1 : Int32), iv (1 : Int32)] [(.int (1 : Int32))]))
        obtain ⟨fs, hr, hrun, hended, hW, hsame⟩ := X6.leave (v := some (.int (1 : Int32))) (fun h => by rw [Bd.returns] at h; cases h)
        refine Go.fin (retN X6 hx (t := .boolean) Bd.returns (by simp) (hb hby at_89) hr) ⟨hrun, hended, _, _, rfl, ?_, ⟨_, rfl⟩, hW, hsame.mono (by decide) (by decide)⟩
        exact ⟨rfl, N6⟩
    · skip
      have N3 := Fr.app N0 N3q
      exact absurd rfl hp3
  · skip
    refine Go.pre (fun _ k => XS.ifNo X0.here hx rfl (hb hby at_3) rfl ((if0 _ _).trans (feq hc3_1).1) k) ?_
    show Go p e below _ (s₁.setTop (mkF m 6 #[iv p1, .unset, .unset, .unset, .unset, .unset] []))
    obtain ⟨T7, X7, e7, st7⟩ := getS2 X0 hx hZ hown (host := "") (Or.inl (hw _ (List.mem_of_getElem? (i := 11) rfl))) Via.refl e0 S_aR (g := (mkF m 6 #[iv p1, .unset, .unset, .unset, .unset, .unset] [])) rfl (hb hby at_6)
    refine Go.pre st7 ?_
    show Go p e below _ (T7.setTop (mkF m 9 #[iv p1, .unset, .unset, .unset, .unset, .unset] [(.ref aR)]))
    refine Go.pre (fun _ k => XS.goto X7.here hx rfl (pc0 := 9) (pc' := 15) rfl (hb hby at_9) (by decide) (by decide) k) ?_
    show Go p e below _ (T7.setTop (mkF m 15 #[iv p1, .unset, .unset, .unset, .unset, .unset] [(.ref aR)]))
    refine Go.pre (fun _ k => XS.astoreN X7.here hx rfl (hb hby at_15) rfl rfl (l' := #[iv p1, rv aR, .unset, .unset, .unset, .unset]) rfl k) ?_
    show Go p e below _ (T7.setTop (mkF m 16 #[iv p1, rv aR, .unset, .unset, .unset, .unset] []))
    refine Go.pre (fun _ k => XS.aloadN X7.here hx rfl (hb hby at_16) rfl rfl k) ?_
    show Go p e below _ (T7.setTop (mkF m 17 #[iv p1, rv aR, .unset, .unset, .unset, .unset] [(.ref aR)]))
    obtain ⟨cq8, kq8, q8a, q8b, q8c⟩ := isOf hZ e7 E_aR
    obtain ⟨_, _, ⟨T8, L8, k8, n8⟩, -, X8, ⟨Lc8, hQ8, l8, y8, z8⟩, st8⟩ := X7.virtualBack hx (y := (⟨"com/example/pages_over_partitions/pagesoverpartitions/SortOrder", "reversed", "()Lcom/example/pages_over_partitions/pagesoverpartitions/SortOrder;"⟩ : MethodName)) (z := (⟨"com/example/pages_over_partitions/pagesoverpartitions/SortOrder", "reversed", "()Lcom/example/pages_over_partitions/pagesoverpartitions/SortOrder;"⟩ : MethodName)) hown (mvT hZ (hw _ (List.mem_of_getElem? (i := 3) rfl))) (mvT hZ (hw _ (List.mem_of_getElem? (i := 4) rfl))) (notFace_of_selects (args := #[]) (mvT hZ (hw _ (List.mem_of_getElem? (i := 6) rfl)))) (mvT hZ (hw _ (List.mem_of_getElem? (i := 6) rfl))) (mvT hZ (hw _ (List.mem_of_getElem? (i := 5) rfl))) (by decide) (backOf (W := 0) (rm_rev l Z a0 hw [] aR aC aR h0 n0 Z0 S_aC S_aR) hZ (hw _ (List.mem_of_getElem? (i := 7) rfl)) (hw _ (List.mem_of_getElem? (i := 1) rfl)) (by decide) (by decide)) q8a q8c (g := (mkF m 17 #[iv p1, rv aR, .unset, .unset, .unset, .unset] [(.ref aR)])) rfl (by rw [hml]; rfl) (Steps.refl _) (argsL := []) (rest := []) (lenOf pd_0 rfl) rfl (by show 2 * 0 + _ ≤ _; exact Nat.le_of_eq rfl) (hb hby at_17) (fun _ _ => ⟨rfl, e7, (by decide : 0 + 0 ≤ _), (by decide : 0 + 0 ≤ _)⟩)
    dsimp only [Pt.U, Pt.locs, Pt.cells, Pt.slots] at X8 l8 y8 z8 st8 hQ8
    subst l8 y8 z8
    refine Go.pre (own_cut st8) ?_
    rcases hQ8 with ⟨hp8, rfl, N8q, eh8⟩ | ⟨hp8, rfl, N8q, eh8⟩
    · skip
      have N8 := Fr.app N0 N8q
      exact absurd hp8.symm hne
    · skip
      have N8 := Fr.app N0 N8q
      show Go p e below _ (T8.setTop (mkF m 20 #[iv p1, rv aR, .unset, .unset, .unset, .unset] [(.ref aC)]))
      refine Go.pre (fun _ k => XS.astoreN X8.here hx rfl (hb hby at_20) rfl rfl (l' := #[iv p1, rv aR, rv aC, .unset, .unset, .unset]) rfl k) ?_
      show Go p e below _ (T8.setTop (mkF m 21 #[iv p1, rv aR, rv aC, .unset, .unset, .unset] []))
      refine Go.pre (fun _ k => XS.aloadN X8.here hx rfl (hb hby at_21) rfl rfl k) ?_
      show Go p e below _ (T8.setTop (mkF m 22 #[iv p1, rv aR, rv aC, .unset, .unset, .unset] [(.ref aC)]))
      obtain ⟨T9, X9, e9, st9⟩ := getS2 X8 hx hZ hown (host := "") (Or.inl (hw _ (List.mem_of_getElem? (i := 0) rfl))) Via.refl eh8 S_aC (g := (mkF m 22 #[iv p1, rv aR, rv aC, .unset, .unset, .unset] [(.ref aC)])) rfl (hb hby at_22)
      refine Go.pre st9 ?_
      show Go p e below _ (T9.setTop (mkF m 25 #[iv p1, rv aR, rv aC, .unset, .unset, .unset] [(.ref aC), (.ref aC)]))
      refine Go.pre (fun _ k => Jvm.RoadKit.acmp (g := (mkF m 25 #[iv p1, rv aR, rv aC, .unset, .unset, .unset] [(.ref aC), (.ref aC)])) X9 hx rfl rfl rfl (pc0 := 25) (pc' := 35) (same := true) rfl (hb hby at_25) rfl (decide_eq_true rfl) (by decide) (by decide) k) ?_
      show Go p e below _ (T9.setTop (mkF m 35 #[iv p1, rv aR, rv aC, .unset, .unset, .unset] []))
      refine Go.pre (fun _ k => XS.iconst X9.here hx rfl (hb hby at_35) k) ?_
      show Go p e below _ (T9.setTop (mkF m 36 #[iv p1, rv aR, rv aC, .unset, .unset, .unset] [(.int (1 : Int32))]))
      refine Go.pre (fun _ k => XS.goto X9.here hx rfl (pc0 := 36) (pc' := 40) rfl (hb hby at_36) (by decide) (by decide) k) ?_
      show Go p e below _ (T9.setTop (mkF m 40 #[iv p1, rv aR, rv aC, .unset, .unset, .unset] [(.int (1 : Int32))]))
      refine Go.pre (fun _ k => XS.istoreN X9.here hx rfl (hb hby at_40) rfl (l' := #[iv p1, rv aR, rv aC, iv (1 : Int32), .unset, .unset]) rfl k) ?_
      show Go p e below _ (T9.setTop (mkF m 41 #[iv p1, rv aR, rv aC, iv (1 : Int32), .unset, .unset] []))
      refine Go.pre (fun _ k => XS.iloadN X9.here hx rfl (hb hby at_41) rfl k) ?_
      show Go p e below _ (T9.setTop (mkF m 42 #[iv p1, rv aR, rv aC, iv (1 : Int32), .unset, .unset] [(.int (1 : Int32))]))
      refine Go.pre (fun _ k => XS.ifYes X9.here hx rfl (pc0 := 42) (pc' := 47) rfl (hb hby at_42) rfl ((if0 _ _).trans (feq (by decide : ¬ ((1 : Int32) = (0 : Int32)))).2) (by decide) (by decide) k) ?_
      show Go p e below _ (T9.setTop (mkF m 47 #[iv p1, rv aR, rv aC, iv (1 : Int32), .unset, .unset] []))
      refine Go.pre (fun _ k => XS.aloadN X9.here hx rfl (hb hby at_47) rfl rfl k) ?_
      show Go p e below _ (T9.setTop (mkF m 48 #[iv p1, rv aR, rv aC, iv (1 : Int32), .unset, .unset] [(.ref aC)]))
      refine Go.pre (fun _ k => XS.aloadN X9.here hx rfl (hb hby at_48) rfl rfl k) ?_
      show Go p e below _ (T9.setTop (mkF m 49 #[iv p1, rv aR, rv aC, iv (1 : Int32), .unset, .unset] [(.ref aR), (.ref aC)]))
      refine Go.pre (fun _ k => Jvm.RoadKit.acmp (g := (mkF m 49 #[iv p1, rv aR, rv aC, iv (1 : Int32), .unset, .unset] [(.ref aR), (.ref aC)])) X9 hx rfl rfl rfl (pc0 := 49) (pc' := 52) (same := false) rfl (hb hby at_49) rfl (decide_eq_false fun q => hne (Value.ref.inj q)) (by decide) (by decide) k) ?_
      show Go p e below _ (T9.setTop (mkF m 52 #[iv p1, rv aR, rv aC, iv (1 : Int32), .unset, .unset] []))
      refine Go.pre (fun _ k => XS.iconst X9.here hx rfl (hb hby at_52) k) ?_
      show Go p e below _ (T9.setTop (mkF m 53 #[iv p1, rv aR, rv aC, iv (1 : Int32), .unset, .unset] [(.int (1 : Int32))]))
      refine Go.pre (fun _ k => XS.goto X9.here hx rfl (pc0 := 53) (pc' := 57) rfl (hb hby at_53) (by decide) (by decide) k) ?_
      show Go p e below _ (T9.setTop (mkF m 57 #[iv p1, rv aR, rv aC, iv (1 : Int32), .unset, .unset] [(.int (1 : Int32))]))
      refine Go.pre (fun _ k => XS.istore X9.here hx rfl (hb hby at_57) rfl (l' := #[iv p1, rv aR, rv aC, iv (1 : Int32), iv (1 : Int32), .unset]) rfl k) ?_
      show Go p e below _ (T9.setTop (mkF m 59 #[iv p1, rv aR, rv aC, iv (1 : Int32), iv (1 : Int32), .unset] []))
      refine Go.pre (fun _ k => XS.aloadN X9.here hx rfl (hb hby at_59) rfl rfl k) ?_
      show Go p e below _ (T9.setTop (mkF m 60 #[iv p1, rv aR, rv aC, iv (1 : Int32), iv (1 : Int32), .unset] [(.ref aC)]))
      obtain ⟨cq10, kq10, q10a, q10b, q10c⟩ := isOf hZ e9 E_aC
      obtain ⟨_, _, ⟨T10, L10, k10, n10⟩, -, X10, ⟨Lc10, hQ10, l10, y10, z10⟩, st10⟩ := X9.virtualBack hx (y := (⟨"com/example/pages_over_partitions/pagesoverpartitions/SortOrder", "reversed", "()Lcom/example/pages_over_partitions/pagesoverpartitions/SortOrder;"⟩ : MethodName)) (z := (⟨"com/example/pages_over_partitions/pagesoverpartitions/SortOrder", "reversed", "()Lcom/example/pages_over_partitions/pagesoverpartitions/SortOrder;"⟩ : MethodName)) hown (mvT hZ (hw _ (List.mem_of_getElem? (i := 3) rfl))) (mvT hZ (hw _ (List.mem_of_getElem? (i := 4) rfl))) (notFace_of_selects (args := #[]) (mvT hZ (hw _ (List.mem_of_getElem? (i := 6) rfl)))) (mvT hZ (hw _ (List.mem_of_getElem? (i := 6) rfl))) (mvT hZ (hw _ (List.mem_of_getElem? (i := 5) rfl))) (by decide) (backOf (W := 0) (rm_rev l Z a0 hw [] aC aC aR h0 n0 Z0 S_aC S_aR) hZ (hw _ (List.mem_of_getElem? (i := 7) rfl)) (hw _ (List.mem_of_getElem? (i := 1) rfl)) (by decide) (by decide)) q10a q10c (g := (mkF m 60 #[iv p1, rv aR, rv aC, iv (1 : Int32), iv (1 : Int32), .unset] [(.ref aC)])) rfl (by rw [hml]; rfl) (Steps.refl _) (argsL := []) (rest := []) (lenOf pd_0 rfl) rfl (by show 2 * 0 + _ ≤ _; exact Nat.le_of_eq rfl) (hb hby at_60) (fun _ _ => ⟨rfl, e9, (by decide : 0 + 0 ≤ _), (by decide : 0 + 0 ≤ _)⟩)
      dsimp only [Pt.U, Pt.locs, Pt.cells, Pt.slots] at X10 l10 y10 z10 st10 hQ10
      subst l10 y10 z10
      refine Go.pre (own_cut st10) ?_
      rcases hQ10 with ⟨hp10, rfl, N10q, eh10⟩ | ⟨hp10, rfl, N10q, eh10⟩
      · skip
        have N10 := Fr.app N8 N10q
        show Go p e below _ (T10.setTop (mkF m 63 #[iv p1, rv aR, rv aC, iv (1 : Int32), iv (1 : Int32), .unset] [(.ref aR)]))
        refine Go.pre (fun _ k => XS.aloadN X10.here hx rfl (hb hby at_63) rfl rfl k) ?_
        show Go p e below _ (T10.setTop (mkF m 64 #[iv p1, rv aR, rv aC, iv (1 : Int32), iv (1 : Int32), .unset] [(.ref aR), (.ref aR)]))
        refine Go.pre (fun _ k => Jvm.RoadKit.acmp (g := (mkF m 64 #[iv p1, rv aR, rv aC, iv (1 : Int32), iv (1 : Int32), .unset] [(.ref aR), (.ref aR)])) X10 hx rfl rfl rfl (pc0 := 64) (pc' := 67) (same := true) rfl (hb hby at_64) rfl (decide_eq_true rfl) (by decide) (by decide) k) ?_
        show Go p e below _ (T10.setTop (mkF m 67 #[iv p1, rv aR, rv aC, iv (1 : Int32), iv (1 : Int32), .unset] []))
        refine Go.pre (fun _ k => XS.iconst X10.here hx rfl (hb hby at_67) k) ?_
        show Go p e below _ (T10.setTop (mkF m 68 #[iv p1, rv aR, rv aC, iv (1 : Int32), iv (1 : Int32), .unset] [(.int (1 : Int32))]))
        refine Go.pre (fun _ k => XS.goto X10.here hx rfl (pc0 := 68) (pc' := 72) rfl (hb hby at_68) (by decide) (by decide) k) ?_
        show Go p e below _ (T10.setTop (mkF m 72 #[iv p1, rv aR, rv aC, iv (1 : Int32), iv (1 : Int32), .unset] [(.int (1 : Int32))]))
        refine Go.pre (fun _ k => XS.istore X10.here hx rfl (hb hby at_72) rfl (l' := #[iv p1, rv aR, rv aC, iv (1 : Int32), iv (1 : Int32), iv (1 : Int32)]) rfl k) ?_
        show Go p e below _ (T10.setTop (mkF m 74 #[iv p1, rv aR, rv aC, iv (1 : Int32), iv (1 : Int32), iv (1 : Int32)] []))
        refine Go.pre (fun _ k => XS.iload X10.here hx rfl (hb hby at_74) rfl k) ?_
        show Go p e below _ (T10.setTop (mkF m 76 #[iv p1, rv aR, rv aC, iv (1 : Int32), iv (1 : Int32), iv (1 : Int32)] [(.int (1 : Int32))]))
        refine Go.pre (fun _ k => XS.ifNo X10.here hx rfl (hb hby at_76) rfl ((if0 _ _).trans (feq (by decide : ¬ ((1 : Int32) = (0 : Int32)))).1) k) ?_
        show Go p e below _ (T10.setTop (mkF m 79 #[iv p1, rv aR, rv aC, iv (1 : Int32), iv (1 : Int32), iv (1 : Int32)] []))
        refine Go.pre (fun _ k => XS.iload X10.here hx rfl (hb hby at_79) rfl k) ?_
        show Go p e below _ (T10.setTop (mkF m 81 #[iv p1, rv aR, rv aC, iv (1 : Int32), iv (1 : Int32), iv (1 : Int32)] [(.int (1 : Int32))]))
        refine Go.pre (fun _ k => XS.ifNo X10.here hx rfl (hb hby at_81) rfl ((if0 _ _).trans (feq (by decide : ¬ ((1 : Int32) = (0 : Int32)))).1) k) ?_
        show Go p e below _ (T10.setTop (mkF m 84 #[iv p1, rv aR, rv aC, iv (1 : Int32), iv (1 : Int32), iv (1 : Int32)] []))
        refine Go.pre (fun _ k => XS.iconst X10.here hx rfl (hb hby at_84) k) ?_
        show Go p e below _ (T10.setTop (mkF m 85 #[iv p1, rv aR, rv aC, iv (1 : Int32), iv (1 : Int32), iv (1 : Int32)] [(.int (1 : Int32))]))
        refine Go.pre (fun _ k => XS.goto X10.here hx rfl (pc0 := 85) (pc' := 89) rfl (hb hby at_85) (by decide) (by decide) k) ?_
        show Go p e below _ (T10.setTop (mkF m 89 #[iv p1, rv aR, rv aC, iv (1 : Int32), iv (1 : Int32), iv (1 : Int32)] [(.int (1 : Int32))]))
        obtain ⟨fs, hr, hrun, hended, hW, hsame⟩ := X10.leave (v := some (.int (1 : Int32))) (fun h => by rw [Bd.returns] at h; cases h)
        refine Go.fin (retN X10 hx (t := .boolean) Bd.returns (by simp) (hb hby at_89) hr) ⟨hrun, hended, _, _, rfl, ?_, ⟨_, rfl⟩, hW, hsame.mono (by decide) (by decide)⟩
        exact ⟨rfl, N10⟩
      · skip
        have N10 := Fr.app N8 N10q
        exact absurd rfl hp10

set_option maxRecDepth 65536 in
set_option maxHeartbeats 40000000 in
theorem comes_1 {Post : Tables → Env → Array Value → State → Outcome → State → Prop} (hpost : ∀ tb e args s v u, (limb_1_1.after args s (.returned v) u = true ∧ limb_1_2.after args s (.returned v) u = true ∧ True) → FrameEnd s (.returned v) u (Jvm.fieldLocs frame_1_writes args s ++ Jvm.arrayLocs frame_1_arrays args s ++ Jvm.staticLocs frame_1_statics s) 0 0 → Post tb e args s (.returned v) u) :
    ArmFor flags0 classFile x code maxLocals ret World_1 tables_1 room_1 Calls_1 rest_1 Pre_1 Post := by
  intro l hfl _ _ p e ha hc hk s m args below hf hA hF happ hP
  obtain ⟨hcalls, hrest, hpre⟩ := hP
  obtain ⟨-, -, -, hnamed, -, -, -, hat⟩ := (Spec.applies_iff hf).mp happ
  obtain ⟨hg, hn⟩ := and_e (Cond.before_iff.mp (show (Jvm.Cond.and given_1 narrow_1).before args s = true from hpre))
  obtain ⟨g0, r0⟩ := and_e hg
  obtain ⟨w0, rfl⟩ : ∃ w0 : Value, args = #[w0] := by
    have hs : args.size = 1 := by simpa [Cond.value, given_1] using g0
    obtain ⟨L⟩ := args
    match L, hs with
    | [w0], _ => exact ⟨w0, rfl⟩
  have hw := fun d (hd : d ∈ tables_1) => atoms_spec (ws := Jvm.Cond.code x code maxLocals ret :: tables_1) hat d (List.mem_cons_of_mem _ hd)
  obtain ⟨i0, ei0⟩ := is_v r0
  obtain rfl : w0 = (.int i0) := Option.some.inj ei0
  obtain ⟨c1, c2⟩ := and_e hn
  obtain ⟨c3, c4⟩ := and_e c2
  obtain ⟨c5, c6⟩ := and_e c4
  obtain ⟨a_CLUSTERING, ev_CLUSTERING⟩ := exa_v c1
  have E_CLUSTERING := Exa.start ev_CLUSTERING c1
  have S_CLUSTERING := Sta.start ev_CLUSTERING (Or.inr ⟨(hw _ (List.mem_of_getElem? (i := 1) rfl)), (hw _ (List.mem_of_getElem? (i := 2) rfl))⟩)
  obtain ⟨a_REVERSE, ev_REVERSE⟩ := exa_v c3
  have E_REVERSE := Exa.start ev_REVERSE c3
  have S_REVERSE := Sta.start ev_REVERSE (Or.inr ⟨(hw _ (List.mem_of_getElem? (i := 1) rfl)), (hw _ (List.mem_of_getElem? (i := 10) rfl))⟩)
  have F_REVERSE_ordinal := own_fldI ev_REVERSE c5
  have F_CLUSTERING_ordinal := own_fldI ev_CLUSTERING c6
  obtain ⟨n, o, h1, h2, h3, _, L, rfl, ⟨rfl, N⟩, hq⟩ := rm_law l s _ hw tables_1 i0 a_CLUSTERING a_REVERSE s.heap s.heap.size (Nat.le_refl _) S_CLUSTERING S_REVERSE E_CLUSTERING E_REVERSE (own_ne F_CLUSTERING_ordinal F_REVERSE_ordinal (by decide)) p e ha hc hk s m _ below hf ((Spec.applies_iff_loose hf).mp happ).1 ⟨rfl, State.Warmed39.refl s, rfl⟩ trivial
  refine ⟨n, _, h1, h2, h3, hpost _ _ _ _ _ _ ⟨Cond.after_iff.mpr rfl, Cond.after_iff.mpr (eq_i res_at (Term.int_eval (1)) rfl), trivial⟩ ⟨hq.1, hq.2.1, (hq.2.2.sift fun y hy => Or.inr (N y hy)).mono (by decide) (by decide)⟩⟩
theorem main_1_1 : Claimed_1_1 := comes_1 fun _ _ _ _ _ _ h hF => ⟨h.1, hF⟩
theorem main_1_2 : Claimed_1_2 := comes_1 fun _ _ _ _ _ _ h hF => ⟨h.2.1, hF⟩
end Jvm.Pilot.@@N@@
namespace Jvm.Pilot.@@N@@
open Jvm Jvm.ClassFile Sem Op Lib Jvm.Free Jvm.Stand Jvm.Pilot.@@N@@.Jvm.D
/-! MADE BY PROGRAM (witnessworld.py) out of the Statement's table words and the real class files: 12 classes; the members and pool entries that the words name. The judged class is class 1, her method 1. -/
namespace start1
open Jvm.ClassFile
def u (s : String) : CpInfo := .utf8 (stringToUtf16 s)
/-- a pool by its gaps: so many unusable entries, then the entry; so many at the end -/
def gap : Nat → List CpInfo → List CpInfo
  | 0, r => r
  | n + 1, r => .unusable :: gap n r
def poolList (es : List (Nat × CpInfo)) (last : Nat) : List CpInfo := es.foldr (fun e r => gap e.1 (e.2 :: r)) (gap last [])
def pool (es : List (Nat × CpInfo)) (last : Nat) : Array CpInfo := ⟨poolList es last⟩
def fileOf (pool : Array CpInfo) (this : Nat) (attrs : Array Attribute := #[]) (ms : Array MethodInfo := #[]) (fl : Nat := 33) (sup : Nat := 0) (ifs : Array Nat := #[]) (fds : Array FieldInfo := #[]) : ClassFile where
  minorVersion := 0
  majorVersion := 65
  constantPool := pool
  accessFlags := fl
  thisClass := this
  superClass := sup
  interfaces := ifs
  fields := fds
  methods := ms
  attributes := attrs
def plain (name : String) (sup : Option ClassId) : Class where
  name := name
  kind := .ordinary
  loader := none
  accessFlags := 33
  super := sup
  interfaces := #[]
  cf := none
  fields := #[]
  methods := #[]
  instanceTypes := #[]
  staticTypes := #[]
  resolved := #[]
  callSites := []
  init := .initialized
  statics := none
  mirror := none

def pool0 : Array CpInfo := pool [(5, u "<init>"), (0, u "()V"), (1, .class_ 10), (1, u "java/lang/Object")] 113

def k0m0 : Method := { name := "<init>", desc := "()V", sig := { parameters := [], returnType := none }, accessFlags := 1, code := none }
/-- java/lang/Object -/
def k0 : Class := { plain "java/lang/Object" none with
  accessFlags := 33
  interfaces := #[]
  cf := some (fileOf pool0 8 #[] #[{ accessFlags := 1, nameIndex := 5, descriptorIndex := 6, attributes := #[] }] 33 0 #[] #[])
  fields := #[]
  methods := #[k0m0]
  instanceTypes := #[]
  staticTypes := #[]
  resolved := Array.replicate 124 none
  statics := none }

def pool1 : Array CpInfo := pool [(2, .class_ 4), (1, u "java/lang/Object"), (0, u "<init>"), (0, u "()V"), (0, .fieldref 8 9), (0, .class_ 10), (0, .nameAndType 11 12), (0, u "com/example/pages_over_partitions/pagesoverpartitions/SortOrder"), (0, u "REVERSE"), (0, u "Lcom/example/pages_over_partitions/pagesoverpartitions/SortOrder;"), (0, .fieldref 8 14), (0, .nameAndType 15 12), (0, u "CLUSTERING"), (0, .methodref 8 17), (0, .nameAndType 18 19), (0, u "reversed"), (0, u "()Lcom/example/pages_over_partitions/pagesoverpartitions/SortOrder;"), (0, .class_ 21), (0, u "com/example/pages_over_partitions/pagesoverpartitions/SortOrderReversedPinLaw"), (2, u "law"), (0, u "(I)Z")] 3

def k1m0 : Method := { name := "<init>", desc := "()V", sig := { parameters := [], returnType := none }, accessFlags := 1, code := none }
def k1c1 : Code := { maxStack := 2, maxLocals := 6, code := code, exceptionTable := #[], attributes := #[] }
def k1m1 : Method := { name := "law", desc := "(I)Z", sig := { parameters := [.int], returnType := some .boolean }, accessFlags := 9, code := some k1c1 }
/-- com/example/pages_over_partitions/pagesoverpartitions/SortOrderReversedPinLaw -/
def k1 : Class := { plain "com/example/pages_over_partitions/pagesoverpartitions/SortOrderReversedPinLaw" (some 0) with
  accessFlags := 49
  interfaces := #[]
  cf := some (fileOf pool1 20 #[] #[{ accessFlags := 1, nameIndex := 5, descriptorIndex := 6, attributes := #[] }, { accessFlags := 9, nameIndex := 24, descriptorIndex := 25, attributes := #[] }] 49 2 #[] #[])
  fields := #[]
  methods := #[k1m0, k1m1]
  instanceTypes := #[]
  staticTypes := #[]
  resolved := Array.replicate 29 none
  statics := none }

def pool2 : Array CpInfo := pool [(1, .class_ 2), (0, u "java/lang/constant/Constable"), (0, .class_ 4), (0, u "java/lang/Object")] 6

/-- java/lang/constant/Constable -/
def k2 : Class := { plain "java/lang/constant/Constable" (some 0) with
  accessFlags := 1537
  interfaces := #[]
  cf := some (fileOf pool2 1 #[] #[] 1537 3 #[] #[])
  fields := #[]
  methods := #[]
  instanceTypes := #[]
  staticTypes := #[]
  resolved := Array.replicate 11 none
  statics := none }

def pool3 : Array CpInfo := pool [(1, .class_ 2), (0, u "java/lang/Comparable"), (0, .class_ 4), (0, u "java/lang/Object")] 7

/-- java/lang/Comparable -/
def k3 : Class := { plain "java/lang/Comparable" (some 0) with
  accessFlags := 1537
  interfaces := #[]
  cf := some (fileOf pool3 1 #[] #[] 1537 3 #[] #[])
  fields := #[]
  methods := #[]
  instanceTypes := #[]
  staticTypes := #[]
  resolved := Array.replicate 12 none
  statics := none }

def pool4 : Array CpInfo := pool [(1, .class_ 2), (0, u "java/io/Serializable"), (0, .class_ 4), (0, u "java/lang/Object")] 2

/-- java/io/Serializable -/
def k4 : Class := { plain "java/io/Serializable" (some 0) with
  accessFlags := 1537
  interfaces := #[]
  cf := some (fileOf pool4 1 #[] #[] 1537 3 #[] #[])
  fields := #[]
  methods := #[]
  instanceTypes := #[]
  staticTypes := #[]
  resolved := Array.replicate 7 none
  statics := none }

def pool5 : Array CpInfo := pool [(2, .class_ 4), (1, u "java/lang/Enum"), (0, u "name"), (0, u "Ljava/lang/String;"), (2, u "ordinal"), (0, u "I"), (1, .class_ 14), (1, u "java/lang/Object"), (4, u "hash"), (86, .class_ 108), (1, u "java/lang/Enum$EnumDesc"), (2, .class_ 112), (0, u "java/lang/constant/Constable"), (0, .class_ 114), (0, u "java/lang/Comparable"), (0, .class_ 116), (0, u "java/io/Serializable")] 87

/-- java/lang/Enum -/
def k5 : Class := { plain "java/lang/Enum" (some 0) with
  accessFlags := 1057
  interfaces := #[2, 3, 4]
  cf := some (fileOf pool5 2 #[.nestMembers #[106]] #[] 1057 12 #[111, 113, 115] #[{ accessFlags := 18, nameIndex := 5, descriptorIndex := 6, attributes := #[] }, { accessFlags := 18, nameIndex := 9, descriptorIndex := 10, attributes := #[] }, { accessFlags := 2, nameIndex := 19, descriptorIndex := 10, attributes := #[] }])
  fields := #[{ name := "name", type := (.object "java/lang/String"), accessFlags := 18, slot := 0, constantValue := 0 }, { name := "ordinal", type := .int, accessFlags := 18, slot := 1, constantValue := 0 }, { name := "hash", type := .int, accessFlags := 2, slot := 2, constantValue := 0 }]
  methods := #[]
  instanceTypes := #[(.object "java/lang/String"), .int, .int]
  staticTypes := #[]
  resolved := Array.replicate 204 none
  statics := none }

def pool6 : Array CpInfo := pool [(1, .class_ 2), (0, u "com/example/pages_over_partitions/pagesoverpartitions/SortOrder"), (0, .fieldref 1 4), (0, .nameAndType 5 6), (0, u "CLUSTERING"), (0, u "Lcom/example/pages_over_partitions/pagesoverpartitions/SortOrder;"), (0, .fieldref 1 8), (0, .nameAndType 9 6), (0, u "REVERSE"), (2, u "$VALUES"), (0, u "[Lcom/example/pages_over_partitions/pagesoverpartitions/SortOrder;"), (6, .class_ 22), (1, u "java/lang/Enum"), (65, u "reversed"), (48, u "()Lcom/example/pages_over_partitions/pagesoverpartitions/SortOrder;")] 47

def k6c0 : Code := { maxStack := 2, maxLocals := 2, code := prog_14_method_4_code, exceptionTable := #[], attributes := #[] }
def k6m0 : Method := { name := "reversed", desc := "()Lcom/example/pages_over_partitions/pagesoverpartitions/SortOrder;", sig := { parameters := [], returnType := some (.object "com/example/pages_over_partitions/pagesoverpartitions/SortOrder") }, accessFlags := 1, code := some k6c0 }
/-- com/example/pages_over_partitions/pagesoverpartitions/SortOrder -/
def k6 : Class := { plain "com/example/pages_over_partitions/pagesoverpartitions/SortOrder" (some 5) with
  accessFlags := 16433
  interfaces := #[]
  cf := some (fileOf pool6 1 #[] #[{ accessFlags := 1, nameIndex := 88, descriptorIndex := 137, attributes := #[] }] 16433 20 #[] #[{ accessFlags := 16409, nameIndex := 5, descriptorIndex := 6, attributes := #[] }, { accessFlags := 16409, nameIndex := 9, descriptorIndex := 6, attributes := #[] }, { accessFlags := 4122, nameIndex := 12, descriptorIndex := 13, attributes := #[] }])
  fields := #[{ name := "CLUSTERING", type := (.object "com/example/pages_over_partitions/pagesoverpartitions/SortOrder"), accessFlags := 16409, slot := 0, constantValue := 0 }, { name := "REVERSE", type := (.object "com/example/pages_over_partitions/pagesoverpartitions/SortOrder"), accessFlags := 16409, slot := 1, constantValue := 0 }, { name := "$VALUES", type := (.array (.object "com/example/pages_over_partitions/pagesoverpartitions/SortOrder")), accessFlags := 4122, slot := 2, constantValue := 0 }]
  methods := #[k6m0]
  instanceTypes := #[(.object "java/lang/String"), .int, .int]
  staticTypes := #[(.object "com/example/pages_over_partitions/pagesoverpartitions/SortOrder"), (.object "com/example/pages_over_partitions/pagesoverpartitions/SortOrder"), (.array (.object "com/example/pages_over_partitions/pagesoverpartitions/SortOrder"))]
  resolved := Array.replicate 185 none
  statics := some 0 }

def pool7 : Array CpInfo := pool [(1, u "java/lang/Cloneable"), (0, .class_ 1), (0, u "java/lang/Object"), (0, .class_ 3)] 3

/-- java/lang/Cloneable -/
def k7 : Class := { plain "java/lang/Cloneable" (some 0) with
  accessFlags := 1537
  interfaces := #[]
  cf := some (fileOf pool7 2 #[] #[] 1537 4 #[] #[])
  fields := #[]
  methods := #[]
  instanceTypes := #[]
  staticTypes := #[]
  resolved := Array.replicate 8 none
  statics := none }

/-- the primitive byte -/
def k8 : Class := { plain "byte" none with kind := .primitive 'B', accessFlags := 0x411 }
/-- [B -/
def k9 : Class := { plain "[B" (some 0) with kind := .array 8 .byte, interfaces := #[7, 4], accessFlags := 1041 }

/-- the primitive int -/
def k10 : Class := { plain "int" none with kind := .primitive 'I', accessFlags := 0x411 }
/-- [I -/
def k11 : Class := { plain "[I" (some 0) with kind := .array 10 .int, interfaces := #[7, 4], accessFlags := 1041 }

def heap : Heap := #[{ cls := 6, slots := #[.ref 1, .ref 2, .null], vm := .statics 6 },
  { cls := 6, slots := #[.null, .int 0, .int 0], vm := .none },
  { cls := 6, slots := #[.null, .int 1, .int 0], vm := .none }]
def classes : Array Class := #[k0, k1, k2, k3, k4, k5, k6, k7, k8, k9, k10, k11]
def interned : List (Array UInt16 × Addr) := []
def slotsUsed : Nat := 9
def theMethod : MethodId := ⟨1, 1⟩
def args0 : Array Value := #[.int 5]
def aboutOver (below : List Frame) : State where
  vm := { classes := classes, interned := interned.toArray }
  heap := heap
  slotsUsed := slotsUsed
  threads := #[{ frames := .invoking theMethod args0 :: below }]
def below0 : List Frame := [.native { method := ⟨0, 0⟩, args := #[] }]
def about1 : State := aboutOver below0
def p0 : Program := .bare "" "" ""
def e0 : Env := launch0.env 0 0 0
theorem w_frames : about1.frames = Frame.invoking theMethod args0 :: below0 := rfl
set_option maxRecDepth 65536 in
theorem w_args : argsFit about1.vm theMethod args0 = true := by decide +kernel
set_option maxRecDepth 65536 in
theorem w_heap : heapFits about1 = true := by decide +kernel
set_option maxRecDepth 65536 in
theorem w_runnable : about1.curStatus? = some .runnable := by decide +kernel
set_option maxRecDepth 65536 in
theorem w_alone : about1.alone = true := by decide +kernel
set_option maxRecDepth 65536 in
theorem w_named : about1.methodNamed? x = some theMethod := by decide +kernel
set_option maxRecDepth 65536 in
theorem w_hears : about1.hears theMethod below0 = true := by decide +kernel
set_option maxRecDepth 65536 in
theorem w_ripe : about1.ripe theMethod args0 below0 = true := by decide +kernel
theorem w_running : about1.status = .running := rfl
set_option maxRecDepth 65536 in
theorem w_room : about1.hasRoom e0.platform room_1 = true :=
  launch0.hasRoom_least _ room_1 (by decide +kernel) (by decide +kernel) (by decide +kernel) (by decide +kernel) (by decide +kernel) (by decide +kernel)
theorem allAtoms_all (ts : List Jvm.Cond) (a : Array Jvm.Value) (st : Jvm.State) : (allAtoms ts).before a st = ts.all (fun c => c.before a st) := by
  induction ts with
  | nil => rfl
  | cons c t ih =>
    show (Jvm.Cond.and c (allAtoms t)).before a st = _
    rw [Jvm.Cond.before_and, ih, List.all_cons]
def words1 : List Jvm.Cond := Jvm.Cond.code x code maxLocals ret :: tables_1
/-- a 'code' word, met by the world's own term for the bytes: nothing is compared byte by byte -/
theorem code_word {y : MethodName} {bytes : ByteArray} {mx : Nat} {rt : Option FieldType} {a : Array Value} {s : State} {m : MethodId} {meth : Method} {c : Code} (h1 : s.methodNamed? y = some m) (h2 : s.vm.method? m = some meth) (h3 : meth.code = some c) (h4 : c.code = bytes)
    (h5 : (c.maxLocals == mx && c.exceptionTable.isEmpty && decide (c.maxStack ≤ mostOperands) && decide (meth.sig.returnType = rt) && !meth.locks && decide (parseMethodDescriptor y.desc = some meth.sig)) = true) : (Jvm.Cond.code y bytes mx rt).before a s = true := by
  simp only [Bool.and_eq_true, beq_iff_eq, Bool.not_eq_true', decide_eq_true_eq] at h5
  obtain ⟨⟨⟨⟨⟨g1, g2⟩, g3⟩, g4⟩, g5⟩, g6⟩ := h5
  simp [Cond.before, Cond.holds, Cond.value, h1, h2, h3, h4, g1, g2, g3, g4, g5, g6]
def isCode : Jvm.Cond → Bool
  | .code _ _ _ _ => true
  | _ => false
theorem all_split {L : List Jvm.Cond} {P : Jvm.Cond → Bool} (h1 : L.all (fun c => isCode c || P c) = true) (h2 : ∀ c ∈ L.filter isCode, P c = true) : L.all P = true := by
  refine List.all_eq_true.mpr fun c hc => ?_
  have h := List.all_eq_true.mp h1 c hc
  rcases Bool.eq_false_or_eq_true (isCode c) with hi | hi
  · exact h2 c (List.mem_filter.mpr ⟨hc, hi⟩)
  · simpa [hi] using h
set_option maxRecDepth 65536 in
theorem w_c0 : (Jvm.Cond.code x code maxLocals ret).before args0 about1 = true := code_word (m := ⟨1, 1⟩) (meth := k1m1) (c := k1c1) (by decide +kernel) rfl rfl rfl (by decide +kernel)
set_option maxRecDepth 65536 in
theorem w_c1 : (Jvm.Cond.code ({ cls := "com/example/pages_over_partitions/pagesoverpartitions/SortOrder", name := "reversed", desc := "()Lcom/example/pages_over_partitions/pagesoverpartitions/SortOrder;" } : Jvm.MethodName) prog_14_method_4_code (2 : Nat) (Option.some (Jvm.ClassFile.FieldType.object "com/example/pages_over_partitions/pagesoverpartitions/SortOrder"))).before args0 about1 = true := code_word (m := ⟨6, 0⟩) (meth := k6m0) (c := k6c0) (by decide +kernel) rfl rfl rfl (by decide +kernel)
def codes1 : List Jvm.Cond := [Jvm.Cond.code x code maxLocals ret, Jvm.Cond.code ({ cls := "com/example/pages_over_partitions/pagesoverpartitions/SortOrder", name := "reversed", desc := "()Lcom/example/pages_over_partitions/pagesoverpartitions/SortOrder;" } : Jvm.MethodName) prog_14_method_4_code (2 : Nat) (Option.some (Jvm.ClassFile.FieldType.object "com/example/pages_over_partitions/pagesoverpartitions/SortOrder"))]
set_option maxRecDepth 65536 in
theorem codes_eq : words1.filter isCode = codes1 := rfl
theorem w_codes : ∀ c ∈ words1.filter isCode, c.before args0 about1 = true := by
  rw [codes_eq]
  intro c hc
  simp only [codes1, List.mem_cons, List.not_mem_nil, or_false] at hc
  rcases hc with rfl | rfl
  · exact w_c0
  · exact w_c1
set_option maxRecDepth 65536 in
theorem w_t1 : words1.all (fun c => isCode c || c.before args0 about1) = true := by decide +kernel
theorem w_tables : (allAtoms (Jvm.Cond.code x code maxLocals ret :: tables_1)).before args0 about1 = true := by
  rw [allAtoms_all]
  show words1.all (fun c => c.before args0 about1) = true
  refine all_split ?_ w_codes
  rw [w_t1]
set_option maxRecDepth 65536 in
theorem w_case : (Jvm.Cond.and given_1 narrow_1).before args0 about1 = true := by decide +kernel
theorem w_applies : (headSpec (Jvm.Cond.code x code maxLocals ret :: tables_1) room_1).applies x e0.platform about1 = true :=
  (Spec.applies_iff w_frames).mpr ⟨w_running, w_runnable, w_alone, w_named, w_hears, w_ripe, w_room, w_tables⟩
theorem atStart : AtStart classFile x code maxLocals ret World_1 tables_1 room_1 Calls_1 rest_1 Pre_1 launch0 p0 e0 about1 theMethod args0 below0 :=
  ⟨lists_1, trivial, launch0.admits_env _ _ _, launch0.least_env, fairChoices_fair.cas, fairChoices_fair.clock, w_frames, w_args, w_heap, w_applies, trivial, trivial, w_case⟩
end start1
theorem witness_1 : WitnessClaimed_1 := ⟨start1.p0, start1.e0, start1.about1, start1.theMethod, start1.args0, start1.below0, start1.atStart⟩
end Jvm.Pilot.@@N@@
