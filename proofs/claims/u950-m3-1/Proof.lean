import JvmDerived
import JvmDerived.Pilot.@@N@@Statement
import JvmDerived.Pilot.@@N@@Code
set_option linter.unusedVariables false
set_option linter.unusedSimpArgs false
namespace Jvm.RoadKit
open Sem ClassFile Op Lib Jvm.Stand Jvm.Free Jvm.LawKit
section New
variable {p : Program} {l : Launch} {e : Env} {R : Room} {s : State} {m : MethodId} {args : Array Value} {below : List Frame} {meth : Method} {c : Code} {T : State} {locs : List Loc} {cells slots : Nat}
theorem retI (X : Stand p l e R s m args below meth c T locs cells slots) (hx : p.tables.exec = Jvm.exec) {pc : Nat} {Ls : Array Slot} {z : Int32} {rest : List Value} (hret : meth.sig.returnType = some .int) (hd : decode c.code pc = .ok (.ireturn, 1)) {fs : List Frame}
    (hl : ∀ (f : JFrame) (acts : List Action), f.method = m → f.locked = none → f.entered = [] → (doReturn e (T.setTop f) acts (some (.int z))).1 = T.setFrames fs) : Steps p.tables e below (T.setTop (mkF m pc Ls (.int z :: rest))) (T.setFrames fs) := by
  have hm' : T.vm.method? m = some meth := X.method'
  have hn : narrow .int (.int z) = .int z := rfl
  show Steps p.tables e below (T.setTop { method := m, pc := pc, locals := Ls, stack := _ :: rest, locked := none }) _
  jvm_step X.here [X.here.top, hx, hd, hm', hret, hn]
  first | (intro acts; rw [hl _ acts rfl rfl rfl]) | rw [hl _ _ rfl rfl rfl]
  exact Steps.refl _
end New
end Jvm.RoadKit
namespace Jvm.Pilot.@@N@@
open Jvm Jvm.ClassFile Sem Op Lib Jvm.Free Jvm.Stand Jvm.LawKit Jvm.RoadKit Bundle Jvm.Pilot.@@N@@.Jvm.D
/-- a run from U comes to an end at which P holds -/
def Go (p : Program) (e : Env) (below : List Frame) (P : State → Outcome → Prop) (U : State) : Prop := ∃ s₂ o, Steps p.tables e below U s₂ ∧ P s₂ o
theorem Go.out {p : Program} {e : Env} {below : List Frame} {P : State → Outcome → Prop} {U : State} (h : Go p e below P U) : ∃ s₂ o, Steps p.tables e below U s₂ ∧ P s₂ o := h
theorem Go.pre {p : Program} {e : Env} {below : List Frame} {P : State → Outcome → Prop} {U U' : State} (st : ∀ t, Steps p.tables e below U' t → Steps p.tables e below U t) (h : Go p e below P U') : Go p e below P U := by
  obtain ⟨t, o, h1, h2⟩ := h
  exact ⟨t, o, st _ h1, h2⟩
theorem Go.named {p : Program} {e : Env} {below : List Frame} {P : State → Outcome → Prop} {U : State} (h : ∀ P', P' = P → Go p e below P' U) : Go p e below P U := h P rfl
theorem Go.fin {p : Program} {e : Env} {below : List Frame} {P : State → Outcome → Prop} {U t : State} {o : Outcome} (st : Steps p.tables e below U t) (h : P t o) : Go p e below P U := ⟨t, o, st, h⟩
theorem own_cut {p : Program} {e : Env} {below : List Frame} {U U' : State} (st : Steps p.tables e below U U') : ∀ t, Steps p.tables e below U' t → Steps p.tables e below U t := fun _ k => st.trans k
theorem own_ltT {x y : Int64} (h : x < y) : lcmpW x y < 0 := by rw [lcW]; exact (lc_lt x y).mpr h
theorem own_ltF {x y : Int64} (h : ¬ x < y) : ¬ lcmpW x y < 0 := by rw [lcW]; exact fun q => h ((lc_lt x y).mp q)
theorem own_gtT {x y : Int64} (h : y < x) : 0 < lcmpW x y := by rw [lcW]; exact (lc_gt x y).mpr h
theorem own_gtF {x y : Int64} (h : ¬ y < x) : ¬ 0 < lcmpW x y := by rw [lcW]; exact fun q => h ((lc_gt x y).mp q)
theorem own_eqT {x y : Int64} (h : x = y) : lcmpW x y = 0 := by rw [lcW]; exact (lc_eq x y).mpr h
theorem own_eqF {x y : Int64} (h : ¬ x = y) : ¬ lcmpW x y = 0 := by rw [lcW]; exact fun q => h ((lc_eq x y).mp q)

theorem own_staK {Z : State} {h h' : Heap} {C n d : String} {v : Value} (F : Sta Z h C n d v) (K : Keep h h' []) : Sta Z h' C n d v := by
  obtain ⟨cf, i, k, f, st, cell, h1, h2, h3, h4, h5, r⟩ := F
  exact ⟨cf, i, k, f, st, cell, h1, h2, h3, h4, K.2.1 _ _ h5 nin0, r⟩
theorem own_fldI {args : Array Value} {s : State} {t : Term} {C n d : String} {a : Addr} {k : Int32} (ht : t.eval args s none [] s = some (.ref a)) (h : (Cond.eq (Term.field t C n d) (Term.int k)).value args s none s [] = some true) : Fld s s.heap a C n d (.int k) := by
  apply Fld.start
  have e := fld_at (C := C) (n := n) (dd := d) ht
  have ek : (Term.int k).eval args s none [] s = some (.int k) := Term.int_eval k
  cases hf : s.fieldOf? a C n d with
  | none => rw [hf] at e; simp [Cond.value, e] at h
  | some v =>
    rw [hf] at e
    cases v <;> simp [Cond.value, e, ek] at h
    subst h; rfl
theorem own_fldJ {args : Array Value} {s : State} {t : Term} {C n d : String} {a : Addr} {k : Int64} (ht : t.eval args s none [] s = some (.ref a)) (h : (Cond.eq (Term.field t C n d) (Term.long k)).value args s none s [] = some true) : Fld s s.heap a C n d (.long k) := by
  apply Fld.start
  have e := fld_at (C := C) (n := n) (dd := d) ht
  have ek : (Term.long k).eval args s none [] s = some (.long k) := by simp [Term.eval]
  cases hf : s.fieldOf? a C n d with
  | none => rw [hf] at e; simp [Cond.value, e] at h
  | some v =>
    rw [hf] at e
    cases v <;> simp [Cond.value, e, ek] at h
    subst h; rfl
theorem d_prog_3_method_6_0 : decode prog_3_method_6_code 0 = .ok (.iload_n 1, 1) := by decide +kernel
theorem d_prog_3_method_6_1 : decode prog_3_method_6_code 1 = .ok (.aload_n 0, 1) := by decide +kernel
theorem d_prog_3_method_6_2 : decode prog_3_method_6_code 2 = .ok (.getfield 39, 3) := by decide +kernel
theorem d_prog_3_method_6_5 : decode prog_3_method_6_code 5 = .ok (.if_icmp .lt 15, 3) := by decide +kernel
theorem d_prog_3_method_6_20 : decode prog_3_method_6_code 20 = .ok (.iconst 0, 1) := by decide +kernel
theorem d_prog_3_method_6_21 : decode prog_3_method_6_code 21 = .ok (.ireturn, 1) := by decide +kernel
theorem d_prog_3_method_6_8 : decode prog_3_method_6_code 8 = .ok (.iload_n 1, 1) := by decide +kernel
theorem d_prog_3_method_6_9 : decode prog_3_method_6_code 9 = .ok (.aload_n 0, 1) := by decide +kernel
theorem d_prog_3_method_6_10 : decode prog_3_method_6_code 10 = .ok (.getfield 43, 3) := by decide +kernel
theorem d_prog_3_method_6_13 : decode prog_3_method_6_code 13 = .ok (.if_icmp .gt 7, 3) := by decide +kernel
theorem d_prog_3_method_6_16 : decode prog_3_method_6_code 16 = .ok (.iconst 1, 1) := by decide +kernel
theorem d_prog_3_method_6_17 : decode prog_3_method_6_code 17 = .ok (.goto 4, 3) := by decide +kernel
theorem pd_0 : parseMethodDescriptor "(I)Z" = some ⟨[.int], some .boolean⟩ := by decide +kernel
theorem ef_al (m : MethodId) (x0 : Addr) (x1 : Int32) : entryFrame m #[(.ref x0), (.int x1)] 2 = mkF m 0 #[rv x0, iv x1] [] := by first | (simp [entryFrame, mkF, argsToLocals, Value.category]; done) | rfl
theorem pn_al : plainName "com/example/focalgram/focalgram/cli/Command$Operands" = true := by first | (simp [plainName, overriddenIn]; done) | decide +kernel
def Q_al (Z : State) (a1 : Addr) (p1 : Int32) (wf : Int32) (wm : Int32) (h0 : Heap) (n0 : Nat) (v : Option Value) (h : Heap) (L : List Loc) : Prop := ((¬ p1 < wf ∧ ¬ wm < p1) ∧ v = some (.int 1) ∧ Fr n0 L ∧ h = h0) ∨ (¬ (¬ p1 < wf ∧ ¬ wm < p1) ∧ v = some (.int 0) ∧ Fr n0 L ∧ h = h0)
set_option maxRecDepth 65536 in
set_option maxHeartbeats 40000000 in
theorem rm_al (l : Launch) (Z : State) (a0 : Array Value) (hw : ∀ d ∈ tables_1, d.before a0 Z = true) (ws : List Jvm.Cond) (a1 : Addr) (p1 : Int32) (wf : Int32) (wm : Int32) (h0 : Heap) (n0 : Nat) (Z0 : n0 ≤ h0.size) (F_f : Fld Z h0 a1 "com/example/focalgram/focalgram/cli/Command$Operands" "fewest" "I" (.int wf)) (F_m : Fld Z h0 a1 "com/example/focalgram/focalgram/cli/Command$Operands" "most" "I" (.int wm)) :
    MetFree l (⟨"com/example/focalgram/focalgram/cli/Command$Operands", "allows", "(I)Z"⟩ : MethodName) (head1 (Jvm.Cond.code (⟨"com/example/focalgram/focalgram/cli/Command$Operands", "allows", "(I)Z"⟩ : MethodName) prog_3_method_6_code 2 (some .boolean) :: ws) ({ frames := 0, cells := 0, slots := 0, locals := 0 } : Room)) (fun a U => a = #[(.ref a1), (.int p1)] ∧ Z.Warmed39 U.vm ∧ U.heap = h0) (fun _ _ _ _ _ => True) (fun _ U o U' => ∃ v L, o = .returned v ∧ Q_al Z a1 p1 wf wm h0 n0 v U'.heap L ∧ FrameEnd U o U' L ({ frames := 0, cells := 0, slots := 0, locals := 0 } : Room).cells ({ frames := 0, cells := 0, slots := 0, locals := 0 } : Room).slots) := by
  refine MetFree.of_bodySF (plainFor_of_name pn_al) hisR ?_
  intro p e s m args below meth c s₁ Bd hml0 hP hK
  obtain ⟨rfl, hZ, hh⟩ := hP
  have hx := Bd.exec
  have hby := Bd.bytes
  have hml : c.maxLocals = 2 := hml0
  have hown : s.vm.findClass "com/example/focalgram/focalgram/cli/Command$Operands" = some m.cls := findClass_of_methodNamed Bd.named
  have hnm := (name_of_methodNamed Bd.named Bd.method).1
  have X0 : Stand p l e ({ frames := 0, cells := 0, slots := 0, locals := 0 } : Room) s m #[(.ref a1), (.int p1)] below meth c s₁ [] 0 0 := Stand.of_body Bd
  have e0 : s₁.heap = h0 := by rw [← hh, Bd.state]; rfl
  have N0 := Fr.nil n0
  refine Go.out ?_
  refine Go.pre (fun t k => castTop (ef_al m a1 p1) k) ?_
  show Go p e below _ (s₁.setTop (mkF m 0 #[rv a1, iv p1] []))
  refine Go.pre (fun _ k => XS.iloadN X0.here hx rfl (hb hby d_prog_3_method_6_0) rfl k) ?_
  show Go p e below _ (s₁.setTop (mkF m 1 #[rv a1, iv p1] [(.int p1)]))
  refine Go.pre (fun _ k => XS.aloadN X0.here hx rfl (hb hby d_prog_3_method_6_1) rfl rfl k) ?_
  show Go p e below _ (s₁.setTop (mkF m 2 #[rv a1, iv p1] [(.ref a1), (.int p1)]))
  obtain ⟨T1, X1, e1, st1⟩ := getF X0 hx hZ hown (host := "") (Or.inl (hw _ (List.mem_of_getElem? (i := 8) rfl))) Via.refl e0 F_f (g := (mkF m 2 #[rv a1, iv p1] [(.ref a1), (.int p1)])) rfl rfl (hb hby d_prog_3_method_6_2)
  refine Go.pre st1 ?_
  show Go p e below _ (T1.setTop (mkF m 5 #[rv a1, iv p1] [(.int wf), (.int p1)]))
  by_cases hc5_2 : p1 < wf
  · skip
    refine Go.pre (fun _ k => XS.icmpYes X1.here hx rfl (pc0 := 5) (pc' := 20) rfl (hb hby d_prog_3_method_6_5) rfl (tlt hc5_2).1 (by decide) (by decide) k) ?_
    show Go p e below _ (T1.setTop (mkF m 20 #[rv a1, iv p1] []))
    refine Go.pre (fun _ k => XS.iconst X1.here hx rfl (hb hby d_prog_3_method_6_20) k) ?_
    show Go p e below _ (T1.setTop (mkF m 21 #[rv a1, iv p1] [(.int (0 : Int32))]))
    obtain ⟨fs, hr, hrun, hended, hW, hsame⟩ := X1.leave (v := some (.int (0 : Int32))) (fun h => by rw [Bd.returns] at h; cases h)
    refine Go.fin (retN X1 hx (t := .boolean) Bd.returns (by simp) (hb hby d_prog_3_method_6_21) hr) ⟨hrun, hended, _, _, rfl, ?_, ⟨_, rfl⟩, hW, hsame.mono (by decide) (by decide)⟩
    show Q_al Z a1 p1 wf wm h0 n0 _ T1.heap _
    rw [e1]
    exact Or.inr ⟨fun q => q.1 hc5_2, rfl, N0, rfl⟩
  · skip
    refine Go.pre (fun _ k => XS.icmpNo X1.here hx rfl (hb hby d_prog_3_method_6_5) rfl (flt hc5_2).1 k) ?_
    show Go p e below _ (T1.setTop (mkF m 8 #[rv a1, iv p1] []))
    refine Go.pre (fun _ k => XS.iloadN X1.here hx rfl (hb hby d_prog_3_method_6_8) rfl k) ?_
    show Go p e below _ (T1.setTop (mkF m 9 #[rv a1, iv p1] [(.int p1)]))
    refine Go.pre (fun _ k => XS.aloadN X1.here hx rfl (hb hby d_prog_3_method_6_9) rfl rfl k) ?_
    show Go p e below _ (T1.setTop (mkF m 10 #[rv a1, iv p1] [(.ref a1), (.int p1)]))
    obtain ⟨T3, X3, e3, st3⟩ := getF X1 hx hZ hown (host := "") (Or.inl (hw _ (List.mem_of_getElem? (i := 10) rfl))) Via.refl e1 F_m (g := (mkF m 10 #[rv a1, iv p1] [(.ref a1), (.int p1)])) rfl rfl (hb hby d_prog_3_method_6_10)
    refine Go.pre st3 ?_
    show Go p e below _ (T3.setTop (mkF m 13 #[rv a1, iv p1] [(.int wm), (.int p1)]))
    by_cases hc13_4 : wm < p1
    · skip
      refine Go.pre (fun _ k => XS.icmpYes X3.here hx rfl (pc0 := 13) (pc' := 20) rfl (hb hby d_prog_3_method_6_13) rfl (tlt hc13_4).2.2.1 (by decide) (by decide) k) ?_
      show Go p e below _ (T3.setTop (mkF m 20 #[rv a1, iv p1] []))
      refine Go.pre (fun _ k => XS.iconst X3.here hx rfl (hb hby d_prog_3_method_6_20) k) ?_
      show Go p e below _ (T3.setTop (mkF m 21 #[rv a1, iv p1] [(.int (0 : Int32))]))
      obtain ⟨fs, hr, hrun, hended, hW, hsame⟩ := X3.leave (v := some (.int (0 : Int32))) (fun h => by rw [Bd.returns] at h; cases h)
      refine Go.fin (retN X3 hx (t := .boolean) Bd.returns (by simp) (hb hby d_prog_3_method_6_21) hr) ⟨hrun, hended, _, _, rfl, ?_, ⟨_, rfl⟩, hW, hsame.mono (by decide) (by decide)⟩
      show Q_al Z a1 p1 wf wm h0 n0 _ T3.heap _
      rw [e3]
      exact Or.inr ⟨fun q => q.2 hc13_4, rfl, N0, rfl⟩
    · skip
      refine Go.pre (fun _ k => XS.icmpNo X3.here hx rfl (hb hby d_prog_3_method_6_13) rfl (flt hc13_4).2.2.1 k) ?_
      show Go p e below _ (T3.setTop (mkF m 16 #[rv a1, iv p1] []))
      refine Go.pre (fun _ k => XS.iconst X3.here hx rfl (hb hby d_prog_3_method_6_16) k) ?_
      show Go p e below _ (T3.setTop (mkF m 17 #[rv a1, iv p1] [(.int (1 : Int32))]))
      refine Go.pre (fun _ k => XS.goto X3.here hx rfl (pc0 := 17) (pc' := 21) rfl (hb hby d_prog_3_method_6_17) (by decide) (by decide) k) ?_
      show Go p e below _ (T3.setTop (mkF m 21 #[rv a1, iv p1] [(.int (1 : Int32))]))
      obtain ⟨fs, hr, hrun, hended, hW, hsame⟩ := X3.leave (v := some (.int (1 : Int32))) (fun h => by rw [Bd.returns] at h; cases h)
      refine Go.fin (retN X3 hx (t := .boolean) Bd.returns (by simp) (hb hby d_prog_3_method_6_21) hr) ⟨hrun, hended, _, _, rfl, ?_, ⟨_, rfl⟩, hW, hsame.mono (by decide) (by decide)⟩
      show Q_al Z a1 p1 wf wm h0 n0 _ T3.heap _
      rw [e3]
      exact Or.inl ⟨⟨hc5_2, hc13_4⟩, rfl, N0, rfl⟩

theorem own_i0 : (0 : Int32).toInt = 0 := by decide
theorem own_i1 : (1 : Int32).toInt = 1 := by decide
theorem own_i2 : (2 : Int32).toInt = 2 := by decide
theorem own_iM : (2147483647 : Int32).toInt = 2147483647 := by decide
theorem ef_law (m : MethodId) (x0 : Int32) (x1 : Int32) : entryFrame m #[(.int x0), (.int x1)] maxLocals = mkF m 0 #[iv x0, iv x1, .unset, .unset, .unset] [] := by first | (simp [entryFrame, mkF, argsToLocals, Value.category, maxLocals]; done) | rfl
theorem pn_law : plainName "com/example/focalgram/focalgram/cli/OperandsAllowsPinLaw" = true := by first | (simp [plainName, overriddenIn]; done) | decide +kernel
def Q_law (Z : State) (p1 : Int32) (p2 : Int32) (aN : Addr) (aF : Addr) (aS : Addr) (aT : Addr) (h0 : Heap) (n0 : Nat) (v : Option Value) (h : Heap) (L : List Loc) : Prop := v = some (.int 1) ∧ Fr n0 L
set_option maxRecDepth 65536 in
set_option maxHeartbeats 40000000 in
theorem rm_law (l : Launch) (Z : State) (a0 : Array Value) (hw : ∀ d ∈ tables_1, d.before a0 Z = true) (ws : List Jvm.Cond) (p1 : Int32) (p2 : Int32) (aN : Addr) (aF : Addr) (aS : Addr) (aT : Addr) (h0 : Heap) (n0 : Nat) (Z0 : n0 ≤ h0.size) (S_aN : Sta Z h0 "com/example/focalgram/focalgram/cli/Command$Operands" "NONE" "Lcom/example/focalgram/focalgram/cli/Command$Operands;" (.ref aN)) (S_aF : Sta Z h0 "com/example/focalgram/focalgram/cli/Command$Operands" "FILE" "Lcom/example/focalgram/focalgram/cli/Command$Operands;" (.ref aF)) (S_aS : Sta Z h0 "com/example/focalgram/focalgram/cli/Command$Operands" "FILES" "Lcom/example/focalgram/focalgram/cli/Command$Operands;" (.ref aS)) (S_aT : Sta Z h0 "com/example/focalgram/focalgram/cli/Command$Operands" "TWO_FILES" "Lcom/example/focalgram/focalgram/cli/Command$Operands;" (.ref aT)) (E_aN : Exa Z h0 aN "com/example/focalgram/focalgram/cli/Command$Operands") (E_aF : Exa Z h0 aF "com/example/focalgram/focalgram/cli/Command$Operands") (E_aS : Exa Z h0 aS "com/example/focalgram/focalgram/cli/Command$Operands") (E_aT : Exa Z h0 aT "com/example/focalgram/focalgram/cli/Command$Operands") (Ff_aN : Fld Z h0 aN "com/example/focalgram/focalgram/cli/Command$Operands" "fewest" "I" (.int (0 : Int32))) (Ff_aF : Fld Z h0 aF "com/example/focalgram/focalgram/cli/Command$Operands" "fewest" "I" (.int (1 : Int32))) (Ff_aS : Fld Z h0 aS "com/example/focalgram/focalgram/cli/Command$Operands" "fewest" "I" (.int (1 : Int32))) (Ff_aT : Fld Z h0 aT "com/example/focalgram/focalgram/cli/Command$Operands" "fewest" "I" (.int (2 : Int32))) (Fm_aN : Fld Z h0 aN "com/example/focalgram/focalgram/cli/Command$Operands" "most" "I" (.int (0 : Int32))) (Fm_aF : Fld Z h0 aF "com/example/focalgram/focalgram/cli/Command$Operands" "most" "I" (.int (1 : Int32))) (Fm_aS : Fld Z h0 aS "com/example/focalgram/focalgram/cli/Command$Operands" "most" "I" (.int (2147483647 : Int32))) (Fm_aT : Fld Z h0 aT "com/example/focalgram/focalgram/cli/Command$Operands" "most" "I" (.int (2 : Int32))) :
    MetFree l x (head1 (Jvm.Cond.code x code maxLocals ret :: ws) room_1) (fun a U => a = #[(.int p1), (.int p2)] ∧ Z.Warmed39 U.vm ∧ U.heap = h0) (fun _ _ _ _ _ => True) (fun _ U o U' => ∃ v L, o = .returned v ∧ Q_law Z p1 p2 aN aF aS aT h0 n0 v U'.heap L ∧ FrameEnd U o U' L room_1.cells room_1.slots) := by
  refine MetFree.of_bodySF (plainFor_of_name pn_law) hisR ?_
  intro p e s m args below meth c s₁ Bd hml0 hP hK
  obtain ⟨rfl, hZ, hh⟩ := hP
  have hx := Bd.exec
  have hby := Bd.bytes
  have hml : c.maxLocals = 5 := hml0
  have hown : s.vm.findClass "com/example/focalgram/focalgram/cli/OperandsAllowsPinLaw" = some m.cls := findClass_of_methodNamed Bd.named
  have hnm := (name_of_methodNamed Bd.named Bd.method).1
  have X0 : Stand p l e room_1 s m #[(.int p1), (.int p2)] below meth c s₁ [] 0 0 := Stand.of_body Bd
  have e0 : s₁.heap = h0 := by rw [← hh, Bd.state]; rfl
  have N0 := Fr.nil n0
  refine Go.out ?_
  refine Go.pre (fun t k => castTop (ef_law m p1 p2) k) ?_
  show Go p e below _ (s₁.setTop (mkF m 0 #[iv p1, iv p2, .unset, .unset, .unset] []))
  refine Go.pre (fun _ k => XS.iloadN X0.here hx rfl (hb hby at_0) rfl k) ?_
  show Go p e below _ (s₁.setTop (mkF m 1 #[iv p1, iv p2, .unset, .unset, .unset] [(.int p1)]))
  refine Go.pre (fun _ k => XS.iconst X0.here hx rfl (hb hby at_1) k) ?_
  show Go p e below _ (s₁.setTop (mkF m 2 #[iv p1, iv p2, .unset, .unset, .unset] [(.int (3 : Int32)), (.int p1)]))
  refine Go.pre (fun _ k => XS.iand X0.here hx rfl (hb hby at_2) rfl k) ?_
  show Go p e below _ (s₁.setTop (mkF m 3 #[iv p1, iv p2, .unset, .unset, .unset] [(.int (p1 &&& (3 : Int32)))]))
  refine Go.pre (fun _ k => XS.istoreN X0.here hx rfl (hb hby at_3) rfl (l' := #[iv p1, iv p2, iv (p1 &&& (3 : Int32)), .unset, .unset]) rfl k) ?_
  show Go p e below _ (s₁.setTop (mkF m 4 #[iv p1, iv p2, iv (p1 &&& (3 : Int32)), .unset, .unset] []))
  refine Go.pre (fun _ k => XS.iloadN X0.here hx rfl (hb hby at_4) rfl k) ?_
  show Go p e below _ (s₁.setTop (mkF m 5 #[iv p1, iv p2, iv (p1 &&& (3 : Int32)), .unset, .unset] [(.int (p1 &&& (3 : Int32)))]))
  by_cases hc5_1 : (p1 &&& (3 : Int32)) = (0 : Int32)
  · skip
    refine Go.pre (fun _ k => XS.ifNo X0.here hx rfl (hb hby at_5) rfl ((if0 _ _).trans (teq hc5_1).2) k) ?_
    show Go p e below _ (s₁.setTop (mkF m 8 #[iv p1, iv p2, iv (p1 &&& (3 : Int32)), .unset, .unset] []))
    obtain ⟨T2, X2, e2, st2⟩ := getS2 X0 hx hZ hown (host := "") (Or.inl (hw _ (List.mem_of_getElem? (i := 0) rfl))) Via.refl e0 S_aN (g := (mkF m 8 #[iv p1, iv p2, iv (p1 &&& (3 : Int32)), .unset, .unset] [])) rfl (hb hby at_8)
    refine Go.pre st2 ?_
    show Go p e below _ (T2.setTop (mkF m 11 #[iv p1, iv p2, iv (p1 &&& (3 : Int32)), .unset, .unset] [(.ref aN)]))
    refine Go.pre (fun _ k => XS.astoreN X2.here hx rfl (hb hby at_11) rfl rfl (l' := #[iv p1, iv p2, iv (p1 &&& (3 : Int32)), rv aN, .unset]) rfl k) ?_
    show Go p e below _ (T2.setTop (mkF m 12 #[iv p1, iv p2, iv (p1 &&& (3 : Int32)), rv aN, .unset] []))
    refine Go.pre (fun _ k => XS.iloadN X2.here hx rfl (hb hby at_12) rfl k) ?_
    show Go p e below _ (T2.setTop (mkF m 13 #[iv p1, iv p2, iv (p1 &&& (3 : Int32)), rv aN, .unset] [(.int p2)]))
    by_cases hc13_3 : p2 = (0 : Int32)
    · skip
      refine Go.pre (fun _ k => XS.ifNo X2.here hx rfl (hb hby at_13) rfl ((if0 _ _).trans (teq hc13_3).2) k) ?_
      show Go p e below _ (T2.setTop (mkF m 16 #[iv p1, iv p2, iv (p1 &&& (3 : Int32)), rv aN, .unset] []))
      refine Go.pre (fun _ k => XS.iconst X2.here hx rfl (hb hby at_16) k) ?_
      show Go p e below _ (T2.setTop (mkF m 17 #[iv p1, iv p2, iv (p1 &&& (3 : Int32)), rv aN, .unset] [(.int (1 : Int32))]))
      refine Go.pre (fun _ k => XS.goto X2.here hx rfl (pc0 := 17) (pc' := 21) rfl (hb hby at_17) (by decide) (by decide) k) ?_
      show Go p e below _ (T2.setTop (mkF m 21 #[iv p1, iv p2, iv (p1 &&& (3 : Int32)), rv aN, .unset] [(.int (1 : Int32))]))
      refine Go.pre (fun _ k => XS.istore X2.here hx rfl (hb hby at_21) rfl (l' := #[iv p1, iv p2, iv (p1 &&& (3 : Int32)), rv aN, iv (1 : Int32)]) rfl k) ?_
      show Go p e below _ (T2.setTop (mkF m 23 #[iv p1, iv p2, iv (p1 &&& (3 : Int32)), rv aN, iv (1 : Int32)] []))
      refine Go.pre (fun _ k => XS.goto X2.here hx rfl (pc0 := 23) (pc' := 90) rfl (hb hby at_23) (by decide) (by decide) k) ?_
      show Go p e below _ (T2.setTop (mkF m 90 #[iv p1, iv p2, iv (p1 &&& (3 : Int32)), rv aN, iv (1 : Int32)] []))
      refine Go.pre (fun _ k => XS.aloadN X2.here hx rfl (hb hby at_90) rfl rfl k) ?_
      show Go p e below _ (T2.setTop (mkF m 91 #[iv p1, iv p2, iv (p1 &&& (3 : Int32)), rv aN, iv (1 : Int32)] [(.ref aN)]))
      refine Go.pre (fun _ k => XS.iloadN X2.here hx rfl (hb hby at_91) rfl k) ?_
      show Go p e below _ (T2.setTop (mkF m 92 #[iv p1, iv p2, iv (p1 &&& (3 : Int32)), rv aN, iv (1 : Int32)] [(.int p2), (.ref aN)]))
      obtain ⟨cq4, kq4, q4a, q4b, q4c⟩ := isOf hZ e2 E_aN
      obtain ⟨_, _, ⟨T4, L4, k4, n4⟩, -, X4, ⟨Lc4, hQ4, l4, y4, z4⟩, st4⟩ := X2.virtualBack hx (y := (⟨"com/example/focalgram/focalgram/cli/Command$Operands", "allows", "(I)Z"⟩ : MethodName)) (z := (⟨"com/example/focalgram/focalgram/cli/Command$Operands", "allows", "(I)Z"⟩ : MethodName)) hown (mvT hZ (hw _ (List.mem_of_getElem? (i := 3) rfl))) (mvT hZ (hw _ (List.mem_of_getElem? (i := 4) rfl))) (notFace_of_selects (args := #[]) (mvT hZ (hw _ (List.mem_of_getElem? (i := 6) rfl)))) (mvT hZ (hw _ (List.mem_of_getElem? (i := 6) rfl))) (mvT hZ (hw _ (List.mem_of_getElem? (i := 5) rfl))) (by decide) (backOf (W := 0) (rm_al l Z a0 hw [] aN p2 (0 : Int32) (0 : Int32) h0 n0 Z0 Ff_aN Fm_aN) hZ (hw _ (List.mem_of_getElem? (i := 7) rfl)) (hw _ (List.mem_of_getElem? (i := 1) rfl)) (by decide) (by decide)) q4a q4c (g := (mkF m 92 #[iv p1, iv p2, iv (p1 &&& (3 : Int32)), rv aN, iv (1 : Int32)] [(.int p2), (.ref aN)])) rfl (by rw [hml]; rfl) (Steps.refl _) (argsL := [(.int p2)]) (rest := []) (lenOf pd_0 rfl) rfl (by show 2 * 0 + _ ≤ _; exact Nat.le_of_eq rfl) (hb hby at_92) (fun _ _ => ⟨rfl, e2, (by decide : 0 + 0 ≤ _), (by decide : 0 + 0 ≤ _)⟩)
      dsimp only [Pt.U, Pt.locs, Pt.cells, Pt.slots] at X4 l4 y4 z4 st4 hQ4
      subst l4 y4 z4
      refine Go.pre (own_cut st4) ?_
      rcases hQ4 with ⟨hp4, rfl, N4q, eh4⟩ | ⟨hp4, rfl, N4q, eh4⟩
      · skip
        have N4 := Fr.app N0 N4q
        show Go p e below _ (T4.setTop (mkF m 95 #[iv p1, iv p2, iv (p1 &&& (3 : Int32)), rv aN, iv (1 : Int32)] [(.int (1 : Int32))]))
        refine Go.pre (fun _ k => XS.iload X4.here hx rfl (hb hby at_95) rfl k) ?_
        show Go p e below _ (T4.setTop (mkF m 97 #[iv p1, iv p2, iv (p1 &&& (3 : Int32)), rv aN, iv (1 : Int32)] [(.int (1 : Int32)), (.int (1 : Int32))]))
        refine Go.pre (fun _ k => XS.icmpNo X4.here hx rfl (hb hby at_97) rfl (teq (by decide : (1 : Int32) = (1 : Int32))).2 k) ?_
        show Go p e below _ (T4.setTop (mkF m 100 #[iv p1, iv p2, iv (p1 &&& (3 : Int32)), rv aN, iv (1 : Int32)] []))
        refine Go.pre (fun _ k => XS.iconst X4.here hx rfl (hb hby at_100) k) ?_
        show Go p e below _ (T4.setTop (mkF m 101 #[iv p1, iv p2, iv (p1 &&& (3 : Int32)), rv aN, iv (1 : Int32)] [(.int (1 : Int32))]))
        refine Go.pre (fun _ k => XS.goto X4.here hx rfl (pc0 := 101) (pc' := 105) rfl (hb hby at_101) (by decide) (by decide) k) ?_
        show Go p e below _ (T4.setTop (mkF m 105 #[iv p1, iv p2, iv (p1 &&& (3 : Int32)), rv aN, iv (1 : Int32)] [(.int (1 : Int32))]))
        obtain ⟨fs, hr, hrun, hended, hW, hsame⟩ := X4.leave (v := some (.int (1 : Int32))) (fun h => by rw [Bd.returns] at h; cases h)
        refine Go.fin (retN X4 hx (t := .boolean) Bd.returns (by simp) (hb hby at_105) hr) ⟨hrun, hended, _, _, rfl, ?_, ⟨_, rfl⟩, hW, hsame.mono (by decide) (by decide)⟩
        exact ⟨rfl, N4⟩
      · skip
        have N4 := Fr.app N0 N4q
        show Go p e below _ (T4.setTop (mkF m 95 #[iv p1, iv p2, iv (p1 &&& (3 : Int32)), rv aN, iv (1 : Int32)] [(.int (0 : Int32))]))
        refine Go.pre (fun _ k => XS.iload X4.here hx rfl (hb hby at_95) rfl k) ?_
        show Go p e below _ (T4.setTop (mkF m 97 #[iv p1, iv p2, iv (p1 &&& (3 : Int32)), rv aN, iv (1 : Int32)] [(.int (1 : Int32)), (.int (0 : Int32))]))
        refine Go.pre (fun _ k => XS.icmpYes X4.here hx rfl (pc0 := 97) (pc' := 104) rfl (hb hby at_97) rfl (feq (by decide : ¬ ((0 : Int32) = (1 : Int32)))).2 (by decide) (by decide) k) ?_
        show Go p e below _ (T4.setTop (mkF m 104 #[iv p1, iv p2, iv (p1 &&& (3 : Int32)), rv aN, iv (1 : Int32)] []))
        refine Go.pre (fun _ k => XS.iconst X4.here hx rfl (hb hby at_104) k) ?_
        show Go p e below _ (T4.setTop (mkF m 105 #[iv p1, iv p2, iv (p1 &&& (3 : Int32)), rv aN, iv (1 : Int32)] [(.int (0 : Int32))]))
        exfalso
        simp only [Int32.lt_iff_toInt_lt, ← Int32.toInt_inj, own_i0, own_i1, own_i2, own_iM] at hp4 hc13_3
        have hub := Int32.toInt_lt p2
        omega
    · skip
      refine Go.pre (fun _ k => XS.ifYes X2.here hx rfl (pc0 := 13) (pc' := 20) rfl (hb hby at_13) rfl ((if0 _ _).trans (feq hc13_3).2) (by decide) (by decide) k) ?_
      show Go p e below _ (T2.setTop (mkF m 20 #[iv p1, iv p2, iv (p1 &&& (3 : Int32)), rv aN, .unset] []))
      refine Go.pre (fun _ k => XS.iconst X2.here hx rfl (hb hby at_20) k) ?_
      show Go p e below _ (T2.setTop (mkF m 21 #[iv p1, iv p2, iv (p1 &&& (3 : Int32)), rv aN, .unset] [(.int (0 : Int32))]))
      refine Go.pre (fun _ k => XS.istore X2.here hx rfl (hb hby at_21) rfl (l' := #[iv p1, iv p2, iv (p1 &&& (3 : Int32)), rv aN, iv (0 : Int32)]) rfl k) ?_
      show Go p e below _ (T2.setTop (mkF m 23 #[iv p1, iv p2, iv (p1 &&& (3 : Int32)), rv aN, iv (0 : Int32)] []))
      refine Go.pre (fun _ k => XS.goto X2.here hx rfl (pc0 := 23) (pc' := 90) rfl (hb hby at_23) (by decide) (by decide) k) ?_
      show Go p e below _ (T2.setTop (mkF m 90 #[iv p1, iv p2, iv (p1 &&& (3 : Int32)), rv aN, iv (0 : Int32)] []))
      refine Go.pre (fun _ k => XS.aloadN X2.here hx rfl (hb hby at_90) rfl rfl k) ?_
      show Go p e below _ (T2.setTop (mkF m 91 #[iv p1, iv p2, iv (p1 &&& (3 : Int32)), rv aN, iv (0 : Int32)] [(.ref aN)]))
      refine Go.pre (fun _ k => XS.iloadN X2.here hx rfl (hb hby at_91) rfl k) ?_
      show Go p e below _ (T2.setTop (mkF m 92 #[iv p1, iv p2, iv (p1 &&& (3 : Int32)), rv aN, iv (0 : Int32)] [(.int p2), (.ref aN)]))
      obtain ⟨cq5, kq5, q5a, q5b, q5c⟩ := isOf hZ e2 E_aN
      obtain ⟨_, _, ⟨T5, L5, k5, n5⟩, -, X5, ⟨Lc5, hQ5, l5, y5, z5⟩, st5⟩ := X2.virtualBack hx (y := (⟨"com/example/focalgram/focalgram/cli/Command$Operands", "allows", "(I)Z"⟩ : MethodName)) (z := (⟨"com/example/focalgram/focalgram/cli/Command$Operands", "allows", "(I)Z"⟩ : MethodName)) hown (mvT hZ (hw _ (List.mem_of_getElem? (i := 3) rfl))) (mvT hZ (hw _ (List.mem_of_getElem? (i := 4) rfl))) (notFace_of_selects (args := #[]) (mvT hZ (hw _ (List.mem_of_getElem? (i := 6) rfl)))) (mvT hZ (hw _ (List.mem_of_getElem? (i := 6) rfl))) (mvT hZ (hw _ (List.mem_of_getElem? (i := 5) rfl))) (by decide) (backOf (W := 0) (rm_al l Z a0 hw [] aN p2 (0 : Int32) (0 : Int32) h0 n0 Z0 Ff_aN Fm_aN) hZ (hw _ (List.mem_of_getElem? (i := 7) rfl)) (hw _ (List.mem_of_getElem? (i := 1) rfl)) (by decide) (by decide)) q5a q5c (g := (mkF m 92 #[iv p1, iv p2, iv (p1 &&& (3 : Int32)), rv aN, iv (0 : Int32)] [(.int p2), (.ref aN)])) rfl (by rw [hml]; rfl) (Steps.refl _) (argsL := [(.int p2)]) (rest := []) (lenOf pd_0 rfl) rfl (by show 2 * 0 + _ ≤ _; exact Nat.le_of_eq rfl) (hb hby at_92) (fun _ _ => ⟨rfl, e2, (by decide : 0 + 0 ≤ _), (by decide : 0 + 0 ≤ _)⟩)
      dsimp only [Pt.U, Pt.locs, Pt.cells, Pt.slots] at X5 l5 y5 z5 st5 hQ5
      subst l5 y5 z5
      refine Go.pre (own_cut st5) ?_
      rcases hQ5 with ⟨hp5, rfl, N5q, eh5⟩ | ⟨hp5, rfl, N5q, eh5⟩
      · skip
        have N5 := Fr.app N0 N5q
        show Go p e below _ (T5.setTop (mkF m 95 #[iv p1, iv p2, iv (p1 &&& (3 : Int32)), rv aN, iv (0 : Int32)] [(.int (1 : Int32))]))
        refine Go.pre (fun _ k => XS.iload X5.here hx rfl (hb hby at_95) rfl k) ?_
        show Go p e below _ (T5.setTop (mkF m 97 #[iv p1, iv p2, iv (p1 &&& (3 : Int32)), rv aN, iv (0 : Int32)] [(.int (0 : Int32)), (.int (1 : Int32))]))
        refine Go.pre (fun _ k => XS.icmpYes X5.here hx rfl (pc0 := 97) (pc' := 104) rfl (hb hby at_97) rfl (feq (by decide : ¬ ((1 : Int32) = (0 : Int32)))).2 (by decide) (by decide) k) ?_
        show Go p e below _ (T5.setTop (mkF m 104 #[iv p1, iv p2, iv (p1 &&& (3 : Int32)), rv aN, iv (0 : Int32)] []))
        refine Go.pre (fun _ k => XS.iconst X5.here hx rfl (hb hby at_104) k) ?_
        show Go p e below _ (T5.setTop (mkF m 105 #[iv p1, iv p2, iv (p1 &&& (3 : Int32)), rv aN, iv (0 : Int32)] [(.int (0 : Int32))]))
        exfalso
        simp only [Int32.lt_iff_toInt_lt, ← Int32.toInt_inj, own_i0, own_i1, own_i2, own_iM] at hp5 hc13_3
        have hub := Int32.toInt_lt p2
        omega
      · skip
        have N5 := Fr.app N0 N5q
        show Go p e below _ (T5.setTop (mkF m 95 #[iv p1, iv p2, iv (p1 &&& (3 : Int32)), rv aN, iv (0 : Int32)] [(.int (0 : Int32))]))
        refine Go.pre (fun _ k => XS.iload X5.here hx rfl (hb hby at_95) rfl k) ?_
        show Go p e below _ (T5.setTop (mkF m 97 #[iv p1, iv p2, iv (p1 &&& (3 : Int32)), rv aN, iv (0 : Int32)] [(.int (0 : Int32)), (.int (0 : Int32))]))
        refine Go.pre (fun _ k => XS.icmpNo X5.here hx rfl (hb hby at_97) rfl (teq (by decide : (0 : Int32) = (0 : Int32))).2 k) ?_
        show Go p e below _ (T5.setTop (mkF m 100 #[iv p1, iv p2, iv (p1 &&& (3 : Int32)), rv aN, iv (0 : Int32)] []))
        refine Go.pre (fun _ k => XS.iconst X5.here hx rfl (hb hby at_100) k) ?_
        show Go p e below _ (T5.setTop (mkF m 101 #[iv p1, iv p2, iv (p1 &&& (3 : Int32)), rv aN, iv (0 : Int32)] [(.int (1 : Int32))]))
        refine Go.pre (fun _ k => XS.goto X5.here hx rfl (pc0 := 101) (pc' := 105) rfl (hb hby at_101) (by decide) (by decide) k) ?_
        show Go p e below _ (T5.setTop (mkF m 105 #[iv p1, iv p2, iv (p1 &&& (3 : Int32)), rv aN, iv (0 : Int32)] [(.int (1 : Int32))]))
        obtain ⟨fs, hr, hrun, hended, hW, hsame⟩ := X5.leave (v := some (.int (1 : Int32))) (fun h => by rw [Bd.returns] at h; cases h)
        refine Go.fin (retN X5 hx (t := .boolean) Bd.returns (by simp) (hb hby at_105) hr) ⟨hrun, hended, _, _, rfl, ?_, ⟨_, rfl⟩, hW, hsame.mono (by decide) (by decide)⟩
        exact ⟨rfl, N5⟩
  · skip
    refine Go.pre (fun _ k => XS.ifYes X0.here hx rfl (pc0 := 5) (pc' := 26) rfl (hb hby at_5) rfl ((if0 _ _).trans (feq hc5_1).2) (by decide) (by decide) k) ?_
    show Go p e below _ (s₁.setTop (mkF m 26 #[iv p1, iv p2, iv (p1 &&& (3 : Int32)), .unset, .unset] []))
    refine Go.pre (fun _ k => XS.iloadN X0.here hx rfl (hb hby at_26) rfl k) ?_
    show Go p e below _ (s₁.setTop (mkF m 27 #[iv p1, iv p2, iv (p1 &&& (3 : Int32)), .unset, .unset] [(.int (p1 &&& (3 : Int32)))]))
    refine Go.pre (fun _ k => XS.iconst X0.here hx rfl (hb hby at_27) k) ?_
    show Go p e below _ (s₁.setTop (mkF m 28 #[iv p1, iv p2, iv (p1 &&& (3 : Int32)), .unset, .unset] [(.int (1 : Int32)), (.int (p1 &&& (3 : Int32)))]))
    by_cases hc28_6 : (p1 &&& (3 : Int32)) = (1 : Int32)
    · skip
      refine Go.pre (fun _ k => XS.icmpNo X0.here hx rfl (hb hby at_28) rfl (teq hc28_6).2 k) ?_
      show Go p e below _ (s₁.setTop (mkF m 31 #[iv p1, iv p2, iv (p1 &&& (3 : Int32)), .unset, .unset] []))
      obtain ⟨T7, X7, e7, st7⟩ := getS2 X0 hx hZ hown (host := "") (Or.inl (hw _ (List.mem_of_getElem? (i := 14) rfl))) Via.refl e0 S_aF (g := (mkF m 31 #[iv p1, iv p2, iv (p1 &&& (3 : Int32)), .unset, .unset] [])) rfl (hb hby at_31)
      refine Go.pre st7 ?_
      show Go p e below _ (T7.setTop (mkF m 34 #[iv p1, iv p2, iv (p1 &&& (3 : Int32)), .unset, .unset] [(.ref aF)]))
      refine Go.pre (fun _ k => XS.astoreN X7.here hx rfl (hb hby at_34) rfl rfl (l' := #[iv p1, iv p2, iv (p1 &&& (3 : Int32)), rv aF, .unset]) rfl k) ?_
      show Go p e below _ (T7.setTop (mkF m 35 #[iv p1, iv p2, iv (p1 &&& (3 : Int32)), rv aF, .unset] []))
      refine Go.pre (fun _ k => XS.iloadN X7.here hx rfl (hb hby at_35) rfl k) ?_
      show Go p e below _ (T7.setTop (mkF m 36 #[iv p1, iv p2, iv (p1 &&& (3 : Int32)), rv aF, .unset] [(.int p2)]))
      refine Go.pre (fun _ k => XS.iconst X7.here hx rfl (hb hby at_36) k) ?_
      show Go p e below _ (T7.setTop (mkF m 37 #[iv p1, iv p2, iv (p1 &&& (3 : Int32)), rv aF, .unset] [(.int (1 : Int32)), (.int p2)]))
      by_cases hc37_8 : p2 = (1 : Int32)
      · skip
        refine Go.pre (fun _ k => XS.icmpNo X7.here hx rfl (hb hby at_37) rfl (teq hc37_8).2 k) ?_
        show Go p e below _ (T7.setTop (mkF m 40 #[iv p1, iv p2, iv (p1 &&& (3 : Int32)), rv aF, .unset] []))
        refine Go.pre (fun _ k => XS.iconst X7.here hx rfl (hb hby at_40) k) ?_
        show Go p e below _ (T7.setTop (mkF m 41 #[iv p1, iv p2, iv (p1 &&& (3 : Int32)), rv aF, .unset] [(.int (1 : Int32))]))
        refine Go.pre (fun _ k => XS.goto X7.here hx rfl (pc0 := 41) (pc' := 45) rfl (hb hby at_41) (by decide) (by decide) k) ?_
        show Go p e below _ (T7.setTop (mkF m 45 #[iv p1, iv p2, iv (p1 &&& (3 : Int32)), rv aF, .unset] [(.int (1 : Int32))]))
        refine Go.pre (fun _ k => XS.istore X7.here hx rfl (hb hby at_45) rfl (l' := #[iv p1, iv p2, iv (p1 &&& (3 : Int32)), rv aF, iv (1 : Int32)]) rfl k) ?_
        show Go p e below _ (T7.setTop (mkF m 47 #[iv p1, iv p2, iv (p1 &&& (3 : Int32)), rv aF, iv (1 : Int32)] []))
        refine Go.pre (fun _ k => XS.goto X7.here hx rfl (pc0 := 47) (pc' := 90) rfl (hb hby at_47) (by decide) (by decide) k) ?_
        show Go p e below _ (T7.setTop (mkF m 90 #[iv p1, iv p2, iv (p1 &&& (3 : Int32)), rv aF, iv (1 : Int32)] []))
        refine Go.pre (fun _ k => XS.aloadN X7.here hx rfl (hb hby at_90) rfl rfl k) ?_
        show Go p e below _ (T7.setTop (mkF m 91 #[iv p1, iv p2, iv (p1 &&& (3 : Int32)), rv aF, iv (1 : Int32)] [(.ref aF)]))
        refine Go.pre (fun _ k => XS.iloadN X7.here hx rfl (hb hby at_91) rfl k) ?_
        show Go p e below _ (T7.setTop (mkF m 92 #[iv p1, iv p2, iv (p1 &&& (3 : Int32)), rv aF, iv (1 : Int32)] [(.int p2), (.ref aF)]))
        obtain ⟨cq9, kq9, q9a, q9b, q9c⟩ := isOf hZ e7 E_aF
        obtain ⟨_, _, ⟨T9, L9, k9, n9⟩, -, X9, ⟨Lc9, hQ9, l9, y9, z9⟩, st9⟩ := X7.virtualBack hx (y := (⟨"com/example/focalgram/focalgram/cli/Command$Operands", "allows", "(I)Z"⟩ : MethodName)) (z := (⟨"com/example/focalgram/focalgram/cli/Command$Operands", "allows", "(I)Z"⟩ : MethodName)) hown (mvT hZ (hw _ (List.mem_of_getElem? (i := 3) rfl))) (mvT hZ (hw _ (List.mem_of_getElem? (i := 4) rfl))) (notFace_of_selects (args := #[]) (mvT hZ (hw _ (List.mem_of_getElem? (i := 6) rfl)))) (mvT hZ (hw _ (List.mem_of_getElem? (i := 6) rfl))) (mvT hZ (hw _ (List.mem_of_getElem? (i := 5) rfl))) (by decide) (backOf (W := 0) (rm_al l Z a0 hw [] aF p2 (1 : Int32) (1 : Int32) h0 n0 Z0 Ff_aF Fm_aF) hZ (hw _ (List.mem_of_getElem? (i := 7) rfl)) (hw _ (List.mem_of_getElem? (i := 1) rfl)) (by decide) (by decide)) q9a q9c (g := (mkF m 92 #[iv p1, iv p2, iv (p1 &&& (3 : Int32)), rv aF, iv (1 : Int32)] [(.int p2), (.ref aF)])) rfl (by rw [hml]; rfl) (Steps.refl _) (argsL := [(.int p2)]) (rest := []) (lenOf pd_0 rfl) rfl (by show 2 * 0 + _ ≤ _; exact Nat.le_of_eq rfl) (hb hby at_92) (fun _ _ => ⟨rfl, e7, (by decide : 0 + 0 ≤ _), (by decide : 0 + 0 ≤ _)⟩)
        dsimp only [Pt.U, Pt.locs, Pt.cells, Pt.slots] at X9 l9 y9 z9 st9 hQ9
        subst l9 y9 z9
        refine Go.pre (own_cut st9) ?_
        rcases hQ9 with ⟨hp9, rfl, N9q, eh9⟩ | ⟨hp9, rfl, N9q, eh9⟩
        · skip
          have N9 := Fr.app N0 N9q
          show Go p e below _ (T9.setTop (mkF m 95 #[iv p1, iv p2, iv (p1 &&& (3 : Int32)), rv aF, iv (1 : Int32)] [(.int (1 : Int32))]))
          refine Go.pre (fun _ k => XS.iload X9.here hx rfl (hb hby at_95) rfl k) ?_
          show Go p e below _ (T9.setTop (mkF m 97 #[iv p1, iv p2, iv (p1 &&& (3 : Int32)), rv aF, iv (1 : Int32)] [(.int (1 : Int32)), (.int (1 : Int32))]))
          refine Go.pre (fun _ k => XS.icmpNo X9.here hx rfl (hb hby at_97) rfl (teq (by decide : (1 : Int32) = (1 : Int32))).2 k) ?_
          show Go p e below _ (T9.setTop (mkF m 100 #[iv p1, iv p2, iv (p1 &&& (3 : Int32)), rv aF, iv (1 : Int32)] []))
          refine Go.pre (fun _ k => XS.iconst X9.here hx rfl (hb hby at_100) k) ?_
          show Go p e below _ (T9.setTop (mkF m 101 #[iv p1, iv p2, iv (p1 &&& (3 : Int32)), rv aF, iv (1 : Int32)] [(.int (1 : Int32))]))
          refine Go.pre (fun _ k => XS.goto X9.here hx rfl (pc0 := 101) (pc' := 105) rfl (hb hby at_101) (by decide) (by decide) k) ?_
          show Go p e below _ (T9.setTop (mkF m 105 #[iv p1, iv p2, iv (p1 &&& (3 : Int32)), rv aF, iv (1 : Int32)] [(.int (1 : Int32))]))
          obtain ⟨fs, hr, hrun, hended, hW, hsame⟩ := X9.leave (v := some (.int (1 : Int32))) (fun h => by rw [Bd.returns] at h; cases h)
          refine Go.fin (retN X9 hx (t := .boolean) Bd.returns (by simp) (hb hby at_105) hr) ⟨hrun, hended, _, _, rfl, ?_, ⟨_, rfl⟩, hW, hsame.mono (by decide) (by decide)⟩
          exact ⟨rfl, N9⟩
        · skip
          have N9 := Fr.app N0 N9q
          show Go p e below _ (T9.setTop (mkF m 95 #[iv p1, iv p2, iv (p1 &&& (3 : Int32)), rv aF, iv (1 : Int32)] [(.int (0 : Int32))]))
          refine Go.pre (fun _ k => XS.iload X9.here hx rfl (hb hby at_95) rfl k) ?_
          show Go p e below _ (T9.setTop (mkF m 97 #[iv p1, iv p2, iv (p1 &&& (3 : Int32)), rv aF, iv (1 : Int32)] [(.int (1 : Int32)), (.int (0 : Int32))]))
          refine Go.pre (fun _ k => XS.icmpYes X9.here hx rfl (pc0 := 97) (pc' := 104) rfl (hb hby at_97) rfl (feq (by decide : ¬ ((0 : Int32) = (1 : Int32)))).2 (by decide) (by decide) k) ?_
          show Go p e below _ (T9.setTop (mkF m 104 #[iv p1, iv p2, iv (p1 &&& (3 : Int32)), rv aF, iv (1 : Int32)] []))
          refine Go.pre (fun _ k => XS.iconst X9.here hx rfl (hb hby at_104) k) ?_
          show Go p e below _ (T9.setTop (mkF m 105 #[iv p1, iv p2, iv (p1 &&& (3 : Int32)), rv aF, iv (1 : Int32)] [(.int (0 : Int32))]))
          exfalso
          simp only [Int32.lt_iff_toInt_lt, ← Int32.toInt_inj, own_i0, own_i1, own_i2, own_iM] at hp9 hc37_8
          have hub := Int32.toInt_lt p2
          omega
      · skip
        refine Go.pre (fun _ k => XS.icmpYes X7.here hx rfl (pc0 := 37) (pc' := 44) rfl (hb hby at_37) rfl (feq hc37_8).2 (by decide) (by decide) k) ?_
        show Go p e below _ (T7.setTop (mkF m 44 #[iv p1, iv p2, iv (p1 &&& (3 : Int32)), rv aF, .unset] []))
        refine Go.pre (fun _ k => XS.iconst X7.here hx rfl (hb hby at_44) k) ?_
        show Go p e below _ (T7.setTop (mkF m 45 #[iv p1, iv p2, iv (p1 &&& (3 : Int32)), rv aF, .unset] [(.int (0 : Int32))]))
        refine Go.pre (fun _ k => XS.istore X7.here hx rfl (hb hby at_45) rfl (l' := #[iv p1, iv p2, iv (p1 &&& (3 : Int32)), rv aF, iv (0 : Int32)]) rfl k) ?_
        show Go p e below _ (T7.setTop (mkF m 47 #[iv p1, iv p2, iv (p1 &&& (3 : Int32)), rv aF, iv (0 : Int32)] []))
        refine Go.pre (fun _ k => XS.goto X7.here hx rfl (pc0 := 47) (pc' := 90) rfl (hb hby at_47) (by decide) (by decide) k) ?_
        show Go p e below _ (T7.setTop (mkF m 90 #[iv p1, iv p2, iv (p1 &&& (3 : Int32)), rv aF, iv (0 : Int32)] []))
        refine Go.pre (fun _ k => XS.aloadN X7.here hx rfl (hb hby at_90) rfl rfl k) ?_
        show Go p e below _ (T7.setTop (mkF m 91 #[iv p1, iv p2, iv (p1 &&& (3 : Int32)), rv aF, iv (0 : Int32)] [(.ref aF)]))
        refine Go.pre (fun _ k => XS.iloadN X7.here hx rfl (hb hby at_91) rfl k) ?_
        show Go p e below _ (T7.setTop (mkF m 92 #[iv p1, iv p2, iv (p1 &&& (3 : Int32)), rv aF, iv (0 : Int32)] [(.int p2), (.ref aF)]))
        obtain ⟨cq10, kq10, q10a, q10b, q10c⟩ := isOf hZ e7 E_aF
        obtain ⟨_, _, ⟨T10, L10, k10, n10⟩, -, X10, ⟨Lc10, hQ10, l10, y10, z10⟩, st10⟩ := X7.virtualBack hx (y := (⟨"com/example/focalgram/focalgram/cli/Command$Operands", "allows", "(I)Z"⟩ : MethodName)) (z := (⟨"com/example/focalgram/focalgram/cli/Command$Operands", "allows", "(I)Z"⟩ : MethodName)) hown (mvT hZ (hw _ (List.mem_of_getElem? (i := 3) rfl))) (mvT hZ (hw _ (List.mem_of_getElem? (i := 4) rfl))) (notFace_of_selects (args := #[]) (mvT hZ (hw _ (List.mem_of_getElem? (i := 6) rfl)))) (mvT hZ (hw _ (List.mem_of_getElem? (i := 6) rfl))) (mvT hZ (hw _ (List.mem_of_getElem? (i := 5) rfl))) (by decide) (backOf (W := 0) (rm_al l Z a0 hw [] aF p2 (1 : Int32) (1 : Int32) h0 n0 Z0 Ff_aF Fm_aF) hZ (hw _ (List.mem_of_getElem? (i := 7) rfl)) (hw _ (List.mem_of_getElem? (i := 1) rfl)) (by decide) (by decide)) q10a q10c (g := (mkF m 92 #[iv p1, iv p2, iv (p1 &&& (3 : Int32)), rv aF, iv (0 : Int32)] [(.int p2), (.ref aF)])) rfl (by rw [hml]; rfl) (Steps.refl _) (argsL := [(.int p2)]) (rest := []) (lenOf pd_0 rfl) rfl (by show 2 * 0 + _ ≤ _; exact Nat.le_of_eq rfl) (hb hby at_92) (fun _ _ => ⟨rfl, e7, (by decide : 0 + 0 ≤ _), (by decide : 0 + 0 ≤ _)⟩)
        dsimp only [Pt.U, Pt.locs, Pt.cells, Pt.slots] at X10 l10 y10 z10 st10 hQ10
        subst l10 y10 z10
        refine Go.pre (own_cut st10) ?_
        rcases hQ10 with ⟨hp10, rfl, N10q, eh10⟩ | ⟨hp10, rfl, N10q, eh10⟩
        · skip
          have N10 := Fr.app N0 N10q
          show Go p e below _ (T10.setTop (mkF m 95 #[iv p1, iv p2, iv (p1 &&& (3 : Int32)), rv aF, iv (0 : Int32)] [(.int (1 : Int32))]))
          refine Go.pre (fun _ k => XS.iload X10.here hx rfl (hb hby at_95) rfl k) ?_
          show Go p e below _ (T10.setTop (mkF m 97 #[iv p1, iv p2, iv (p1 &&& (3 : Int32)), rv aF, iv (0 : Int32)] [(.int (0 : Int32)), (.int (1 : Int32))]))
          refine Go.pre (fun _ k => XS.icmpYes X10.here hx rfl (pc0 := 97) (pc' := 104) rfl (hb hby at_97) rfl (feq (by decide : ¬ ((1 : Int32) = (0 : Int32)))).2 (by decide) (by decide) k) ?_
          show Go p e below _ (T10.setTop (mkF m 104 #[iv p1, iv p2, iv (p1 &&& (3 : Int32)), rv aF, iv (0 : Int32)] []))
          refine Go.pre (fun _ k => XS.iconst X10.here hx rfl (hb hby at_104) k) ?_
          show Go p e below _ (T10.setTop (mkF m 105 #[iv p1, iv p2, iv (p1 &&& (3 : Int32)), rv aF, iv (0 : Int32)] [(.int (0 : Int32))]))
          exfalso
          simp only [Int32.lt_iff_toInt_lt, ← Int32.toInt_inj, own_i0, own_i1, own_i2, own_iM] at hp10 hc37_8
          have hub := Int32.toInt_lt p2
          omega
        · skip
          have N10 := Fr.app N0 N10q
          show Go p e below _ (T10.setTop (mkF m 95 #[iv p1, iv p2, iv (p1 &&& (3 : Int32)), rv aF, iv (0 : Int32)] [(.int (0 : Int32))]))
          refine Go.pre (fun _ k => XS.iload X10.here hx rfl (hb hby at_95) rfl k) ?_
          show Go p e below _ (T10.setTop (mkF m 97 #[iv p1, iv p2, iv (p1 &&& (3 : Int32)), rv aF, iv (0 : Int32)] [(.int (0 : Int32)), (.int (0 : Int32))]))
          refine Go.pre (fun _ k => XS.icmpNo X10.here hx rfl (hb hby at_97) rfl (teq (by decide : (0 : Int32) = (0 : Int32))).2 k) ?_
          show Go p e below _ (T10.setTop (mkF m 100 #[iv p1, iv p2, iv (p1 &&& (3 : Int32)), rv aF, iv (0 : Int32)] []))
          refine Go.pre (fun _ k => XS.iconst X10.here hx rfl (hb hby at_100) k) ?_
          show Go p e below _ (T10.setTop (mkF m 101 #[iv p1, iv p2, iv (p1 &&& (3 : Int32)), rv aF, iv (0 : Int32)] [(.int (1 : Int32))]))
          refine Go.pre (fun _ k => XS.goto X10.here hx rfl (pc0 := 101) (pc' := 105) rfl (hb hby at_101) (by decide) (by decide) k) ?_
          show Go p e below _ (T10.setTop (mkF m 105 #[iv p1, iv p2, iv (p1 &&& (3 : Int32)), rv aF, iv (0 : Int32)] [(.int (1 : Int32))]))
          obtain ⟨fs, hr, hrun, hended, hW, hsame⟩ := X10.leave (v := some (.int (1 : Int32))) (fun h => by rw [Bd.returns] at h; cases h)
          refine Go.fin (retN X10 hx (t := .boolean) Bd.returns (by simp) (hb hby at_105) hr) ⟨hrun, hended, _, _, rfl, ?_, ⟨_, rfl⟩, hW, hsame.mono (by decide) (by decide)⟩
          exact ⟨rfl, N10⟩
    · skip
      refine Go.pre (fun _ k => XS.icmpYes X0.here hx rfl (pc0 := 28) (pc' := 50) rfl (hb hby at_28) rfl (feq hc28_6).2 (by decide) (by decide) k) ?_
      show Go p e below _ (s₁.setTop (mkF m 50 #[iv p1, iv p2, iv (p1 &&& (3 : Int32)), .unset, .unset] []))
      refine Go.pre (fun _ k => XS.iloadN X0.here hx rfl (hb hby at_50) rfl k) ?_
      show Go p e below _ (s₁.setTop (mkF m 51 #[iv p1, iv p2, iv (p1 &&& (3 : Int32)), .unset, .unset] [(.int (p1 &&& (3 : Int32)))]))
      refine Go.pre (fun _ k => XS.iconst X0.here hx rfl (hb hby at_51) k) ?_
      show Go p e below _ (s₁.setTop (mkF m 52 #[iv p1, iv p2, iv (p1 &&& (3 : Int32)), .unset, .unset] [(.int (2 : Int32)), (.int (p1 &&& (3 : Int32)))]))
      by_cases hc52_11 : (p1 &&& (3 : Int32)) = (2 : Int32)
      · skip
        refine Go.pre (fun _ k => XS.icmpNo X0.here hx rfl (hb hby at_52) rfl (teq hc52_11).2 k) ?_
        show Go p e below _ (s₁.setTop (mkF m 55 #[iv p1, iv p2, iv (p1 &&& (3 : Int32)), .unset, .unset] []))
        obtain ⟨T12, X12, e12, st12⟩ := getS2 X0 hx hZ hown (host := "") (Or.inl (hw _ (List.mem_of_getElem? (i := 12) rfl))) Via.refl e0 S_aS (g := (mkF m 55 #[iv p1, iv p2, iv (p1 &&& (3 : Int32)), .unset, .unset] [])) rfl (hb hby at_55)
        refine Go.pre st12 ?_
        show Go p e below _ (T12.setTop (mkF m 58 #[iv p1, iv p2, iv (p1 &&& (3 : Int32)), .unset, .unset] [(.ref aS)]))
        refine Go.pre (fun _ k => XS.astoreN X12.here hx rfl (hb hby at_58) rfl rfl (l' := #[iv p1, iv p2, iv (p1 &&& (3 : Int32)), rv aS, .unset]) rfl k) ?_
        show Go p e below _ (T12.setTop (mkF m 59 #[iv p1, iv p2, iv (p1 &&& (3 : Int32)), rv aS, .unset] []))
        refine Go.pre (fun _ k => XS.iloadN X12.here hx rfl (hb hby at_59) rfl k) ?_
        show Go p e below _ (T12.setTop (mkF m 60 #[iv p1, iv p2, iv (p1 &&& (3 : Int32)), rv aS, .unset] [(.int p2)]))
        refine Go.pre (fun _ k => XS.iconst X12.here hx rfl (hb hby at_60) k) ?_
        show Go p e below _ (T12.setTop (mkF m 61 #[iv p1, iv p2, iv (p1 &&& (3 : Int32)), rv aS, .unset] [(.int (1 : Int32)), (.int p2)]))
        by_cases hc61_13 : p2 < (1 : Int32)
        · skip
          refine Go.pre (fun _ k => XS.icmpYes X12.here hx rfl (pc0 := 61) (pc' := 68) rfl (hb hby at_61) rfl (tlt hc61_13).1 (by decide) (by decide) k) ?_
          show Go p e below _ (T12.setTop (mkF m 68 #[iv p1, iv p2, iv (p1 &&& (3 : Int32)), rv aS, .unset] []))
          refine Go.pre (fun _ k => XS.iconst X12.here hx rfl (hb hby at_68) k) ?_
          show Go p e below _ (T12.setTop (mkF m 69 #[iv p1, iv p2, iv (p1 &&& (3 : Int32)), rv aS, .unset] [(.int (0 : Int32))]))
          refine Go.pre (fun _ k => XS.istore X12.here hx rfl (hb hby at_69) rfl (l' := #[iv p1, iv p2, iv (p1 &&& (3 : Int32)), rv aS, iv (0 : Int32)]) rfl k) ?_
          show Go p e below _ (T12.setTop (mkF m 71 #[iv p1, iv p2, iv (p1 &&& (3 : Int32)), rv aS, iv (0 : Int32)] []))
          refine Go.pre (fun _ k => XS.goto X12.here hx rfl (pc0 := 71) (pc' := 90) rfl (hb hby at_71) (by decide) (by decide) k) ?_
          show Go p e below _ (T12.setTop (mkF m 90 #[iv p1, iv p2, iv (p1 &&& (3 : Int32)), rv aS, iv (0 : Int32)] []))
          refine Go.pre (fun _ k => XS.aloadN X12.here hx rfl (hb hby at_90) rfl rfl k) ?_
          show Go p e below _ (T12.setTop (mkF m 91 #[iv p1, iv p2, iv (p1 &&& (3 : Int32)), rv aS, iv (0 : Int32)] [(.ref aS)]))
          refine Go.pre (fun _ k => XS.iloadN X12.here hx rfl (hb hby at_91) rfl k) ?_
          show Go p e below _ (T12.setTop (mkF m 92 #[iv p1, iv p2, iv (p1 &&& (3 : Int32)), rv aS, iv (0 : Int32)] [(.int p2), (.ref aS)]))
          obtain ⟨cq14, kq14, q14a, q14b, q14c⟩ := isOf hZ e12 E_aS
          obtain ⟨_, _, ⟨T14, L14, k14, n14⟩, -, X14, ⟨Lc14, hQ14, l14, y14, z14⟩, st14⟩ := X12.virtualBack hx (y := (⟨"com/example/focalgram/focalgram/cli/Command$Operands", "allows", "(I)Z"⟩ : MethodName)) (z := (⟨"com/example/focalgram/focalgram/cli/Command$Operands", "allows", "(I)Z"⟩ : MethodName)) hown (mvT hZ (hw _ (List.mem_of_getElem? (i := 3) rfl))) (mvT hZ (hw _ (List.mem_of_getElem? (i := 4) rfl))) (notFace_of_selects (args := #[]) (mvT hZ (hw _ (List.mem_of_getElem? (i := 6) rfl)))) (mvT hZ (hw _ (List.mem_of_getElem? (i := 6) rfl))) (mvT hZ (hw _ (List.mem_of_getElem? (i := 5) rfl))) (by decide) (backOf (W := 0) (rm_al l Z a0 hw [] aS p2 (1 : Int32) (2147483647 : Int32) h0 n0 Z0 Ff_aS Fm_aS) hZ (hw _ (List.mem_of_getElem? (i := 7) rfl)) (hw _ (List.mem_of_getElem? (i := 1) rfl)) (by decide) (by decide)) q14a q14c (g := (mkF m 92 #[iv p1, iv p2, iv (p1 &&& (3 : Int32)), rv aS, iv (0 : Int32)] [(.int p2), (.ref aS)])) rfl (by rw [hml]; rfl) (Steps.refl _) (argsL := [(.int p2)]) (rest := []) (lenOf pd_0 rfl) rfl (by show 2 * 0 + _ ≤ _; exact Nat.le_of_eq rfl) (hb hby at_92) (fun _ _ => ⟨rfl, e12, (by decide : 0 + 0 ≤ _), (by decide : 0 + 0 ≤ _)⟩)
          dsimp only [Pt.U, Pt.locs, Pt.cells, Pt.slots] at X14 l14 y14 z14 st14 hQ14
          subst l14 y14 z14
          refine Go.pre (own_cut st14) ?_
          rcases hQ14 with ⟨hp14, rfl, N14q, eh14⟩ | ⟨hp14, rfl, N14q, eh14⟩
          · skip
            have N14 := Fr.app N0 N14q
            show Go p e below _ (T14.setTop (mkF m 95 #[iv p1, iv p2, iv (p1 &&& (3 : Int32)), rv aS, iv (0 : Int32)] [(.int (1 : Int32))]))
            refine Go.pre (fun _ k => XS.iload X14.here hx rfl (hb hby at_95) rfl k) ?_
            show Go p e below _ (T14.setTop (mkF m 97 #[iv p1, iv p2, iv (p1 &&& (3 : Int32)), rv aS, iv (0 : Int32)] [(.int (0 : Int32)), (.int (1 : Int32))]))
            refine Go.pre (fun _ k => XS.icmpYes X14.here hx rfl (pc0 := 97) (pc' := 104) rfl (hb hby at_97) rfl (feq (by decide : ¬ ((1 : Int32) = (0 : Int32)))).2 (by decide) (by decide) k) ?_
            show Go p e below _ (T14.setTop (mkF m 104 #[iv p1, iv p2, iv (p1 &&& (3 : Int32)), rv aS, iv (0 : Int32)] []))
            refine Go.pre (fun _ k => XS.iconst X14.here hx rfl (hb hby at_104) k) ?_
            show Go p e below _ (T14.setTop (mkF m 105 #[iv p1, iv p2, iv (p1 &&& (3 : Int32)), rv aS, iv (0 : Int32)] [(.int (0 : Int32))]))
            exfalso
            simp only [Int32.lt_iff_toInt_lt, ← Int32.toInt_inj, own_i0, own_i1, own_i2, own_iM] at hp14 hc61_13
            have hub := Int32.toInt_lt p2
            omega
          · skip
            have N14 := Fr.app N0 N14q
            show Go p e below _ (T14.setTop (mkF m 95 #[iv p1, iv p2, iv (p1 &&& (3 : Int32)), rv aS, iv (0 : Int32)] [(.int (0 : Int32))]))
            refine Go.pre (fun _ k => XS.iload X14.here hx rfl (hb hby at_95) rfl k) ?_
            show Go p e below _ (T14.setTop (mkF m 97 #[iv p1, iv p2, iv (p1 &&& (3 : Int32)), rv aS, iv (0 : Int32)] [(.int (0 : Int32)), (.int (0 : Int32))]))
            refine Go.pre (fun _ k => XS.icmpNo X14.here hx rfl (hb hby at_97) rfl (teq (by decide : (0 : Int32) = (0 : Int32))).2 k) ?_
            show Go p e below _ (T14.setTop (mkF m 100 #[iv p1, iv p2, iv (p1 &&& (3 : Int32)), rv aS, iv (0 : Int32)] []))
            refine Go.pre (fun _ k => XS.iconst X14.here hx rfl (hb hby at_100) k) ?_
            show Go p e below _ (T14.setTop (mkF m 101 #[iv p1, iv p2, iv (p1 &&& (3 : Int32)), rv aS, iv (0 : Int32)] [(.int (1 : Int32))]))
            refine Go.pre (fun _ k => XS.goto X14.here hx rfl (pc0 := 101) (pc' := 105) rfl (hb hby at_101) (by decide) (by decide) k) ?_
            show Go p e below _ (T14.setTop (mkF m 105 #[iv p1, iv p2, iv (p1 &&& (3 : Int32)), rv aS, iv (0 : Int32)] [(.int (1 : Int32))]))
            obtain ⟨fs, hr, hrun, hended, hW, hsame⟩ := X14.leave (v := some (.int (1 : Int32))) (fun h => by rw [Bd.returns] at h; cases h)
            refine Go.fin (retN X14 hx (t := .boolean) Bd.returns (by simp) (hb hby at_105) hr) ⟨hrun, hended, _, _, rfl, ?_, ⟨_, rfl⟩, hW, hsame.mono (by decide) (by decide)⟩
            exact ⟨rfl, N14⟩
        · skip
          refine Go.pre (fun _ k => XS.icmpNo X12.here hx rfl (hb hby at_61) rfl (flt hc61_13).1 k) ?_
          show Go p e below _ (T12.setTop (mkF m 64 #[iv p1, iv p2, iv (p1 &&& (3 : Int32)), rv aS, .unset] []))
          refine Go.pre (fun _ k => XS.iconst X12.here hx rfl (hb hby at_64) k) ?_
          show Go p e below _ (T12.setTop (mkF m 65 #[iv p1, iv p2, iv (p1 &&& (3 : Int32)), rv aS, .unset] [(.int (1 : Int32))]))
          refine Go.pre (fun _ k => XS.goto X12.here hx rfl (pc0 := 65) (pc' := 69) rfl (hb hby at_65) (by decide) (by decide) k) ?_
          show Go p e below _ (T12.setTop (mkF m 69 #[iv p1, iv p2, iv (p1 &&& (3 : Int32)), rv aS, .unset] [(.int (1 : Int32))]))
          refine Go.pre (fun _ k => XS.istore X12.here hx rfl (hb hby at_69) rfl (l' := #[iv p1, iv p2, iv (p1 &&& (3 : Int32)), rv aS, iv (1 : Int32)]) rfl k) ?_
          show Go p e below _ (T12.setTop (mkF m 71 #[iv p1, iv p2, iv (p1 &&& (3 : Int32)), rv aS, iv (1 : Int32)] []))
          refine Go.pre (fun _ k => XS.goto X12.here hx rfl (pc0 := 71) (pc' := 90) rfl (hb hby at_71) (by decide) (by decide) k) ?_
          show Go p e below _ (T12.setTop (mkF m 90 #[iv p1, iv p2, iv (p1 &&& (3 : Int32)), rv aS, iv (1 : Int32)] []))
          refine Go.pre (fun _ k => XS.aloadN X12.here hx rfl (hb hby at_90) rfl rfl k) ?_
          show Go p e below _ (T12.setTop (mkF m 91 #[iv p1, iv p2, iv (p1 &&& (3 : Int32)), rv aS, iv (1 : Int32)] [(.ref aS)]))
          refine Go.pre (fun _ k => XS.iloadN X12.here hx rfl (hb hby at_91) rfl k) ?_
          show Go p e below _ (T12.setTop (mkF m 92 #[iv p1, iv p2, iv (p1 &&& (3 : Int32)), rv aS, iv (1 : Int32)] [(.int p2), (.ref aS)]))
          obtain ⟨cq15, kq15, q15a, q15b, q15c⟩ := isOf hZ e12 E_aS
          obtain ⟨_, _, ⟨T15, L15, k15, n15⟩, -, X15, ⟨Lc15, hQ15, l15, y15, z15⟩, st15⟩ := X12.virtualBack hx (y := (⟨"com/example/focalgram/focalgram/cli/Command$Operands", "allows", "(I)Z"⟩ : MethodName)) (z := (⟨"com/example/focalgram/focalgram/cli/Command$Operands", "allows", "(I)Z"⟩ : MethodName)) hown (mvT hZ (hw _ (List.mem_of_getElem? (i := 3) rfl))) (mvT hZ (hw _ (List.mem_of_getElem? (i := 4) rfl))) (notFace_of_selects (args := #[]) (mvT hZ (hw _ (List.mem_of_getElem? (i := 6) rfl)))) (mvT hZ (hw _ (List.mem_of_getElem? (i := 6) rfl))) (mvT hZ (hw _ (List.mem_of_getElem? (i := 5) rfl))) (by decide) (backOf (W := 0) (rm_al l Z a0 hw [] aS p2 (1 : Int32) (2147483647 : Int32) h0 n0 Z0 Ff_aS Fm_aS) hZ (hw _ (List.mem_of_getElem? (i := 7) rfl)) (hw _ (List.mem_of_getElem? (i := 1) rfl)) (by decide) (by decide)) q15a q15c (g := (mkF m 92 #[iv p1, iv p2, iv (p1 &&& (3 : Int32)), rv aS, iv (1 : Int32)] [(.int p2), (.ref aS)])) rfl (by rw [hml]; rfl) (Steps.refl _) (argsL := [(.int p2)]) (rest := []) (lenOf pd_0 rfl) rfl (by show 2 * 0 + _ ≤ _; exact Nat.le_of_eq rfl) (hb hby at_92) (fun _ _ => ⟨rfl, e12, (by decide : 0 + 0 ≤ _), (by decide : 0 + 0 ≤ _)⟩)
          dsimp only [Pt.U, Pt.locs, Pt.cells, Pt.slots] at X15 l15 y15 z15 st15 hQ15
          subst l15 y15 z15
          refine Go.pre (own_cut st15) ?_
          rcases hQ15 with ⟨hp15, rfl, N15q, eh15⟩ | ⟨hp15, rfl, N15q, eh15⟩
          · skip
            have N15 := Fr.app N0 N15q
            show Go p e below _ (T15.setTop (mkF m 95 #[iv p1, iv p2, iv (p1 &&& (3 : Int32)), rv aS, iv (1 : Int32)] [(.int (1 : Int32))]))
            refine Go.pre (fun _ k => XS.iload X15.here hx rfl (hb hby at_95) rfl k) ?_
            show Go p e below _ (T15.setTop (mkF m 97 #[iv p1, iv p2, iv (p1 &&& (3 : Int32)), rv aS, iv (1 : Int32)] [(.int (1 : Int32)), (.int (1 : Int32))]))
            refine Go.pre (fun _ k => XS.icmpNo X15.here hx rfl (hb hby at_97) rfl (teq (by decide : (1 : Int32) = (1 : Int32))).2 k) ?_
            show Go p e below _ (T15.setTop (mkF m 100 #[iv p1, iv p2, iv (p1 &&& (3 : Int32)), rv aS, iv (1 : Int32)] []))
            refine Go.pre (fun _ k => XS.iconst X15.here hx rfl (hb hby at_100) k) ?_
            show Go p e below _ (T15.setTop (mkF m 101 #[iv p1, iv p2, iv (p1 &&& (3 : Int32)), rv aS, iv (1 : Int32)] [(.int (1 : Int32))]))
            refine Go.pre (fun _ k => XS.goto X15.here hx rfl (pc0 := 101) (pc' := 105) rfl (hb hby at_101) (by decide) (by decide) k) ?_
            show Go p e below _ (T15.setTop (mkF m 105 #[iv p1, iv p2, iv (p1 &&& (3 : Int32)), rv aS, iv (1 : Int32)] [(.int (1 : Int32))]))
            obtain ⟨fs, hr, hrun, hended, hW, hsame⟩ := X15.leave (v := some (.int (1 : Int32))) (fun h => by rw [Bd.returns] at h; cases h)
            refine Go.fin (retN X15 hx (t := .boolean) Bd.returns (by simp) (hb hby at_105) hr) ⟨hrun, hended, _, _, rfl, ?_, ⟨_, rfl⟩, hW, hsame.mono (by decide) (by decide)⟩
            exact ⟨rfl, N15⟩
          · skip
            have N15 := Fr.app N0 N15q
            show Go p e below _ (T15.setTop (mkF m 95 #[iv p1, iv p2, iv (p1 &&& (3 : Int32)), rv aS, iv (1 : Int32)] [(.int (0 : Int32))]))
            refine Go.pre (fun _ k => XS.iload X15.here hx rfl (hb hby at_95) rfl k) ?_
            show Go p e below _ (T15.setTop (mkF m 97 #[iv p1, iv p2, iv (p1 &&& (3 : Int32)), rv aS, iv (1 : Int32)] [(.int (1 : Int32)), (.int (0 : Int32))]))
            refine Go.pre (fun _ k => XS.icmpYes X15.here hx rfl (pc0 := 97) (pc' := 104) rfl (hb hby at_97) rfl (feq (by decide : ¬ ((0 : Int32) = (1 : Int32)))).2 (by decide) (by decide) k) ?_
            show Go p e below _ (T15.setTop (mkF m 104 #[iv p1, iv p2, iv (p1 &&& (3 : Int32)), rv aS, iv (1 : Int32)] []))
            refine Go.pre (fun _ k => XS.iconst X15.here hx rfl (hb hby at_104) k) ?_
            show Go p e below _ (T15.setTop (mkF m 105 #[iv p1, iv p2, iv (p1 &&& (3 : Int32)), rv aS, iv (1 : Int32)] [(.int (0 : Int32))]))
            exfalso
            simp only [Int32.lt_iff_toInt_lt, ← Int32.toInt_inj, own_i0, own_i1, own_i2, own_iM] at hp15 hc61_13
            have hub := Int32.toInt_lt p2
            omega
      · skip
        refine Go.pre (fun _ k => XS.icmpYes X0.here hx rfl (pc0 := 52) (pc' := 74) rfl (hb hby at_52) rfl (feq hc52_11).2 (by decide) (by decide) k) ?_
        show Go p e below _ (s₁.setTop (mkF m 74 #[iv p1, iv p2, iv (p1 &&& (3 : Int32)), .unset, .unset] []))
        obtain ⟨T16, X16, e16, st16⟩ := getS2 X0 hx hZ hown (host := "") (Or.inl (hw _ (List.mem_of_getElem? (i := 16) rfl))) Via.refl e0 S_aT (g := (mkF m 74 #[iv p1, iv p2, iv (p1 &&& (3 : Int32)), .unset, .unset] [])) rfl (hb hby at_74)
        refine Go.pre st16 ?_
        show Go p e below _ (T16.setTop (mkF m 77 #[iv p1, iv p2, iv (p1 &&& (3 : Int32)), .unset, .unset] [(.ref aT)]))
        refine Go.pre (fun _ k => XS.astoreN X16.here hx rfl (hb hby at_77) rfl rfl (l' := #[iv p1, iv p2, iv (p1 &&& (3 : Int32)), rv aT, .unset]) rfl k) ?_
        show Go p e below _ (T16.setTop (mkF m 78 #[iv p1, iv p2, iv (p1 &&& (3 : Int32)), rv aT, .unset] []))
        refine Go.pre (fun _ k => XS.iloadN X16.here hx rfl (hb hby at_78) rfl k) ?_
        show Go p e below _ (T16.setTop (mkF m 79 #[iv p1, iv p2, iv (p1 &&& (3 : Int32)), rv aT, .unset] [(.int p2)]))
        refine Go.pre (fun _ k => XS.iconst X16.here hx rfl (hb hby at_79) k) ?_
        show Go p e below _ (T16.setTop (mkF m 80 #[iv p1, iv p2, iv (p1 &&& (3 : Int32)), rv aT, .unset] [(.int (2 : Int32)), (.int p2)]))
        by_cases hc80_17 : p2 = (2 : Int32)
        · skip
          refine Go.pre (fun _ k => XS.icmpNo X16.here hx rfl (hb hby at_80) rfl (teq hc80_17).2 k) ?_
          show Go p e below _ (T16.setTop (mkF m 83 #[iv p1, iv p2, iv (p1 &&& (3 : Int32)), rv aT, .unset] []))
          refine Go.pre (fun _ k => XS.iconst X16.here hx rfl (hb hby at_83) k) ?_
          show Go p e below _ (T16.setTop (mkF m 84 #[iv p1, iv p2, iv (p1 &&& (3 : Int32)), rv aT, .unset] [(.int (1 : Int32))]))
          refine Go.pre (fun _ k => XS.goto X16.here hx rfl (pc0 := 84) (pc' := 88) rfl (hb hby at_84) (by decide) (by decide) k) ?_
          show Go p e below _ (T16.setTop (mkF m 88 #[iv p1, iv p2, iv (p1 &&& (3 : Int32)), rv aT, .unset] [(.int (1 : Int32))]))
          refine Go.pre (fun _ k => XS.istore X16.here hx rfl (hb hby at_88) rfl (l' := #[iv p1, iv p2, iv (p1 &&& (3 : Int32)), rv aT, iv (1 : Int32)]) rfl k) ?_
          show Go p e below _ (T16.setTop (mkF m 90 #[iv p1, iv p2, iv (p1 &&& (3 : Int32)), rv aT, iv (1 : Int32)] []))
          refine Go.pre (fun _ k => XS.aloadN X16.here hx rfl (hb hby at_90) rfl rfl k) ?_
          show Go p e below _ (T16.setTop (mkF m 91 #[iv p1, iv p2, iv (p1 &&& (3 : Int32)), rv aT, iv (1 : Int32)] [(.ref aT)]))
          refine Go.pre (fun _ k => XS.iloadN X16.here hx rfl (hb hby at_91) rfl k) ?_
          show Go p e below _ (T16.setTop (mkF m 92 #[iv p1, iv p2, iv (p1 &&& (3 : Int32)), rv aT, iv (1 : Int32)] [(.int p2), (.ref aT)]))
          obtain ⟨cq18, kq18, q18a, q18b, q18c⟩ := isOf hZ e16 E_aT
          obtain ⟨_, _, ⟨T18, L18, k18, n18⟩, -, X18, ⟨Lc18, hQ18, l18, y18, z18⟩, st18⟩ := X16.virtualBack hx (y := (⟨"com/example/focalgram/focalgram/cli/Command$Operands", "allows", "(I)Z"⟩ : MethodName)) (z := (⟨"com/example/focalgram/focalgram/cli/Command$Operands", "allows", "(I)Z"⟩ : MethodName)) hown (mvT hZ (hw _ (List.mem_of_getElem? (i := 3) rfl))) (mvT hZ (hw _ (List.mem_of_getElem? (i := 4) rfl))) (notFace_of_selects (args := #[]) (mvT hZ (hw _ (List.mem_of_getElem? (i := 6) rfl)))) (mvT hZ (hw _ (List.mem_of_getElem? (i := 6) rfl))) (mvT hZ (hw _ (List.mem_of_getElem? (i := 5) rfl))) (by decide) (backOf (W := 0) (rm_al l Z a0 hw [] aT p2 (2 : Int32) (2 : Int32) h0 n0 Z0 Ff_aT Fm_aT) hZ (hw _ (List.mem_of_getElem? (i := 7) rfl)) (hw _ (List.mem_of_getElem? (i := 1) rfl)) (by decide) (by decide)) q18a q18c (g := (mkF m 92 #[iv p1, iv p2, iv (p1 &&& (3 : Int32)), rv aT, iv (1 : Int32)] [(.int p2), (.ref aT)])) rfl (by rw [hml]; rfl) (Steps.refl _) (argsL := [(.int p2)]) (rest := []) (lenOf pd_0 rfl) rfl (by show 2 * 0 + _ ≤ _; exact Nat.le_of_eq rfl) (hb hby at_92) (fun _ _ => ⟨rfl, e16, (by decide : 0 + 0 ≤ _), (by decide : 0 + 0 ≤ _)⟩)
          dsimp only [Pt.U, Pt.locs, Pt.cells, Pt.slots] at X18 l18 y18 z18 st18 hQ18
          subst l18 y18 z18
          refine Go.pre (own_cut st18) ?_
          rcases hQ18 with ⟨hp18, rfl, N18q, eh18⟩ | ⟨hp18, rfl, N18q, eh18⟩
          · skip
            have N18 := Fr.app N0 N18q
            show Go p e below _ (T18.setTop (mkF m 95 #[iv p1, iv p2, iv (p1 &&& (3 : Int32)), rv aT, iv (1 : Int32)] [(.int (1 : Int32))]))
            refine Go.pre (fun _ k => XS.iload X18.here hx rfl (hb hby at_95) rfl k) ?_
            show Go p e below _ (T18.setTop (mkF m 97 #[iv p1, iv p2, iv (p1 &&& (3 : Int32)), rv aT, iv (1 : Int32)] [(.int (1 : Int32)), (.int (1 : Int32))]))
            refine Go.pre (fun _ k => XS.icmpNo X18.here hx rfl (hb hby at_97) rfl (teq (by decide : (1 : Int32) = (1 : Int32))).2 k) ?_
            show Go p e below _ (T18.setTop (mkF m 100 #[iv p1, iv p2, iv (p1 &&& (3 : Int32)), rv aT, iv (1 : Int32)] []))
            refine Go.pre (fun _ k => XS.iconst X18.here hx rfl (hb hby at_100) k) ?_
            show Go p e below _ (T18.setTop (mkF m 101 #[iv p1, iv p2, iv (p1 &&& (3 : Int32)), rv aT, iv (1 : Int32)] [(.int (1 : Int32))]))
            refine Go.pre (fun _ k => XS.goto X18.here hx rfl (pc0 := 101) (pc' := 105) rfl (hb hby at_101) (by decide) (by decide) k) ?_
            show Go p e below _ (T18.setTop (mkF m 105 #[iv p1, iv p2, iv (p1 &&& (3 : Int32)), rv aT, iv (1 : Int32)] [(.int (1 : Int32))]))
            obtain ⟨fs, hr, hrun, hended, hW, hsame⟩ := X18.leave (v := some (.int (1 : Int32))) (fun h => by rw [Bd.returns] at h; cases h)
            refine Go.fin (retN X18 hx (t := .boolean) Bd.returns (by simp) (hb hby at_105) hr) ⟨hrun, hended, _, _, rfl, ?_, ⟨_, rfl⟩, hW, hsame.mono (by decide) (by decide)⟩
            exact ⟨rfl, N18⟩
          · skip
            have N18 := Fr.app N0 N18q
            show Go p e below _ (T18.setTop (mkF m 95 #[iv p1, iv p2, iv (p1 &&& (3 : Int32)), rv aT, iv (1 : Int32)] [(.int (0 : Int32))]))
            refine Go.pre (fun _ k => XS.iload X18.here hx rfl (hb hby at_95) rfl k) ?_
            show Go p e below _ (T18.setTop (mkF m 97 #[iv p1, iv p2, iv (p1 &&& (3 : Int32)), rv aT, iv (1 : Int32)] [(.int (1 : Int32)), (.int (0 : Int32))]))
            refine Go.pre (fun _ k => XS.icmpYes X18.here hx rfl (pc0 := 97) (pc' := 104) rfl (hb hby at_97) rfl (feq (by decide : ¬ ((0 : Int32) = (1 : Int32)))).2 (by decide) (by decide) k) ?_
            show Go p e below _ (T18.setTop (mkF m 104 #[iv p1, iv p2, iv (p1 &&& (3 : Int32)), rv aT, iv (1 : Int32)] []))
            refine Go.pre (fun _ k => XS.iconst X18.here hx rfl (hb hby at_104) k) ?_
            show Go p e below _ (T18.setTop (mkF m 105 #[iv p1, iv p2, iv (p1 &&& (3 : Int32)), rv aT, iv (1 : Int32)] [(.int (0 : Int32))]))
            exfalso
            simp only [Int32.lt_iff_toInt_lt, ← Int32.toInt_inj, own_i0, own_i1, own_i2, own_iM] at hp18 hc80_17
            have hub := Int32.toInt_lt p2
            omega
        · skip
          refine Go.pre (fun _ k => XS.icmpYes X16.here hx rfl (pc0 := 80) (pc' := 87) rfl (hb hby at_80) rfl (feq hc80_17).2 (by decide) (by decide) k) ?_
          show Go p e below _ (T16.setTop (mkF m 87 #[iv p1, iv p2, iv (p1 &&& (3 : Int32)), rv aT, .unset] []))
          refine Go.pre (fun _ k => XS.iconst X16.here hx rfl (hb hby at_87) k) ?_
          show Go p e below _ (T16.setTop (mkF m 88 #[iv p1, iv p2, iv (p1 &&& (3 : Int32)), rv aT, .unset] [(.int (0 : Int32))]))
          refine Go.pre (fun _ k => XS.istore X16.here hx rfl (hb hby at_88) rfl (l' := #[iv p1, iv p2, iv (p1 &&& (3 : Int32)), rv aT, iv (0 : Int32)]) rfl k) ?_
          show Go p e below _ (T16.setTop (mkF m 90 #[iv p1, iv p2, iv (p1 &&& (3 : Int32)), rv aT, iv (0 : Int32)] []))
          refine Go.pre (fun _ k => XS.aloadN X16.here hx rfl (hb hby at_90) rfl rfl k) ?_
          show Go p e below _ (T16.setTop (mkF m 91 #[iv p1, iv p2, iv (p1 &&& (3 : Int32)), rv aT, iv (0 : Int32)] [(.ref aT)]))
          refine Go.pre (fun _ k => XS.iloadN X16.here hx rfl (hb hby at_91) rfl k) ?_
          show Go p e below _ (T16.setTop (mkF m 92 #[iv p1, iv p2, iv (p1 &&& (3 : Int32)), rv aT, iv (0 : Int32)] [(.int p2), (.ref aT)]))
          obtain ⟨cq19, kq19, q19a, q19b, q19c⟩ := isOf hZ e16 E_aT
          obtain ⟨_, _, ⟨T19, L19, k19, n19⟩, -, X19, ⟨Lc19, hQ19, l19, y19, z19⟩, st19⟩ := X16.virtualBack hx (y := (⟨"com/example/focalgram/focalgram/cli/Command$Operands", "allows", "(I)Z"⟩ : MethodName)) (z := (⟨"com/example/focalgram/focalgram/cli/Command$Operands", "allows", "(I)Z"⟩ : MethodName)) hown (mvT hZ (hw _ (List.mem_of_getElem? (i := 3) rfl))) (mvT hZ (hw _ (List.mem_of_getElem? (i := 4) rfl))) (notFace_of_selects (args := #[]) (mvT hZ (hw _ (List.mem_of_getElem? (i := 6) rfl)))) (mvT hZ (hw _ (List.mem_of_getElem? (i := 6) rfl))) (mvT hZ (hw _ (List.mem_of_getElem? (i := 5) rfl))) (by decide) (backOf (W := 0) (rm_al l Z a0 hw [] aT p2 (2 : Int32) (2 : Int32) h0 n0 Z0 Ff_aT Fm_aT) hZ (hw _ (List.mem_of_getElem? (i := 7) rfl)) (hw _ (List.mem_of_getElem? (i := 1) rfl)) (by decide) (by decide)) q19a q19c (g := (mkF m 92 #[iv p1, iv p2, iv (p1 &&& (3 : Int32)), rv aT, iv (0 : Int32)] [(.int p2), (.ref aT)])) rfl (by rw [hml]; rfl) (Steps.refl _) (argsL := [(.int p2)]) (rest := []) (lenOf pd_0 rfl) rfl (by show 2 * 0 + _ ≤ _; exact Nat.le_of_eq rfl) (hb hby at_92) (fun _ _ => ⟨rfl, e16, (by decide : 0 + 0 ≤ _), (by decide : 0 + 0 ≤ _)⟩)
          dsimp only [Pt.U, Pt.locs, Pt.cells, Pt.slots] at X19 l19 y19 z19 st19 hQ19
          subst l19 y19 z19
          refine Go.pre (own_cut st19) ?_
          rcases hQ19 with ⟨hp19, rfl, N19q, eh19⟩ | ⟨hp19, rfl, N19q, eh19⟩
          · skip
            have N19 := Fr.app N0 N19q
            show Go p e below _ (T19.setTop (mkF m 95 #[iv p1, iv p2, iv (p1 &&& (3 : Int32)), rv aT, iv (0 : Int32)] [(.int (1 : Int32))]))
            refine Go.pre (fun _ k => XS.iload X19.here hx rfl (hb hby at_95) rfl k) ?_
            show Go p e below _ (T19.setTop (mkF m 97 #[iv p1, iv p2, iv (p1 &&& (3 : Int32)), rv aT, iv (0 : Int32)] [(.int (0 : Int32)), (.int (1 : Int32))]))
            refine Go.pre (fun _ k => XS.icmpYes X19.here hx rfl (pc0 := 97) (pc' := 104) rfl (hb hby at_97) rfl (feq (by decide : ¬ ((1 : Int32) = (0 : Int32)))).2 (by decide) (by decide) k) ?_
            show Go p e below _ (T19.setTop (mkF m 104 #[iv p1, iv p2, iv (p1 &&& (3 : Int32)), rv aT, iv (0 : Int32)] []))
            refine Go.pre (fun _ k => XS.iconst X19.here hx rfl (hb hby at_104) k) ?_
            show Go p e below _ (T19.setTop (mkF m 105 #[iv p1, iv p2, iv (p1 &&& (3 : Int32)), rv aT, iv (0 : Int32)] [(.int (0 : Int32))]))
            exfalso
            simp only [Int32.lt_iff_toInt_lt, ← Int32.toInt_inj, own_i0, own_i1, own_i2, own_iM] at hp19 hc80_17
            have hub := Int32.toInt_lt p2
            omega
          · skip
            have N19 := Fr.app N0 N19q
            show Go p e below _ (T19.setTop (mkF m 95 #[iv p1, iv p2, iv (p1 &&& (3 : Int32)), rv aT, iv (0 : Int32)] [(.int (0 : Int32))]))
            refine Go.pre (fun _ k => XS.iload X19.here hx rfl (hb hby at_95) rfl k) ?_
            show Go p e below _ (T19.setTop (mkF m 97 #[iv p1, iv p2, iv (p1 &&& (3 : Int32)), rv aT, iv (0 : Int32)] [(.int (0 : Int32)), (.int (0 : Int32))]))
            refine Go.pre (fun _ k => XS.icmpNo X19.here hx rfl (hb hby at_97) rfl (teq (by decide : (0 : Int32) = (0 : Int32))).2 k) ?_
            show Go p e below _ (T19.setTop (mkF m 100 #[iv p1, iv p2, iv (p1 &&& (3 : Int32)), rv aT, iv (0 : Int32)] []))
            refine Go.pre (fun _ k => XS.iconst X19.here hx rfl (hb hby at_100) k) ?_
            show Go p e below _ (T19.setTop (mkF m 101 #[iv p1, iv p2, iv (p1 &&& (3 : Int32)), rv aT, iv (0 : Int32)] [(.int (1 : Int32))]))
            refine Go.pre (fun _ k => XS.goto X19.here hx rfl (pc0 := 101) (pc' := 105) rfl (hb hby at_101) (by decide) (by decide) k) ?_
            show Go p e below _ (T19.setTop (mkF m 105 #[iv p1, iv p2, iv (p1 &&& (3 : Int32)), rv aT, iv (0 : Int32)] [(.int (1 : Int32))]))
            obtain ⟨fs, hr, hrun, hended, hW, hsame⟩ := X19.leave (v := some (.int (1 : Int32))) (fun h => by rw [Bd.returns] at h; cases h)
            refine Go.fin (retN X19 hx (t := .boolean) Bd.returns (by simp) (hb hby at_105) hr) ⟨hrun, hended, _, _, rfl, ?_, ⟨_, rfl⟩, hW, hsame.mono (by decide) (by decide)⟩
            exact ⟨rfl, N19⟩

set_option maxRecDepth 65536 in
set_option maxHeartbeats 40000000 in
theorem comes_1 {Post : Tables → Env → Array Value → State → Outcome → State → Prop} (hpost : ∀ tb e args s v u, (limb_1_1.after args s (.returned v) u = true ∧ limb_1_2.after args s (.returned v) u = true ∧ True) → FrameEnd s (.returned v) u (Jvm.fieldLocs frame_1_writes args s ++ Jvm.arrayLocs frame_1_arrays args s ++ Jvm.staticLocs frame_1_statics s) 0 0 → Post tb e args s (.returned v) u) :
    ArmFor flags0 classFile x code maxLocals ret World_1 tables_1 room_1 Calls_1 rest_1 Pre_1 Post := by
  intro l hfl _ _ p e ha hc hk s m args below hf hA hF happ hP
  obtain ⟨hcalls, hrest, hpre⟩ := hP
  obtain ⟨-, -, -, hnamed, -, -, -, hat⟩ := (Spec.applies_iff hf).mp happ
  obtain ⟨hg, hn⟩ := and_e (Cond.before_iff.mp (show (Jvm.Cond.and given_1 narrow_1).before args s = true from hpre))
  obtain ⟨g0, r0⟩ := and_e hg
  obtain ⟨g1, r1⟩ := and_e r0
  obtain ⟨w0, w1, rfl⟩ : ∃ w0 w1 : Value, args = #[w0, w1] := by
    have hs : args.size = 2 := by simpa [Cond.value, given_1] using g0
    obtain ⟨L⟩ := args
    match L, hs with
    | [w0, w1], _ => exact ⟨w0, w1, rfl⟩
  have hw := fun d (hd : d ∈ tables_1) => atoms_spec (ws := Jvm.Cond.code x code maxLocals ret :: tables_1) hat d (List.mem_cons_of_mem _ hd)
  obtain ⟨i0, ei0⟩ := is_v g1
  obtain rfl : w0 = (.int i0) := Option.some.inj ei0
  obtain ⟨i1, ei1⟩ := is_v r1
  obtain rfl : w1 = (.int i1) := Option.some.inj ei1
  obtain ⟨c1, c2⟩ := and_e hn
  obtain ⟨c3, c4⟩ := and_e c2
  obtain ⟨c5, c6⟩ := and_e c4
  obtain ⟨c7, c8⟩ := and_e c6
  obtain ⟨c9, c10⟩ := and_e c8
  obtain ⟨c11, c12⟩ := and_e c10
  obtain ⟨c13, c14⟩ := and_e c12
  obtain ⟨c15, c16⟩ := and_e c14
  obtain ⟨c17, c18⟩ := and_e c16
  obtain ⟨c19, c20⟩ := and_e c18
  obtain ⟨c21, c22⟩ := and_e c20
  obtain ⟨a_NONE, ev_NONE⟩ := exa_v c1
  have E_NONE := Exa.start ev_NONE c1
  have S_NONE := Sta.start ev_NONE (Or.inr ⟨(hw _ (List.mem_of_getElem? (i := 1) rfl)), (hw _ (List.mem_of_getElem? (i := 2) rfl))⟩)
  obtain ⟨a_FILES, ev_FILES⟩ := exa_v c7
  have E_FILES := Exa.start ev_FILES c7
  have S_FILES := Sta.start ev_FILES (Or.inr ⟨(hw _ (List.mem_of_getElem? (i := 1) rfl)), (hw _ (List.mem_of_getElem? (i := 13) rfl))⟩)
  obtain ⟨a_FILE, ev_FILE⟩ := exa_v c13
  have E_FILE := Exa.start ev_FILE c13
  have S_FILE := Sta.start ev_FILE (Or.inr ⟨(hw _ (List.mem_of_getElem? (i := 1) rfl)), (hw _ (List.mem_of_getElem? (i := 15) rfl))⟩)
  obtain ⟨a_TWO_FILES, ev_TWO_FILES⟩ := exa_v c19
  have E_TWO_FILES := Exa.start ev_TWO_FILES c19
  have S_TWO_FILES := Sta.start ev_TWO_FILES (Or.inr ⟨(hw _ (List.mem_of_getElem? (i := 1) rfl)), (hw _ (List.mem_of_getElem? (i := 17) rfl))⟩)
  have F_NONE_fewest := own_fldI ev_NONE c3
  have F_NONE_most := own_fldI ev_NONE c5
  have F_FILES_fewest := own_fldI ev_FILES c9
  have F_FILES_most := own_fldI ev_FILES c11
  have F_FILE_fewest := own_fldI ev_FILE c15
  have F_FILE_most := own_fldI ev_FILE c17
  have F_TWO_FILES_fewest := own_fldI ev_TWO_FILES c21
  have F_TWO_FILES_most := own_fldI ev_TWO_FILES c22
  obtain ⟨n, o, h1, h2, h3, _, L, rfl, ⟨rfl, N⟩, hq⟩ := rm_law l s _ hw tables_1 i0 i1 a_NONE a_FILE a_FILES a_TWO_FILES s.heap s.heap.size (Nat.le_refl _) S_NONE S_FILE S_FILES S_TWO_FILES E_NONE E_FILE E_FILES E_TWO_FILES F_NONE_fewest F_FILE_fewest F_FILES_fewest F_TWO_FILES_fewest F_NONE_most F_FILE_most F_FILES_most F_TWO_FILES_most p e ha hc hk s m _ below hf ((Spec.applies_iff_loose hf).mp happ).1 ⟨rfl, State.Warmed39.refl s, rfl⟩ trivial
  refine ⟨n, _, h1, h2, h3, hpost _ _ _ _ _ _ ⟨Cond.after_iff.mpr rfl, Cond.after_iff.mpr (eq_i res_at (Term.int_eval (1)) rfl), trivial⟩ ⟨hq.1, hq.2.1, (hq.2.2.sift fun y hy => Or.inr (N y hy)).mono (by decide) (by decide)⟩⟩
theorem main_1_1 : Claimed_1_1 := comes_1 fun _ _ _ _ _ _ h hF => ⟨h.1, hF⟩
theorem main_1_2 : Claimed_1_2 := comes_1 fun _ _ _ _ _ _ h hF => ⟨h.2.1, hF⟩
end Jvm.Pilot.@@N@@
namespace Jvm.Pilot.@@N@@
open Jvm Jvm.ClassFile Sem Op Lib Jvm.Free Jvm.Stand Jvm.Pilot.@@N@@.Jvm.D
/-! MADE BY PROGRAM (witnessworld.py) out of the Statement's table words and the real class files: 12 classes; the members and pool entries that the words name. The judged class is class 1, her method 1. -/
namespace start1
open Jvm.ClassFile
def u (s : String) : CpInfo := .utf8 (stringToUtf16 s)
/-- a pool by its gaps: so many unusable entries, then the entry; so many at the end -/
def gap : Nat → List CpInfo → List CpInfo
  | 0, r => r
  | n + 1, r => .unusable :: gap n r
def poolList (es : List (Nat × CpInfo)) (last : Nat) : List CpInfo := es.foldr (fun e r => gap e.1 (e.2 :: r)) (gap last [])
def pool (es : List (Nat × CpInfo)) (last : Nat) : Array CpInfo := ⟨poolList es last⟩
def fileOf (pool : Array CpInfo) (this : Nat) (attrs : Array Attribute := #[]) (ms : Array MethodInfo := #[]) (fl : Nat := 33) (sup : Nat := 0) (ifs : Array Nat := #[]) (fds : Array FieldInfo := #[]) : ClassFile where
  minorVersion := 0
  majorVersion := 65
  constantPool := pool
  accessFlags := fl
  thisClass := this
  superClass := sup
  interfaces := ifs
  fields := fds
  methods := ms
  attributes := attrs
def plain (name : String) (sup : Option ClassId) : Class where
  name := name
  kind := .ordinary
  loader := none
  accessFlags := 33
  super := sup
  interfaces := #[]
  cf := none
  fields := #[]
  methods := #[]
  instanceTypes := #[]
  staticTypes := #[]
  resolved := #[]
  callSites := []
  init := .initialized
  statics := none
  mirror := none

def pool0 : Array CpInfo := pool [(5, u "<init>"), (0, u "()V"), (1, .class_ 10), (1, u "java/lang/Object")] 113

def k0m0 : Method := { name := "<init>", desc := "()V", sig := { parameters := [], returnType := none }, accessFlags := 1, code := none }
/-- java/lang/Object -/
def k0 : Class := { plain "java/lang/Object" none with
  accessFlags := 33
  interfaces := #[]
  cf := some (fileOf pool0 8 #[] #[{ accessFlags := 1, nameIndex := 5, descriptorIndex := 6, attributes := #[] }] 33 0 #[] #[])
  fields := #[]
  methods := #[k0m0]
  instanceTypes := #[]
  staticTypes := #[]
  resolved := Array.replicate 124 none
  statics := none }

def pool1 : Array CpInfo := pool [(2, .class_ 4), (1, u "java/lang/Object"), (0, u "<init>"), (0, u "()V"), (0, .fieldref 8 9), (0, .class_ 10), (0, .nameAndType 11 12), (0, u "com/example/focalgram/focalgram/cli/Command$Operands"), (0, u "NONE"), (0, u "Lcom/example/focalgram/focalgram/cli/Command$Operands;"), (0, .fieldref 8 14), (0, .nameAndType 15 12), (0, u "FILE"), (0, .fieldref 8 17), (0, .nameAndType 18 12), (0, u "FILES"), (0, .fieldref 8 20), (0, .nameAndType 21 12), (0, u "TWO_FILES"), (0, .methodref 8 23), (0, .nameAndType 24 25), (0, u "allows"), (0, u "(I)Z"), (0, .class_ 27), (0, u "com/example/focalgram/focalgram/cli/OperandsAllowsPinLaw"), (2, u "law"), (0, u "(II)Z")] 7

def k1m0 : Method := { name := "<init>", desc := "()V", sig := { parameters := [], returnType := none }, accessFlags := 2, code := none }
def k1c1 : Code := { maxStack := 2, maxLocals := 5, code := code, exceptionTable := #[], attributes := #[] }
def k1m1 : Method := { name := "law", desc := "(II)Z", sig := { parameters := [.int, .int], returnType := some .boolean }, accessFlags := 9, code := some k1c1 }
/-- com/example/focalgram/focalgram/cli/OperandsAllowsPinLaw -/
def k1 : Class := { plain "com/example/focalgram/focalgram/cli/OperandsAllowsPinLaw" (some 0) with
  accessFlags := 49
  interfaces := #[]
  cf := some (fileOf pool1 26 #[] #[{ accessFlags := 2, nameIndex := 5, descriptorIndex := 6, attributes := #[] }, { accessFlags := 9, nameIndex := 30, descriptorIndex := 31, attributes := #[] }] 49 2 #[] #[])
  fields := #[]
  methods := #[k1m0, k1m1]
  instanceTypes := #[]
  staticTypes := #[]
  resolved := Array.replicate 39 none
  statics := none }

def pool2 : Array CpInfo := pool [(1, .class_ 2), (0, u "java/lang/constant/Constable"), (0, .class_ 4), (0, u "java/lang/Object")] 6

/-- java/lang/constant/Constable -/
def k2 : Class := { plain "java/lang/constant/Constable" (some 0) with
  accessFlags := 1537
  interfaces := #[]
  cf := some (fileOf pool2 1 #[] #[] 1537 3 #[] #[])
  fields := #[]
  methods := #[]
  instanceTypes := #[]
  staticTypes := #[]
  resolved := Array.replicate 11 none
  statics := none }

def pool3 : Array CpInfo := pool [(1, .class_ 2), (0, u "java/lang/Comparable"), (0, .class_ 4), (0, u "java/lang/Object")] 7

/-- java/lang/Comparable -/
def k3 : Class := { plain "java/lang/Comparable" (some 0) with
  accessFlags := 1537
  interfaces := #[]
  cf := some (fileOf pool3 1 #[] #[] 1537 3 #[] #[])
  fields := #[]
  methods := #[]
  instanceTypes := #[]
  staticTypes := #[]
  resolved := Array.replicate 12 none
  statics := none }

def pool4 : Array CpInfo := pool [(1, .class_ 2), (0, u "java/io/Serializable"), (0, .class_ 4), (0, u "java/lang/Object")] 2

/-- java/io/Serializable -/
def k4 : Class := { plain "java/io/Serializable" (some 0) with
  accessFlags := 1537
  interfaces := #[]
  cf := some (fileOf pool4 1 #[] #[] 1537 3 #[] #[])
  fields := #[]
  methods := #[]
  instanceTypes := #[]
  staticTypes := #[]
  resolved := Array.replicate 7 none
  statics := none }

def pool5 : Array CpInfo := pool [(2, .class_ 4), (1, u "java/lang/Enum"), (0, u "name"), (0, u "Ljava/lang/String;"), (2, u "ordinal"), (0, u "I"), (1, .class_ 14), (1, u "java/lang/Object"), (4, u "hash"), (86, .class_ 108), (1, u "java/lang/Enum$EnumDesc"), (2, .class_ 112), (0, u "java/lang/constant/Constable"), (0, .class_ 114), (0, u "java/lang/Comparable"), (0, .class_ 116), (0, u "java/io/Serializable")] 87

/-- java/lang/Enum -/
def k5 : Class := { plain "java/lang/Enum" (some 0) with
  accessFlags := 1057
  interfaces := #[2, 3, 4]
  cf := some (fileOf pool5 2 #[.nestMembers #[106]] #[] 1057 12 #[111, 113, 115] #[{ accessFlags := 18, nameIndex := 5, descriptorIndex := 6, attributes := #[] }, { accessFlags := 18, nameIndex := 9, descriptorIndex := 10, attributes := #[] }, { accessFlags := 2, nameIndex := 19, descriptorIndex := 10, attributes := #[] }])
  fields := #[{ name := "name", type := (.object "java/lang/String"), accessFlags := 18, slot := 0, constantValue := 0 }, { name := "ordinal", type := .int, accessFlags := 18, slot := 1, constantValue := 0 }, { name := "hash", type := .int, accessFlags := 2, slot := 2, constantValue := 0 }]
  methods := #[]
  instanceTypes := #[(.object "java/lang/String"), .int, .int]
  staticTypes := #[]
  resolved := Array.replicate 204 none
  statics := none }

def pool6 : Array CpInfo := pool [(1, .class_ 2), (0, u "com/example/focalgram/focalgram/cli/Command$Operands"), (2, u "NONE"), (0, u "Lcom/example/focalgram/focalgram/cli/Command$Operands;"), (2, u "FILE"), (2, u "FILES"), (2, u "TWO_FILES"), (2, u "$VALUES"), (0, u "[Lcom/example/focalgram/focalgram/cli/Command$Operands;"), (6, .class_ 28), (1, u "java/lang/Enum"), (8, u "usage"), (0, u "Ljava/lang/String;"), (0, .fieldref 1 40), (0, .nameAndType 41 42), (0, u "fewest"), (0, u "I"), (0, .fieldref 1 44), (0, .nameAndType 45 42), (0, u "most"), (2, u "count"), (36, u "allows"), (0, u "(I)Z"), (7, .class_ 95), (0, u "com/example/focalgram/focalgram/cli/Command")] 2

def k6c0 : Code := { maxStack := 2, maxLocals := 2, code := prog_3_method_6_code, exceptionTable := #[], attributes := #[] }
def k6m0 : Method := { name := "allows", desc := "(I)Z", sig := { parameters := [.int], returnType := some .boolean }, accessFlags := 0, code := some k6c0 }
/-- com/example/focalgram/focalgram/cli/Command$Operands -/
def k6 : Class := { plain "com/example/focalgram/focalgram/cli/Command$Operands" (some 5) with
  accessFlags := 16432
  interfaces := #[]
  cf := some (fileOf pool6 1 #[.nestHost 94] #[{ accessFlags := 0, nameIndex := 85, descriptorIndex := 86, attributes := #[] }] 16432 26 #[] #[{ accessFlags := 16409, nameIndex := 5, descriptorIndex := 6, attributes := #[] }, { accessFlags := 16409, nameIndex := 9, descriptorIndex := 6, attributes := #[] }, { accessFlags := 16409, nameIndex := 12, descriptorIndex := 6, attributes := #[] }, { accessFlags := 16409, nameIndex := 15, descriptorIndex := 6, attributes := #[] }, { accessFlags := 18, nameIndex := 37, descriptorIndex := 38, attributes := #[] }, { accessFlags := 18, nameIndex := 41, descriptorIndex := 42, attributes := #[] }, { accessFlags := 18, nameIndex := 45, descriptorIndex := 42, attributes := #[] }, { accessFlags := 18, nameIndex := 48, descriptorIndex := 38, attributes := #[] }, { accessFlags := 4122, nameIndex := 18, descriptorIndex := 19, attributes := #[] }])
  fields := #[{ name := "NONE", type := (.object "com/example/focalgram/focalgram/cli/Command$Operands"), accessFlags := 16409, slot := 0, constantValue := 0 }, { name := "FILE", type := (.object "com/example/focalgram/focalgram/cli/Command$Operands"), accessFlags := 16409, slot := 1, constantValue := 0 }, { name := "FILES", type := (.object "com/example/focalgram/focalgram/cli/Command$Operands"), accessFlags := 16409, slot := 2, constantValue := 0 }, { name := "TWO_FILES", type := (.object "com/example/focalgram/focalgram/cli/Command$Operands"), accessFlags := 16409, slot := 3, constantValue := 0 }, { name := "usage", type := (.object "java/lang/String"), accessFlags := 18, slot := 3, constantValue := 0 }, { name := "fewest", type := .int, accessFlags := 18, slot := 4, constantValue := 0 }, { name := "most", type := .int, accessFlags := 18, slot := 5, constantValue := 0 }, { name := "count", type := (.object "java/lang/String"), accessFlags := 18, slot := 6, constantValue := 0 }, { name := "$VALUES", type := (.array (.object "com/example/focalgram/focalgram/cli/Command$Operands")), accessFlags := 4122, slot := 4, constantValue := 0 }]
  methods := #[k6m0]
  instanceTypes := #[(.object "java/lang/String"), .int, .int, (.object "java/lang/String"), .int, .int, (.object "java/lang/String")]
  staticTypes := #[(.object "com/example/focalgram/focalgram/cli/Command$Operands"), (.object "com/example/focalgram/focalgram/cli/Command$Operands"), (.object "com/example/focalgram/focalgram/cli/Command$Operands"), (.object "com/example/focalgram/focalgram/cli/Command$Operands"), (.array (.object "com/example/focalgram/focalgram/cli/Command$Operands"))]
  resolved := Array.replicate 98 none
  statics := some 0 }

def pool7 : Array CpInfo := pool [(1, u "java/lang/Cloneable"), (0, .class_ 1), (0, u "java/lang/Object"), (0, .class_ 3)] 3

/-- java/lang/Cloneable -/
def k7 : Class := { plain "java/lang/Cloneable" (some 0) with
  accessFlags := 1537
  interfaces := #[]
  cf := some (fileOf pool7 2 #[] #[] 1537 4 #[] #[])
  fields := #[]
  methods := #[]
  instanceTypes := #[]
  staticTypes := #[]
  resolved := Array.replicate 8 none
  statics := none }

/-- the primitive byte -/
def k8 : Class := { plain "byte" none with kind := .primitive 'B', accessFlags := 0x411 }
/-- [B -/
def k9 : Class := { plain "[B" (some 0) with kind := .array 8 .byte, interfaces := #[7, 4], accessFlags := 1041 }

/-- the primitive int -/
def k10 : Class := { plain "int" none with kind := .primitive 'I', accessFlags := 0x411 }
/-- [I -/
def k11 : Class := { plain "[I" (some 0) with kind := .array 10 .int, interfaces := #[7, 4], accessFlags := 1041 }

def heap : Heap := #[{ cls := 6, slots := #[.ref 1, .ref 2, .ref 3, .ref 4, .null], vm := .statics 6 },
  { cls := 6, slots := #[.null, .int 0, .int 0, .null, .int 0, .int 0, .null], vm := .none },
  { cls := 6, slots := #[.null, .int 1, .int 0, .null, .int 1, .int 1, .null], vm := .none },
  { cls := 6, slots := #[.null, .int 2, .int 0, .null, .int 1, .int 2147483647, .null], vm := .none },
  { cls := 6, slots := #[.null, .int 3, .int 0, .null, .int 2, .int 2, .null], vm := .none }]
def classes : Array Class := #[k0, k1, k2, k3, k4, k5, k6, k7, k8, k9, k10, k11]
def interned : List (Array UInt16 × Addr) := []
def slotsUsed : Nat := 33
def theMethod : MethodId := ⟨1, 1⟩
def args0 : Array Value := #[.int 2, .int 7]
def aboutOver (below : List Frame) : State where
  vm := { classes := classes, interned := interned.toArray }
  heap := heap
  slotsUsed := slotsUsed
  threads := #[{ frames := .invoking theMethod args0 :: below }]
def below0 : List Frame := [.native { method := ⟨0, 0⟩, args := #[] }]
def about1 : State := aboutOver below0
def p0 : Program := .bare "" "" ""
def e0 : Env := launch0.env 0 0 0
theorem w_frames : about1.frames = Frame.invoking theMethod args0 :: below0 := rfl
set_option maxRecDepth 65536 in
theorem w_args : argsFit about1.vm theMethod args0 = true := by decide +kernel
set_option maxRecDepth 65536 in
theorem w_heap : heapFits about1 = true := by decide +kernel
set_option maxRecDepth 65536 in
theorem w_runnable : about1.curStatus? = some .runnable := by decide +kernel
set_option maxRecDepth 65536 in
theorem w_alone : about1.alone = true := by decide +kernel
set_option maxRecDepth 65536 in
theorem w_named : about1.methodNamed? x = some theMethod := by decide +kernel
set_option maxRecDepth 65536 in
theorem w_hears : about1.hears theMethod below0 = true := by decide +kernel
set_option maxRecDepth 65536 in
theorem w_ripe : about1.ripe theMethod args0 below0 = true := by decide +kernel
theorem w_running : about1.status = .running := rfl
set_option maxRecDepth 65536 in
theorem w_room : about1.hasRoom e0.platform room_1 = true :=
  launch0.hasRoom_least _ room_1 (by decide +kernel) (by decide +kernel) (by decide +kernel) (by decide +kernel) (by decide +kernel) (by decide +kernel)
theorem allAtoms_all (ts : List Jvm.Cond) (a : Array Jvm.Value) (st : Jvm.State) : (allAtoms ts).before a st = ts.all (fun c => c.before a st) := by
  induction ts with
  | nil => rfl
  | cons c t ih =>
    show (Jvm.Cond.and c (allAtoms t)).before a st = _
    rw [Jvm.Cond.before_and, ih, List.all_cons]
def words1 : List Jvm.Cond := Jvm.Cond.code x code maxLocals ret :: tables_1
/-- a 'code' word, met by the world's own term for the bytes: nothing is compared byte by byte -/
theorem code_word {y : MethodName} {bytes : ByteArray} {mx : Nat} {rt : Option FieldType} {a : Array Value} {s : State} {m : MethodId} {meth : Method} {c : Code} (h1 : s.methodNamed? y = some m) (h2 : s.vm.method? m = some meth) (h3 : meth.code = some c) (h4 : c.code = bytes)
    (h5 : (c.maxLocals == mx && c.exceptionTable.isEmpty && decide (c.maxStack ≤ mostOperands) && decide (meth.sig.returnType = rt) && !meth.locks && decide (parseMethodDescriptor y.desc = some meth.sig)) = true) : (Jvm.Cond.code y bytes mx rt).before a s = true := by
  simp only [Bool.and_eq_true, beq_iff_eq, Bool.not_eq_true', decide_eq_true_eq] at h5
  obtain ⟨⟨⟨⟨⟨g1, g2⟩, g3⟩, g4⟩, g5⟩, g6⟩ := h5
  simp [Cond.before, Cond.holds, Cond.value, h1, h2, h3, h4, g1, g2, g3, g4, g5, g6]
def isCode : Jvm.Cond → Bool
  | .code _ _ _ _ => true
  | _ => false
theorem all_split {L : List Jvm.Cond} {P : Jvm.Cond → Bool} (h1 : L.all (fun c => isCode c || P c) = true) (h2 : ∀ c ∈ L.filter isCode, P c = true) : L.all P = true := by
  refine List.all_eq_true.mpr fun c hc => ?_
  have h := List.all_eq_true.mp h1 c hc
  rcases Bool.eq_false_or_eq_true (isCode c) with hi | hi
  · exact h2 c (List.mem_filter.mpr ⟨hc, hi⟩)
  · simpa [hi] using h
set_option maxRecDepth 65536 in
theorem w_c0 : (Jvm.Cond.code x code maxLocals ret).before args0 about1 = true := code_word (m := ⟨1, 1⟩) (meth := k1m1) (c := k1c1) (by decide +kernel) rfl rfl rfl (by decide +kernel)
set_option maxRecDepth 65536 in
theorem w_c1 : (Jvm.Cond.code ({ cls := "com/example/focalgram/focalgram/cli/Command$Operands", name := "allows", desc := "(I)Z" } : Jvm.MethodName) prog_3_method_6_code (2 : Nat) (Option.some Jvm.ClassFile.FieldType.boolean)).before args0 about1 = true := code_word (m := ⟨6, 0⟩) (meth := k6m0) (c := k6c0) (by decide +kernel) rfl rfl rfl (by decide +kernel)
def codes1 : List Jvm.Cond := [Jvm.Cond.code x code maxLocals ret, Jvm.Cond.code ({ cls := "com/example/focalgram/focalgram/cli/Command$Operands", name := "allows", desc := "(I)Z" } : Jvm.MethodName) prog_3_method_6_code (2 : Nat) (Option.some Jvm.ClassFile.FieldType.boolean)]
set_option maxRecDepth 65536 in
theorem codes_eq : words1.filter isCode = codes1 := rfl
theorem w_codes : ∀ c ∈ words1.filter isCode, c.before args0 about1 = true := by
  rw [codes_eq]
  intro c hc
  simp only [codes1, List.mem_cons, List.not_mem_nil, or_false] at hc
  rcases hc with rfl | rfl
  · exact w_c0
  · exact w_c1
set_option maxRecDepth 65536 in
theorem w_t1 : words1.all (fun c => isCode c || c.before args0 about1) = true := by decide +kernel
theorem w_tables : (allAtoms (Jvm.Cond.code x code maxLocals ret :: tables_1)).before args0 about1 = true := by
  rw [allAtoms_all]
  show words1.all (fun c => c.before args0 about1) = true
  refine all_split ?_ w_codes
  rw [w_t1]
set_option maxRecDepth 65536 in
theorem w_case : (Jvm.Cond.and given_1 narrow_1).before args0 about1 = true := by decide +kernel
theorem w_applies : (headSpec (Jvm.Cond.code x code maxLocals ret :: tables_1) room_1).applies x e0.platform about1 = true :=
  (Spec.applies_iff w_frames).mpr ⟨w_running, w_runnable, w_alone, w_named, w_hears, w_ripe, w_room, w_tables⟩
theorem atStart : AtStart classFile x code maxLocals ret World_1 tables_1 room_1 Calls_1 rest_1 Pre_1 launch0 p0 e0 about1 theMethod args0 below0 :=
  ⟨lists_1, trivial, launch0.admits_env _ _ _, launch0.least_env, fairChoices_fair.cas, fairChoices_fair.clock, w_frames, w_args, w_heap, w_applies, trivial, trivial, w_case⟩
end start1
theorem witness_1 : WitnessClaimed_1 := ⟨start1.p0, start1.e0, start1.about1, start1.theMethod, start1.args0, start1.below0, start1.atStart⟩
end Jvm.Pilot.@@N@@
