import JvmDerived
import JvmDerived.Pilot.@@N@@Statement
import JvmDerived.Pilot.@@N@@Code
set_option linter.unusedVariables false
set_option linter.unusedSimpArgs false
namespace Jvm.RoadKit
open Sem ClassFile Op Lib Jvm.Stand Jvm.Free Jvm.LawKit
section New
variable {p : Program} {l : Launch} {e : Env} {R : Room} {s : State} {m : MethodId} {args : Array Value} {below : List Frame} {meth : Method} {c : Code} {T : State} {locs : List Loc} {cells slots : Nat}
theorem retI (X : Stand p l e R s m args below meth c T locs cells slots) (hx : p.tables.exec = Jvm.exec) {pc : Nat} {Ls : Array Slot} {z : Int32} {rest : List Value} (hret : meth.sig.returnType = some .int) (hd : decode c.code pc = .ok (.ireturn, 1)) {fs : List Frame}
    (hl : ∀ (f : JFrame) (acts : List Action), f.method = m → f.locked = none → f.entered = [] → (doReturn e (T.setTop f) acts (some (.int z))).1 = T.setFrames fs) : Steps p.tables e below (T.setTop (mkF m pc Ls (.int z :: rest))) (T.setFrames fs) := by
  have hm' : T.vm.method? m = some meth := X.method'
  have hn : narrow .int (.int z) = .int z := rfl
  show Steps p.tables e below (T.setTop { method := m, pc := pc, locals := Ls, stack := _ :: rest, locked := none }) _
  jvm_step X.here [X.here.top, hx, hd, hm', hret, hn]
  first | (intro acts; rw [hl _ acts rfl rfl rfl]) | rw [hl _ _ rfl rfl rfl]
  exact Steps.refl _
end New
end Jvm.RoadKit
namespace Jvm.Pilot.@@N@@
open Jvm Jvm.ClassFile Sem Op Lib Jvm.Free Jvm.Stand Jvm.LawKit Jvm.RoadKit Bundle Jvm.Pilot.@@N@@.Jvm.D
/-- a run from U comes to an end at which P holds -/
def Go (p : Program) (e : Env) (below : List Frame) (P : State → Outcome → Prop) (U : State) : Prop := ∃ s₂ o, Steps p.tables e below U s₂ ∧ P s₂ o
theorem Go.out {p : Program} {e : Env} {below : List Frame} {P : State → Outcome → Prop} {U : State} (h : Go p e below P U) : ∃ s₂ o, Steps p.tables e below U s₂ ∧ P s₂ o := h
theorem Go.pre {p : Program} {e : Env} {below : List Frame} {P : State → Outcome → Prop} {U U' : State} (st : ∀ t, Steps p.tables e below U' t → Steps p.tables e below U t) (h : Go p e below P U') : Go p e below P U := by
  obtain ⟨t, o, h1, h2⟩ := h
  exact ⟨t, o, st _ h1, h2⟩
theorem Go.named {p : Program} {e : Env} {below : List Frame} {P : State → Outcome → Prop} {U : State} (h : ∀ P', P' = P → Go p e below P' U) : Go p e below P U := h P rfl
theorem Go.fin {p : Program} {e : Env} {below : List Frame} {P : State → Outcome → Prop} {U t : State} {o : Outcome} (st : Steps p.tables e below U t) (h : P t o) : Go p e below P U := ⟨t, o, st, h⟩
theorem own_cut {p : Program} {e : Env} {below : List Frame} {U U' : State} (st : Steps p.tables e below U U') : ∀ t, Steps p.tables e below U' t → Steps p.tables e below U t := fun _ k => st.trans k
theorem own_ltT {x y : Int64} (h : x < y) : lcmpW x y < 0 := by rw [lcW]; exact (lc_lt x y).mpr h
theorem own_ltF {x y : Int64} (h : ¬ x < y) : ¬ lcmpW x y < 0 := by rw [lcW]; exact fun q => h ((lc_lt x y).mp q)
theorem own_gtT {x y : Int64} (h : y < x) : 0 < lcmpW x y := by rw [lcW]; exact (lc_gt x y).mpr h
theorem own_gtF {x y : Int64} (h : ¬ y < x) : ¬ 0 < lcmpW x y := by rw [lcW]; exact fun q => h ((lc_gt x y).mp q)
theorem own_eqT {x y : Int64} (h : x = y) : lcmpW x y = 0 := by rw [lcW]; exact (lc_eq x y).mpr h
theorem own_eqF {x y : Int64} (h : ¬ x = y) : ¬ lcmpW x y = 0 := by rw [lcW]; exact fun q => h ((lc_eq x y).mp q)

theorem own_staK {Z : State} {h h' : Heap} {C n d : String} {v : Value} (F : Sta Z h C n d v) (K : Keep h h' []) : Sta Z h' C n d v := by
  obtain ⟨cf, i, k, f, st, cell, h1, h2, h3, h4, h5, r⟩ := F
  exact ⟨cf, i, k, f, st, cell, h1, h2, h3, h4, K.2.1 _ _ h5 nin0, r⟩
theorem own_fldI {args : Array Value} {s : State} {t : Term} {C n d : String} {a : Addr} {k : Int32} (ht : t.eval args s none [] s = some (.ref a)) (h : (Cond.eq (Term.field t C n d) (Term.int k)).value args s none s [] = some true) : Fld s s.heap a C n d (.int k) := by
  apply Fld.start
  have e := fld_at (C := C) (n := n) (dd := d) ht
  have ek : (Term.int k).eval args s none [] s = some (.int k) := Term.int_eval k
  cases hf : s.fieldOf? a C n d with
  | none => rw [hf] at e; simp [Cond.value, e] at h
  | some v =>
    rw [hf] at e
    cases v <;> simp [Cond.value, e, ek] at h
    subst h; rfl
theorem own_fldJ {args : Array Value} {s : State} {t : Term} {C n d : String} {a : Addr} {k : Int64} (ht : t.eval args s none [] s = some (.ref a)) (h : (Cond.eq (Term.field t C n d) (Term.long k)).value args s none s [] = some true) : Fld s s.heap a C n d (.long k) := by
  apply Fld.start
  have e := fld_at (C := C) (n := n) (dd := d) ht
  have ek : (Term.long k).eval args s none [] s = some (.long k) := by simp [Term.eval]
  cases hf : s.fieldOf? a C n d with
  | none => rw [hf] at e; simp [Cond.value, e] at h
  | some v =>
    rw [hf] at e
    cases v <;> simp [Cond.value, e, ek] at h
    subst h; rfl
theorem d_prog_5_method_2_0 : decode prog_5_method_2_code 0 = .ok (.iload_n 0, 1) := by decide +kernel
theorem d_prog_5_method_2_1 : decode prog_5_method_2_code 1 = .ok (.ifCond .eq 9, 3) := by decide +kernel
theorem d_prog_5_method_2_10 : decode prog_5_method_2_code 10 = .ok (.getstatic 17, 3) := by decide +kernel
theorem d_prog_5_method_2_13 : decode prog_5_method_2_code 13 = .ok (.areturn, 1) := by decide +kernel
theorem d_prog_5_method_4_0 : decode prog_5_method_4_code 0 = .ok (.aload_n 0, 1) := by decide +kernel
theorem d_prog_5_method_4_1 : decode prog_5_method_4_code 1 = .ok (.getfield 7, 3) := by decide +kernel
theorem d_prog_5_method_4_4 : decode prog_5_method_4_code 4 = .ok (.ireturn, 1) := by decide +kernel
theorem d_prog_5_method_2_4 : decode prog_5_method_2_code 4 = .ok (.getstatic 13, 3) := by decide +kernel
theorem d_prog_5_method_2_7 : decode prog_5_method_2_code 7 = .ok (.goto 6, 3) := by decide +kernel
theorem d_prog_5_method_3_0 : decode prog_5_method_3_code 0 = .ok (.getstatic 20, 3) := by decide +kernel
theorem d_prog_5_method_3_3 : decode prog_5_method_3_code 3 = .ok (.areturn, 1) := by decide +kernel
theorem pd_0 : parseMethodDescriptor "(Z)Lcom/example/falsify/falsify/BoolValue;" = some ⟨[.boolean], some (.object "com/example/falsify/falsify/BoolValue")⟩ := by decide +kernel
theorem pd_1 : parseMethodDescriptor "()Z" = some ⟨[], some .boolean⟩ := by decide +kernel
theorem pd_2 : parseMethodDescriptor "()Lcom/example/falsify/falsify/Type;" = some ⟨[], some (.object "com/example/falsify/falsify/Type")⟩ := by decide +kernel
theorem ef_of0 (m : MethodId) (x0 : Int32) : entryFrame m #[(.int x0)] 1 = mkF m 0 #[iv x0] [] := by first | (simp [entryFrame, mkF, argsToLocals, Value.category]; done) | rfl
theorem pn_of0 : plainName "com/example/falsify/falsify/BoolValue" = true := by first | (simp [plainName, overriddenIn]; done) | decide +kernel
def Q_of0 (Z : State) (p1 : Int32) (aF : Addr) (aT : Addr) (h0 : Heap) (n0 : Nat) (v : Option Value) (h : Heap) (L : List Loc) : Prop := v = some (.ref aF) ∧ Fr n0 L ∧ h = h0
set_option maxRecDepth 65536 in
set_option maxHeartbeats 40000000 in
theorem rm_of0 (l : Launch) (Z : State) (a0 : Array Value) (hw : ∀ d ∈ tables_1, d.before a0 Z = true) (ws : List Jvm.Cond) (p1 : Int32) (aF : Addr) (aT : Addr) (h0 : Heap) (n0 : Nat) (Z0 : n0 ≤ h0.size) (S_aF : Sta Z h0 "com/example/falsify/falsify/BoolValue" "FALSE" "Lcom/example/falsify/falsify/BoolValue;" (.ref aF)) (S_aT : Sta Z h0 "com/example/falsify/falsify/BoolValue" "TRUE" "Lcom/example/falsify/falsify/BoolValue;" (.ref aT)) (hp : p1 = (0 : Int32)) :
    MetFree l (⟨"com/example/falsify/falsify/BoolValue", "of", "(Z)Lcom/example/falsify/falsify/BoolValue;"⟩ : MethodName) (head1 (Jvm.Cond.code (⟨"com/example/falsify/falsify/BoolValue", "of", "(Z)Lcom/example/falsify/falsify/BoolValue;"⟩ : MethodName) prog_5_method_2_code 1 (some (.object "com/example/falsify/falsify/BoolValue")) :: ws) ({ frames := 0, cells := 0, slots := 0, locals := 0 } : Room)) (fun a U => a = #[(.int p1)] ∧ Z.Warmed39 U.vm ∧ U.heap = h0) (fun _ _ _ _ _ => True) (fun _ U o U' => ∃ v L, o = .returned v ∧ Q_of0 Z p1 aF aT h0 n0 v U'.heap L ∧ FrameEnd U o U' L ({ frames := 0, cells := 0, slots := 0, locals := 0 } : Room).cells ({ frames := 0, cells := 0, slots := 0, locals := 0 } : Room).slots) := by
  refine MetFree.of_bodySF (plainFor_of_name pn_of0) hisR ?_
  intro p e s m args below meth c s₁ Bd hml0 hP hK
  obtain ⟨rfl, hZ, hh⟩ := hP
  have hx := Bd.exec
  have hby := Bd.bytes
  have hml : c.maxLocals = 1 := hml0
  have hown : s.vm.findClass "com/example/falsify/falsify/BoolValue" = some m.cls := findClass_of_methodNamed Bd.named
  have hnm := (name_of_methodNamed Bd.named Bd.method).1
  have X0 : Stand p l e ({ frames := 0, cells := 0, slots := 0, locals := 0 } : Room) s m #[(.int p1)] below meth c s₁ [] 0 0 := Stand.of_body Bd
  have e0 : s₁.heap = h0 := by rw [← hh, Bd.state]; rfl
  have N0 := Fr.nil n0
  refine Go.out ?_
  refine Go.pre (fun t k => castTop (ef_of0 m p1) k) ?_
  show Go p e below _ (s₁.setTop (mkF m 0 #[iv p1] []))
  refine Go.pre (fun _ k => XS.iloadN X0.here hx rfl (hb hby d_prog_5_method_2_0) rfl k) ?_
  show Go p e below _ (s₁.setTop (mkF m 1 #[iv p1] [(.int p1)]))
  refine Go.pre (fun _ k => XS.ifYes X0.here hx rfl (pc0 := 1) (pc' := 10) rfl (hb hby d_prog_5_method_2_1) rfl ((if0 _ _).trans (teq hp).1) (by decide) (by decide) k) ?_
  show Go p e below _ (s₁.setTop (mkF m 10 #[iv p1] []))
  obtain ⟨T1, X1, e1, st1⟩ := getS2 X0 hx hZ hown (host := "") (Or.inl (hw _ (List.mem_of_getElem? (i := 4) rfl))) Via.refl e0 S_aF (g := (mkF m 10 #[iv p1] [])) rfl (hb hby d_prog_5_method_2_10)
  refine Go.pre st1 ?_
  show Go p e below _ (T1.setTop (mkF m 13 #[iv p1] [(.ref aF)]))
  obtain ⟨fs, hr, hrun, hended, hW, hsame⟩ := X1.leave (v := some (.ref aF)) (fun h => by rw [Bd.returns] at h; cases h)
  refine Go.fin (retOut X1 hx Bd.returns rfl (Or.inr (Or.inr (Or.inr (Or.inr ⟨rfl, rfl, rfl⟩)))) (hb hby d_prog_5_method_2_13) hr) ⟨hrun, hended, _, _, rfl, ?_, ⟨_, rfl⟩, hW, hsame.mono (by decide) (by decide)⟩
  show Q_of0 Z p1 aF aT h0 n0 _ T1.heap _
  rw [e1]
  exact ⟨rfl, N0, rfl⟩

theorem ef_as0 (m : MethodId) (x0 : Addr) : entryFrame m #[(.ref x0)] 1 = mkF m 0 #[rv x0] [] := by first | (simp [entryFrame, mkF, argsToLocals, Value.category]; done) | rfl
theorem pn_as0 : plainName "com/example/falsify/falsify/BoolValue" = true := by first | (simp [plainName, overriddenIn]; done) | decide +kernel
def Q_as0 (Z : State) (a1 : Addr) (h0 : Heap) (n0 : Nat) (v : Option Value) (h : Heap) (L : List Loc) : Prop := v = some (.int 0) ∧ Fr n0 L ∧ h = h0
set_option maxRecDepth 65536 in
set_option maxHeartbeats 40000000 in
theorem rm_as0 (l : Launch) (Z : State) (a0 : Array Value) (hw : ∀ d ∈ tables_1, d.before a0 Z = true) (ws : List Jvm.Cond) (a1 : Addr) (h0 : Heap) (n0 : Nat) (Z0 : n0 ≤ h0.size) (F_v : Fld Z h0 a1 "com/example/falsify/falsify/BoolValue" "value" "Z" (.int (0 : Int32))) :
    MetFree l (⟨"com/example/falsify/falsify/BoolValue", "asBoolean", "()Z"⟩ : MethodName) (head1 (Jvm.Cond.code (⟨"com/example/falsify/falsify/BoolValue", "asBoolean", "()Z"⟩ : MethodName) prog_5_method_4_code 1 (some .boolean) :: ws) ({ frames := 0, cells := 0, slots := 0, locals := 0 } : Room)) (fun a U => a = #[(.ref a1)] ∧ Z.Warmed39 U.vm ∧ U.heap = h0) (fun _ _ _ _ _ => True) (fun _ U o U' => ∃ v L, o = .returned v ∧ Q_as0 Z a1 h0 n0 v U'.heap L ∧ FrameEnd U o U' L ({ frames := 0, cells := 0, slots := 0, locals := 0 } : Room).cells ({ frames := 0, cells := 0, slots := 0, locals := 0 } : Room).slots) := by
  refine MetFree.of_bodySF (plainFor_of_name pn_as0) hisR ?_
  intro p e s m args below meth c s₁ Bd hml0 hP hK
  obtain ⟨rfl, hZ, hh⟩ := hP
  have hx := Bd.exec
  have hby := Bd.bytes
  have hml : c.maxLocals = 1 := hml0
  have hown : s.vm.findClass "com/example/falsify/falsify/BoolValue" = some m.cls := findClass_of_methodNamed Bd.named
  have hnm := (name_of_methodNamed Bd.named Bd.method).1
  have X0 : Stand p l e ({ frames := 0, cells := 0, slots := 0, locals := 0 } : Room) s m #[(.ref a1)] below meth c s₁ [] 0 0 := Stand.of_body Bd
  have e0 : s₁.heap = h0 := by rw [← hh, Bd.state]; rfl
  have N0 := Fr.nil n0
  refine Go.out ?_
  refine Go.pre (fun t k => castTop (ef_as0 m a1) k) ?_
  show Go p e below _ (s₁.setTop (mkF m 0 #[rv a1] []))
  refine Go.pre (fun _ k => XS.aloadN X0.here hx rfl (hb hby d_prog_5_method_4_0) rfl rfl k) ?_
  show Go p e below _ (s₁.setTop (mkF m 1 #[rv a1] [(.ref a1)]))
  obtain ⟨T1, X1, e1, st1⟩ := getF X0 hx hZ hown (host := "") (Or.inl (hw _ (List.mem_of_getElem? (i := 13) rfl))) Via.refl e0 F_v (g := (mkF m 1 #[rv a1] [(.ref a1)])) rfl rfl (hb hby d_prog_5_method_4_1)
  refine Go.pre st1 ?_
  show Go p e below _ (T1.setTop (mkF m 4 #[rv a1] [(.int (0 : Int32))]))
  obtain ⟨fs, hr, hrun, hended, hW, hsame⟩ := X1.leave (v := some (.int (0 : Int32))) (fun h => by rw [Bd.returns] at h; cases h)
  refine Go.fin (retN X1 hx (t := .boolean) Bd.returns (by simp) (hb hby d_prog_5_method_4_4) hr) ⟨hrun, hended, _, _, rfl, ?_, ⟨_, rfl⟩, hW, hsame.mono (by decide) (by decide)⟩
  show Q_as0 Z a1 h0 n0 _ T1.heap _
  rw [e1]
  exact ⟨rfl, N0, rfl⟩

theorem ef_of1 (m : MethodId) (x0 : Int32) : entryFrame m #[(.int x0)] 1 = mkF m 0 #[iv x0] [] := by first | (simp [entryFrame, mkF, argsToLocals, Value.category]; done) | rfl
theorem pn_of1 : plainName "com/example/falsify/falsify/BoolValue" = true := by first | (simp [plainName, overriddenIn]; done) | decide +kernel
def Q_of1 (Z : State) (p1 : Int32) (aF : Addr) (aT : Addr) (h0 : Heap) (n0 : Nat) (v : Option Value) (h : Heap) (L : List Loc) : Prop := v = some (.ref aT) ∧ Fr n0 L ∧ h = h0
set_option maxRecDepth 65536 in
set_option maxHeartbeats 40000000 in
theorem rm_of1 (l : Launch) (Z : State) (a0 : Array Value) (hw : ∀ d ∈ tables_1, d.before a0 Z = true) (ws : List Jvm.Cond) (p1 : Int32) (aF : Addr) (aT : Addr) (h0 : Heap) (n0 : Nat) (Z0 : n0 ≤ h0.size) (S_aF : Sta Z h0 "com/example/falsify/falsify/BoolValue" "FALSE" "Lcom/example/falsify/falsify/BoolValue;" (.ref aF)) (S_aT : Sta Z h0 "com/example/falsify/falsify/BoolValue" "TRUE" "Lcom/example/falsify/falsify/BoolValue;" (.ref aT)) (hp : ¬ p1 = (0 : Int32)) :
    MetFree l (⟨"com/example/falsify/falsify/BoolValue", "of", "(Z)Lcom/example/falsify/falsify/BoolValue;"⟩ : MethodName) (head1 (Jvm.Cond.code (⟨"com/example/falsify/falsify/BoolValue", "of", "(Z)Lcom/example/falsify/falsify/BoolValue;"⟩ : MethodName) prog_5_method_2_code 1 (some (.object "com/example/falsify/falsify/BoolValue")) :: ws) ({ frames := 0, cells := 0, slots := 0, locals := 0 } : Room)) (fun a U => a = #[(.int p1)] ∧ Z.Warmed39 U.vm ∧ U.heap = h0) (fun _ _ _ _ _ => True) (fun _ U o U' => ∃ v L, o = .returned v ∧ Q_of1 Z p1 aF aT h0 n0 v U'.heap L ∧ FrameEnd U o U' L ({ frames := 0, cells := 0, slots := 0, locals := 0 } : Room).cells ({ frames := 0, cells := 0, slots := 0, locals := 0 } : Room).slots) := by
  refine MetFree.of_bodySF (plainFor_of_name pn_of1) hisR ?_
  intro p e s m args below meth c s₁ Bd hml0 hP hK
  obtain ⟨rfl, hZ, hh⟩ := hP
  have hx := Bd.exec
  have hby := Bd.bytes
  have hml : c.maxLocals = 1 := hml0
  have hown : s.vm.findClass "com/example/falsify/falsify/BoolValue" = some m.cls := findClass_of_methodNamed Bd.named
  have hnm := (name_of_methodNamed Bd.named Bd.method).1
  have X0 : Stand p l e ({ frames := 0, cells := 0, slots := 0, locals := 0 } : Room) s m #[(.int p1)] below meth c s₁ [] 0 0 := Stand.of_body Bd
  have e0 : s₁.heap = h0 := by rw [← hh, Bd.state]; rfl
  have N0 := Fr.nil n0
  refine Go.out ?_
  refine Go.pre (fun t k => castTop (ef_of1 m p1) k) ?_
  show Go p e below _ (s₁.setTop (mkF m 0 #[iv p1] []))
  refine Go.pre (fun _ k => XS.iloadN X0.here hx rfl (hb hby d_prog_5_method_2_0) rfl k) ?_
  show Go p e below _ (s₁.setTop (mkF m 1 #[iv p1] [(.int p1)]))
  refine Go.pre (fun _ k => XS.ifNo X0.here hx rfl (hb hby d_prog_5_method_2_1) rfl ((if0 _ _).trans (feq hp).1) k) ?_
  show Go p e below _ (s₁.setTop (mkF m 4 #[iv p1] []))
  obtain ⟨T1, X1, e1, st1⟩ := getS2 X0 hx hZ hown (host := "") (Or.inl (hw _ (List.mem_of_getElem? (i := 6) rfl))) Via.refl e0 S_aT (g := (mkF m 4 #[iv p1] [])) rfl (hb hby d_prog_5_method_2_4)
  refine Go.pre st1 ?_
  show Go p e below _ (T1.setTop (mkF m 7 #[iv p1] [(.ref aT)]))
  refine Go.pre (fun _ k => XS.goto X1.here hx rfl (pc0 := 7) (pc' := 13) rfl (hb hby d_prog_5_method_2_7) (by decide) (by decide) k) ?_
  show Go p e below _ (T1.setTop (mkF m 13 #[iv p1] [(.ref aT)]))
  obtain ⟨fs, hr, hrun, hended, hW, hsame⟩ := X1.leave (v := some (.ref aT)) (fun h => by rw [Bd.returns] at h; cases h)
  refine Go.fin (retOut X1 hx Bd.returns rfl (Or.inr (Or.inr (Or.inr (Or.inr ⟨rfl, rfl, rfl⟩)))) (hb hby d_prog_5_method_2_13) hr) ⟨hrun, hended, _, _, rfl, ?_, ⟨_, rfl⟩, hW, hsame.mono (by decide) (by decide)⟩
  show Q_of1 Z p1 aF aT h0 n0 _ T1.heap _
  rw [e1]
  exact ⟨rfl, N0, rfl⟩

theorem ef_as1 (m : MethodId) (x0 : Addr) : entryFrame m #[(.ref x0)] 1 = mkF m 0 #[rv x0] [] := by first | (simp [entryFrame, mkF, argsToLocals, Value.category]; done) | rfl
theorem pn_as1 : plainName "com/example/falsify/falsify/BoolValue" = true := by first | (simp [plainName, overriddenIn]; done) | decide +kernel
def Q_as1 (Z : State) (a1 : Addr) (h0 : Heap) (n0 : Nat) (v : Option Value) (h : Heap) (L : List Loc) : Prop := v = some (.int 1) ∧ Fr n0 L ∧ h = h0
set_option maxRecDepth 65536 in
set_option maxHeartbeats 40000000 in
theorem rm_as1 (l : Launch) (Z : State) (a0 : Array Value) (hw : ∀ d ∈ tables_1, d.before a0 Z = true) (ws : List Jvm.Cond) (a1 : Addr) (h0 : Heap) (n0 : Nat) (Z0 : n0 ≤ h0.size) (F_v : Fld Z h0 a1 "com/example/falsify/falsify/BoolValue" "value" "Z" (.int (1 : Int32))) :
    MetFree l (⟨"com/example/falsify/falsify/BoolValue", "asBoolean", "()Z"⟩ : MethodName) (head1 (Jvm.Cond.code (⟨"com/example/falsify/falsify/BoolValue", "asBoolean", "()Z"⟩ : MethodName) prog_5_method_4_code 1 (some .boolean) :: ws) ({ frames := 0, cells := 0, slots := 0, locals := 0 } : Room)) (fun a U => a = #[(.ref a1)] ∧ Z.Warmed39 U.vm ∧ U.heap = h0) (fun _ _ _ _ _ => True) (fun _ U o U' => ∃ v L, o = .returned v ∧ Q_as1 Z a1 h0 n0 v U'.heap L ∧ FrameEnd U o U' L ({ frames := 0, cells := 0, slots := 0, locals := 0 } : Room).cells ({ frames := 0, cells := 0, slots := 0, locals := 0 } : Room).slots) := by
  refine MetFree.of_bodySF (plainFor_of_name pn_as1) hisR ?_
  intro p e s m args below meth c s₁ Bd hml0 hP hK
  obtain ⟨rfl, hZ, hh⟩ := hP
  have hx := Bd.exec
  have hby := Bd.bytes
  have hml : c.maxLocals = 1 := hml0
  have hown : s.vm.findClass "com/example/falsify/falsify/BoolValue" = some m.cls := findClass_of_methodNamed Bd.named
  have hnm := (name_of_methodNamed Bd.named Bd.method).1
  have X0 : Stand p l e ({ frames := 0, cells := 0, slots := 0, locals := 0 } : Room) s m #[(.ref a1)] below meth c s₁ [] 0 0 := Stand.of_body Bd
  have e0 : s₁.heap = h0 := by rw [← hh, Bd.state]; rfl
  have N0 := Fr.nil n0
  refine Go.out ?_
  refine Go.pre (fun t k => castTop (ef_as1 m a1) k) ?_
  show Go p e below _ (s₁.setTop (mkF m 0 #[rv a1] []))
  refine Go.pre (fun _ k => XS.aloadN X0.here hx rfl (hb hby d_prog_5_method_4_0) rfl rfl k) ?_
  show Go p e below _ (s₁.setTop (mkF m 1 #[rv a1] [(.ref a1)]))
  obtain ⟨T1, X1, e1, st1⟩ := getF X0 hx hZ hown (host := "") (Or.inl (hw _ (List.mem_of_getElem? (i := 13) rfl))) Via.refl e0 F_v (g := (mkF m 1 #[rv a1] [(.ref a1)])) rfl rfl (hb hby d_prog_5_method_4_1)
  refine Go.pre st1 ?_
  show Go p e below _ (T1.setTop (mkF m 4 #[rv a1] [(.int (1 : Int32))]))
  obtain ⟨fs, hr, hrun, hended, hW, hsame⟩ := X1.leave (v := some (.int (1 : Int32))) (fun h => by rw [Bd.returns] at h; cases h)
  refine Go.fin (retN X1 hx (t := .boolean) Bd.returns (by simp) (hb hby d_prog_5_method_4_4) hr) ⟨hrun, hended, _, _, rfl, ?_, ⟨_, rfl⟩, hW, hsame.mono (by decide) (by decide)⟩
  show Q_as1 Z a1 h0 n0 _ T1.heap _
  rw [e1]
  exact ⟨rfl, N0, rfl⟩

theorem ef_ty (m : MethodId) (x0 : Addr) : entryFrame m #[(.ref x0)] 1 = mkF m 0 #[rv x0] [] := by first | (simp [entryFrame, mkF, argsToLocals, Value.category]; done) | rfl
theorem pn_ty : plainName "com/example/falsify/falsify/BoolValue" = true := by first | (simp [plainName, overriddenIn]; done) | decide +kernel
def Q_ty (Z : State) (a1 : Addr) (aB : Addr) (h0 : Heap) (n0 : Nat) (v : Option Value) (h : Heap) (L : List Loc) : Prop := v = some (.ref aB) ∧ Fr n0 L ∧ h = h0
set_option maxRecDepth 65536 in
set_option maxHeartbeats 40000000 in
theorem rm_ty (l : Launch) (Z : State) (a0 : Array Value) (hw : ∀ d ∈ tables_1, d.before a0 Z = true) (ws : List Jvm.Cond) (a1 : Addr) (aB : Addr) (h0 : Heap) (n0 : Nat) (Z0 : n0 ≤ h0.size) (S_aB : Sta Z h0 "com/example/falsify/falsify/Type" "BOOL" "Lcom/example/falsify/falsify/Type;" (.ref aB)) :
    MetFree l (⟨"com/example/falsify/falsify/BoolValue", "getType", "()Lcom/example/falsify/falsify/Type;"⟩ : MethodName) (head1 (Jvm.Cond.code (⟨"com/example/falsify/falsify/BoolValue", "getType", "()Lcom/example/falsify/falsify/Type;"⟩ : MethodName) prog_5_method_3_code 1 (some (.object "com/example/falsify/falsify/Type")) :: ws) ({ frames := 0, cells := 0, slots := 0, locals := 0 } : Room)) (fun a U => a = #[(.ref a1)] ∧ Z.Warmed39 U.vm ∧ U.heap = h0) (fun _ _ _ _ _ => True) (fun _ U o U' => ∃ v L, o = .returned v ∧ Q_ty Z a1 aB h0 n0 v U'.heap L ∧ FrameEnd U o U' L ({ frames := 0, cells := 0, slots := 0, locals := 0 } : Room).cells ({ frames := 0, cells := 0, slots := 0, locals := 0 } : Room).slots) := by
  refine MetFree.of_bodySF (plainFor_of_name pn_ty) hisR ?_
  intro p e s m args below meth c s₁ Bd hml0 hP hK
  obtain ⟨rfl, hZ, hh⟩ := hP
  have hx := Bd.exec
  have hby := Bd.bytes
  have hml : c.maxLocals = 1 := hml0
  have hown : s.vm.findClass "com/example/falsify/falsify/BoolValue" = some m.cls := findClass_of_methodNamed Bd.named
  have hnm := (name_of_methodNamed Bd.named Bd.method).1
  have X0 : Stand p l e ({ frames := 0, cells := 0, slots := 0, locals := 0 } : Room) s m #[(.ref a1)] below meth c s₁ [] 0 0 := Stand.of_body Bd
  have e0 : s₁.heap = h0 := by rw [← hh, Bd.state]; rfl
  have N0 := Fr.nil n0
  refine Go.out ?_
  refine Go.pre (fun t k => castTop (ef_ty m a1) k) ?_
  show Go p e below _ (s₁.setTop (mkF m 0 #[rv a1] []))
  obtain ⟨T1, X1, e1, st1⟩ := getS2 X0 hx hZ hown (host := "") (Or.inl (hw _ (List.mem_of_getElem? (i := 20) rfl))) Via.refl e0 S_aB (g := (mkF m 0 #[rv a1] [])) rfl (hb hby d_prog_5_method_3_0)
  refine Go.pre st1 ?_
  show Go p e below _ (T1.setTop (mkF m 3 #[rv a1] [(.ref aB)]))
  obtain ⟨fs, hr, hrun, hended, hW, hsame⟩ := X1.leave (v := some (.ref aB)) (fun h => by rw [Bd.returns] at h; cases h)
  refine Go.fin (retOut X1 hx Bd.returns rfl (Or.inr (Or.inr (Or.inr (Or.inr ⟨rfl, rfl, rfl⟩)))) (hb hby d_prog_5_method_3_3) hr) ⟨hrun, hended, _, _, rfl, ?_, ⟨_, rfl⟩, hW, hsame.mono (by decide) (by decide)⟩
  show Q_ty Z a1 aB h0 n0 _ T1.heap _
  rw [e1]
  exact ⟨rfl, N0, rfl⟩

theorem ef_law (m : MethodId) (x0 : Int32) : entryFrame m #[(.int x0)] maxLocals = mkF m 0 #[iv x0, .unset, .unset, .unset, .unset, .unset, .unset, .unset, .unset, .unset] [] := by first | (simp [entryFrame, mkF, argsToLocals, Value.category, maxLocals]; done) | rfl
theorem pn_law : plainName "com/example/falsify/falsify/BoolValueOfPinLaw" = true := by first | (simp [plainName, overriddenIn]; done) | decide +kernel
def Q_law (Z : State) (p1 : Int32) (aF : Addr) (aT : Addr) (aB : Addr) (h0 : Heap) (n0 : Nat) (v : Option Value) (h : Heap) (L : List Loc) : Prop := v = some (.int 1) ∧ Fr n0 L
set_option maxRecDepth 65536 in
set_option maxHeartbeats 40000000 in
theorem rm_law (l : Launch) (Z : State) (a0 : Array Value) (hw : ∀ d ∈ tables_1, d.before a0 Z = true) (ws : List Jvm.Cond) (p1 : Int32) (aF : Addr) (aT : Addr) (aB : Addr) (h0 : Heap) (n0 : Nat) (Z0 : n0 ≤ h0.size) (S_aF : Sta Z h0 "com/example/falsify/falsify/BoolValue" "FALSE" "Lcom/example/falsify/falsify/BoolValue;" (.ref aF)) (S_aT : Sta Z h0 "com/example/falsify/falsify/BoolValue" "TRUE" "Lcom/example/falsify/falsify/BoolValue;" (.ref aT)) (S_aB : Sta Z h0 "com/example/falsify/falsify/Type" "BOOL" "Lcom/example/falsify/falsify/Type;" (.ref aB)) (E_aF : Exa Z h0 aF "com/example/falsify/falsify/BoolValue") (E_aT : Exa Z h0 aT "com/example/falsify/falsify/BoolValue") (F_aF : Fld Z h0 aF "com/example/falsify/falsify/BoolValue" "value" "Z" (.int (0 : Int32))) (F_aT : Fld Z h0 aT "com/example/falsify/falsify/BoolValue" "value" "Z" (.int (1 : Int32))) (hne : ¬ aF = aT) :
    MetFree l x (head1 (Jvm.Cond.code x code maxLocals ret :: ws) room_1) (fun a U => a = #[(.int p1)] ∧ Z.Warmed39 U.vm ∧ U.heap = h0) (fun _ _ _ _ _ => True) (fun _ U o U' => ∃ v L, o = .returned v ∧ Q_law Z p1 aF aT aB h0 n0 v U'.heap L ∧ FrameEnd U o U' L room_1.cells room_1.slots) := by
  refine MetFree.of_bodySF (plainFor_of_name pn_law) hisR ?_
  intro p e s m args below meth c s₁ Bd hml0 hP hK
  obtain ⟨rfl, hZ, hh⟩ := hP
  have hx := Bd.exec
  have hby := Bd.bytes
  have hml : c.maxLocals = 10 := hml0
  have hown : s.vm.findClass "com/example/falsify/falsify/BoolValueOfPinLaw" = some m.cls := findClass_of_methodNamed Bd.named
  have hnm := (name_of_methodNamed Bd.named Bd.method).1
  have X0 : Stand p l e room_1 s m #[(.int p1)] below meth c s₁ [] 0 0 := Stand.of_body Bd
  have e0 : s₁.heap = h0 := by rw [← hh, Bd.state]; rfl
  have N0 := Fr.nil n0
  refine Go.out ?_
  refine Go.pre (fun t k => castTop (ef_law m p1) k) ?_
  show Go p e below _ (s₁.setTop (mkF m 0 #[iv p1, .unset, .unset, .unset, .unset, .unset, .unset, .unset, .unset, .unset] []))
  refine Go.pre (fun _ k => XS.iloadN X0.here hx rfl (hb hby at_0) rfl k) ?_
  show Go p e below _ (s₁.setTop (mkF m 1 #[iv p1, .unset, .unset, .unset, .unset, .unset, .unset, .unset, .unset, .unset] [(.int p1)]))
  refine Go.pre (fun _ k => XS.iconst X0.here hx rfl (hb hby at_1) k) ?_
  show Go p e below _ (s₁.setTop (mkF m 2 #[iv p1, .unset, .unset, .unset, .unset, .unset, .unset, .unset, .unset, .unset] [(.int (1 : Int32)), (.int p1)]))
  refine Go.pre (fun _ k => XS.iand X0.here hx rfl (hb hby at_2) rfl k) ?_
  show Go p e below _ (s₁.setTop (mkF m 3 #[iv p1, .unset, .unset, .unset, .unset, .unset, .unset, .unset, .unset, .unset] [(.int (p1 &&& (1 : Int32)))]))
  by_cases hc3_1 : (p1 &&& (1 : Int32)) = (0 : Int32)
  · skip
    refine Go.pre (fun _ k => XS.ifYes X0.here hx rfl (pc0 := 3) (pc' := 10) rfl (hb hby at_3) rfl ((if0 _ _).trans (teq hc3_1).1) (by decide) (by decide) k) ?_
    show Go p e below _ (s₁.setTop (mkF m 10 #[iv p1, .unset, .unset, .unset, .unset, .unset, .unset, .unset, .unset, .unset] []))
    refine Go.pre (fun _ k => XS.iconst X0.here hx rfl (hb hby at_10) k) ?_
    show Go p e below _ (s₁.setTop (mkF m 11 #[iv p1, .unset, .unset, .unset, .unset, .unset, .unset, .unset, .unset, .unset] [(.int (0 : Int32))]))
    refine Go.pre (fun _ k => XS.istoreN X0.here hx rfl (hb hby at_11) rfl (l' := #[iv p1, iv (0 : Int32), .unset, .unset, .unset, .unset, .unset, .unset, .unset, .unset]) rfl k) ?_
    show Go p e below _ (s₁.setTop (mkF m 12 #[iv p1, iv (0 : Int32), .unset, .unset, .unset, .unset, .unset, .unset, .unset, .unset] []))
    refine Go.pre (fun _ k => XS.iloadN X0.here hx rfl (hb hby at_12) rfl k) ?_
    show Go p e below _ (s₁.setTop (mkF m 13 #[iv p1, iv (0 : Int32), .unset, .unset, .unset, .unset, .unset, .unset, .unset, .unset] [(.int (0 : Int32))]))
    obtain ⟨_, _, ⟨T2, L2, k2, n2⟩, -, X2, ⟨Lc2, hQ2, l2, y2, z2⟩, st2⟩ := Jvm.LawKit.callS X0 hx (y := (⟨"com/example/falsify/falsify/BoolValue", "of", "(Z)Lcom/example/falsify/falsify/BoolValue;"⟩ : MethodName)) hown (mvT hZ (hw _ (List.mem_of_getElem? (i := 0) rfl))) (mvT hZ (hw _ (List.mem_of_getElem? (i := 1) rfl))) (mvT hZ (hw _ (List.mem_of_getElem? (i := 2) rfl))) (mvT hZ (hw _ (List.mem_of_getElem? (i := 3) rfl))) (by decide) (backOf (W := 0) (rm_of0 l Z a0 hw [] (0 : Int32) aF aT h0 n0 Z0 S_aF S_aT (by decide)) hZ (hw _ (List.mem_of_getElem? (i := 3) rfl)) (hw _ (List.mem_of_getElem? (i := 2) rfl)) (by decide) (by decide)) (g := (mkF m 13 #[iv p1, iv (0 : Int32), .unset, .unset, .unset, .unset, .unset, .unset, .unset, .unset] [(.int (0 : Int32))])) rfl (by rw [hml]; rfl) (argsL := [(.int (0 : Int32))]) (rest := []) (lenOf pd_0 rfl) rfl (by show 2 * 0 + _ ≤ _; exact Nat.le_of_eq rfl) (hb hby at_13) (fun _ _ => ⟨rfl, e0, (by decide : 0 + 0 ≤ _), (by decide : 0 + 0 ≤ _)⟩)
    dsimp only [Pt.U, Pt.locs, Pt.cells, Pt.slots] at X2 l2 y2 z2 st2 hQ2
    subst l2 y2 z2
    refine Go.pre st2 ?_
    obtain ⟨rfl, N2q, eh2⟩ := hQ2
    have N2 := Fr.app N0 N2q
    show Go p e below _ (T2.setTop (mkF m 16 #[iv p1, iv (0 : Int32), .unset, .unset, .unset, .unset, .unset, .unset, .unset, .unset] [(.ref aF)]))
    refine Go.pre (fun _ k => XS.astoreN X2.here hx rfl (hb hby at_16) rfl rfl (l' := #[iv p1, iv (0 : Int32), rv aF, .unset, .unset, .unset, .unset, .unset, .unset, .unset]) rfl k) ?_
    show Go p e below _ (T2.setTop (mkF m 17 #[iv p1, iv (0 : Int32), rv aF, .unset, .unset, .unset, .unset, .unset, .unset, .unset] []))
    refine Go.pre (fun _ k => XS.iloadN X2.here hx rfl (hb hby at_17) rfl k) ?_
    show Go p e below _ (T2.setTop (mkF m 18 #[iv p1, iv (0 : Int32), rv aF, .unset, .unset, .unset, .unset, .unset, .unset, .unset] [(.int (0 : Int32))]))
    obtain ⟨_, _, ⟨T3, L3, k3, n3⟩, -, X3, ⟨Lc3, hQ3, l3, y3, z3⟩, st3⟩ := Jvm.LawKit.callS X2 hx (y := (⟨"com/example/falsify/falsify/BoolValue", "of", "(Z)Lcom/example/falsify/falsify/BoolValue;"⟩ : MethodName)) hown (mvT hZ (hw _ (List.mem_of_getElem? (i := 0) rfl))) (mvT hZ (hw _ (List.mem_of_getElem? (i := 1) rfl))) (mvT hZ (hw _ (List.mem_of_getElem? (i := 2) rfl))) (mvT hZ (hw _ (List.mem_of_getElem? (i := 3) rfl))) (by decide) (backOf (W := 0) (rm_of0 l Z a0 hw [] (0 : Int32) aF aT h0 n0 Z0 S_aF S_aT (by decide)) hZ (hw _ (List.mem_of_getElem? (i := 3) rfl)) (hw _ (List.mem_of_getElem? (i := 2) rfl)) (by decide) (by decide)) (g := (mkF m 18 #[iv p1, iv (0 : Int32), rv aF, .unset, .unset, .unset, .unset, .unset, .unset, .unset] [(.int (0 : Int32))])) rfl (by rw [hml]; rfl) (argsL := [(.int (0 : Int32))]) (rest := []) (lenOf pd_0 rfl) rfl (by show 2 * 0 + _ ≤ _; exact Nat.le_of_eq rfl) (hb hby at_18) (fun _ _ => ⟨rfl, eh2, (by decide : 0 + 0 ≤ _), (by decide : 0 + 0 ≤ _)⟩)
    dsimp only [Pt.U, Pt.locs, Pt.cells, Pt.slots] at X3 l3 y3 z3 st3 hQ3
    subst l3 y3 z3
    refine Go.pre st3 ?_
    obtain ⟨rfl, N3q, eh3⟩ := hQ3
    have N3 := Fr.app N2 N3q
    show Go p e below _ (T3.setTop (mkF m 21 #[iv p1, iv (0 : Int32), rv aF, .unset, .unset, .unset, .unset, .unset, .unset, .unset] [(.ref aF)]))
    refine Go.pre (fun _ k => XS.astoreN X3.here hx rfl (hb hby at_21) rfl rfl (l' := #[iv p1, iv (0 : Int32), rv aF, rv aF, .unset, .unset, .unset, .unset, .unset, .unset]) rfl k) ?_
    show Go p e below _ (T3.setTop (mkF m 22 #[iv p1, iv (0 : Int32), rv aF, rv aF, .unset, .unset, .unset, .unset, .unset, .unset] []))
    refine Go.pre (fun _ k => XS.iloadN X3.here hx rfl (hb hby at_22) rfl k) ?_
    show Go p e below _ (T3.setTop (mkF m 23 #[iv p1, iv (0 : Int32), rv aF, rv aF, .unset, .unset, .unset, .unset, .unset, .unset] [(.int (0 : Int32))]))
    refine Go.pre (fun _ k => XS.ifNo X3.here hx rfl (hb hby at_23) rfl ((if0 _ _).trans (teq (by decide : (0 : Int32) = (0 : Int32))).2) k) ?_
    show Go p e below _ (T3.setTop (mkF m 26 #[iv p1, iv (0 : Int32), rv aF, rv aF, .unset, .unset, .unset, .unset, .unset, .unset] []))
    refine Go.pre (fun _ k => XS.iconst X3.here hx rfl (hb hby at_26) k) ?_
    show Go p e below _ (T3.setTop (mkF m 27 #[iv p1, iv (0 : Int32), rv aF, rv aF, .unset, .unset, .unset, .unset, .unset, .unset] [(.int (1 : Int32))]))
    refine Go.pre (fun _ k => XS.goto X3.here hx rfl (pc0 := 27) (pc' := 31) rfl (hb hby at_27) (by decide) (by decide) k) ?_
    show Go p e below _ (T3.setTop (mkF m 31 #[iv p1, iv (0 : Int32), rv aF, rv aF, .unset, .unset, .unset, .unset, .unset, .unset] [(.int (1 : Int32))]))
    obtain ⟨_, _, ⟨T4, L4, k4, n4⟩, -, X4, ⟨Lc4, hQ4, l4, y4, z4⟩, st4⟩ := Jvm.LawKit.callS X3 hx (y := (⟨"com/example/falsify/falsify/BoolValue", "of", "(Z)Lcom/example/falsify/falsify/BoolValue;"⟩ : MethodName)) hown (mvT hZ (hw _ (List.mem_of_getElem? (i := 0) rfl))) (mvT hZ (hw _ (List.mem_of_getElem? (i := 1) rfl))) (mvT hZ (hw _ (List.mem_of_getElem? (i := 2) rfl))) (mvT hZ (hw _ (List.mem_of_getElem? (i := 3) rfl))) (by decide) (backOf (W := 0) (rm_of1 l Z a0 hw [] (1 : Int32) aF aT h0 n0 Z0 S_aF S_aT (by decide)) hZ (hw _ (List.mem_of_getElem? (i := 3) rfl)) (hw _ (List.mem_of_getElem? (i := 2) rfl)) (by decide) (by decide)) (g := (mkF m 31 #[iv p1, iv (0 : Int32), rv aF, rv aF, .unset, .unset, .unset, .unset, .unset, .unset] [(.int (1 : Int32))])) rfl (by rw [hml]; rfl) (argsL := [(.int (1 : Int32))]) (rest := []) (lenOf pd_0 rfl) rfl (by show 2 * 0 + _ ≤ _; exact Nat.le_of_eq rfl) (hb hby at_31) (fun _ _ => ⟨rfl, eh3, (by decide : 0 + 0 ≤ _), (by decide : 0 + 0 ≤ _)⟩)
    dsimp only [Pt.U, Pt.locs, Pt.cells, Pt.slots] at X4 l4 y4 z4 st4 hQ4
    subst l4 y4 z4
    refine Go.pre st4 ?_
    obtain ⟨rfl, N4q, eh4⟩ := hQ4
    have N4 := Fr.app N3 N4q
    show Go p e below _ (T4.setTop (mkF m 34 #[iv p1, iv (0 : Int32), rv aF, rv aF, .unset, .unset, .unset, .unset, .unset, .unset] [(.ref aT)]))
    refine Go.pre (fun _ k => XS.astore X4.here hx rfl (hb hby at_34) rfl rfl (l' := #[iv p1, iv (0 : Int32), rv aF, rv aF, rv aT, .unset, .unset, .unset, .unset, .unset]) rfl k) ?_
    show Go p e below _ (T4.setTop (mkF m 36 #[iv p1, iv (0 : Int32), rv aF, rv aF, rv aT, .unset, .unset, .unset, .unset, .unset] []))
    refine Go.pre (fun _ k => XS.aloadN X4.here hx rfl (hb hby at_36) rfl rfl k) ?_
    show Go p e below _ (T4.setTop (mkF m 37 #[iv p1, iv (0 : Int32), rv aF, rv aF, rv aT, .unset, .unset, .unset, .unset, .unset] [(.ref aF)]))
    refine Go.pre (fun _ k => XS.ifnullNo X4.here hx rfl (hb hby at_37) rfl k) ?_
    show Go p e below _ (T4.setTop (mkF m 40 #[iv p1, iv (0 : Int32), rv aF, rv aF, rv aT, .unset, .unset, .unset, .unset, .unset] []))
    refine Go.pre (fun _ k => XS.aloadN X4.here hx rfl (hb hby at_40) rfl rfl k) ?_
    show Go p e below _ (T4.setTop (mkF m 41 #[iv p1, iv (0 : Int32), rv aF, rv aF, rv aT, .unset, .unset, .unset, .unset, .unset] [(.ref aF)]))
    refine Go.pre (fun _ k => XS.ifnullNo X4.here hx rfl (hb hby at_41) rfl k) ?_
    show Go p e below _ (T4.setTop (mkF m 44 #[iv p1, iv (0 : Int32), rv aF, rv aF, rv aT, .unset, .unset, .unset, .unset, .unset] []))
    refine Go.pre (fun _ k => XS.aload X4.here hx rfl (hb hby at_44) rfl rfl k) ?_
    show Go p e below _ (T4.setTop (mkF m 46 #[iv p1, iv (0 : Int32), rv aF, rv aF, rv aT, .unset, .unset, .unset, .unset, .unset] [(.ref aT)]))
    refine Go.pre (fun _ k => XS.ifnonnullYes X4.here hx rfl (pc0 := 46) (pc' := 51) rfl (hb hby at_46) rfl (by decide) (by decide) k) ?_
    show Go p e below _ (T4.setTop (mkF m 51 #[iv p1, iv (0 : Int32), rv aF, rv aF, rv aT, .unset, .unset, .unset, .unset, .unset] []))
    refine Go.pre (fun _ k => XS.aloadN X4.here hx rfl (hb hby at_51) rfl rfl k) ?_
    show Go p e below _ (T4.setTop (mkF m 52 #[iv p1, iv (0 : Int32), rv aF, rv aF, rv aT, .unset, .unset, .unset, .unset, .unset] [(.ref aF)]))
    obtain ⟨cq5, kq5, q5a, q5b, q5c⟩ := isOf hZ eh4 E_aF
    obtain ⟨_, _, ⟨T5, L5, k5, n5⟩, -, X5, ⟨Lc5, hQ5, l5, y5, z5⟩, st5⟩ := X4.virtualBack hx (y := (⟨"com/example/falsify/falsify/BoolValue", "asBoolean", "()Z"⟩ : MethodName)) (z := (⟨"com/example/falsify/falsify/BoolValue", "asBoolean", "()Z"⟩ : MethodName)) hown (mvT hZ (hw _ (List.mem_of_getElem? (i := 8) rfl))) (mvT hZ (hw _ (List.mem_of_getElem? (i := 9) rfl))) (notFace_of_selects (args := #[]) (mvT hZ (hw _ (List.mem_of_getElem? (i := 11) rfl)))) (mvT hZ (hw _ (List.mem_of_getElem? (i := 11) rfl))) (mvT hZ (hw _ (List.mem_of_getElem? (i := 10) rfl))) (by decide) (backOf (W := 0) (rm_as0 l Z a0 hw [] aF h0 n0 Z0 F_aF) hZ (hw _ (List.mem_of_getElem? (i := 12) rfl)) (hw _ (List.mem_of_getElem? (i := 2) rfl)) (by decide) (by decide)) q5a q5c (g := (mkF m 52 #[iv p1, iv (0 : Int32), rv aF, rv aF, rv aT, .unset, .unset, .unset, .unset, .unset] [(.ref aF)])) rfl (by rw [hml]; rfl) (Steps.refl _) (argsL := []) (rest := []) (lenOf pd_1 rfl) rfl (by show 2 * 0 + _ ≤ _; exact Nat.le_of_eq rfl) (hb hby at_52) (fun _ _ => ⟨rfl, eh4, (by decide : 0 + 0 ≤ _), (by decide : 0 + 0 ≤ _)⟩)
    dsimp only [Pt.U, Pt.locs, Pt.cells, Pt.slots] at X5 l5 y5 z5 st5 hQ5
    subst l5 y5 z5
    refine Go.pre (own_cut st5) ?_
    obtain ⟨rfl, N5q, eh5⟩ := hQ5
    have N5 := Fr.app N4 N5q
    show Go p e below _ (T5.setTop (mkF m 55 #[iv p1, iv (0 : Int32), rv aF, rv aF, rv aT, .unset, .unset, .unset, .unset, .unset] [(.int (0 : Int32))]))
    refine Go.pre (fun _ k => XS.iloadN X5.here hx rfl (hb hby at_55) rfl k) ?_
    show Go p e below _ (T5.setTop (mkF m 56 #[iv p1, iv (0 : Int32), rv aF, rv aF, rv aT, .unset, .unset, .unset, .unset, .unset] [(.int (0 : Int32)), (.int (0 : Int32))]))
    refine Go.pre (fun _ k => XS.icmpNo X5.here hx rfl (hb hby at_56) rfl (teq (by decide : (0 : Int32) = (0 : Int32))).2 k) ?_
    show Go p e below _ (T5.setTop (mkF m 59 #[iv p1, iv (0 : Int32), rv aF, rv aF, rv aT, .unset, .unset, .unset, .unset, .unset] []))
    refine Go.pre (fun _ k => XS.iconst X5.here hx rfl (hb hby at_59) k) ?_
    show Go p e below _ (T5.setTop (mkF m 60 #[iv p1, iv (0 : Int32), rv aF, rv aF, rv aT, .unset, .unset, .unset, .unset, .unset] [(.int (1 : Int32))]))
    refine Go.pre (fun _ k => XS.goto X5.here hx rfl (pc0 := 60) (pc' := 64) rfl (hb hby at_60) (by decide) (by decide) k) ?_
    show Go p e below _ (T5.setTop (mkF m 64 #[iv p1, iv (0 : Int32), rv aF, rv aF, rv aT, .unset, .unset, .unset, .unset, .unset] [(.int (1 : Int32))]))
    refine Go.pre (fun _ k => XS.istore X5.here hx rfl (hb hby at_64) rfl (l' := #[iv p1, iv (0 : Int32), rv aF, rv aF, rv aT, iv (1 : Int32), .unset, .unset, .unset, .unset]) rfl k) ?_
    show Go p e below _ (T5.setTop (mkF m 66 #[iv p1, iv (0 : Int32), rv aF, rv aF, rv aT, iv (1 : Int32), .unset, .unset, .unset, .unset] []))
    refine Go.pre (fun _ k => XS.aload X5.here hx rfl (hb hby at_66) rfl rfl k) ?_
    show Go p e below _ (T5.setTop (mkF m 68 #[iv p1, iv (0 : Int32), rv aF, rv aF, rv aT, iv (1 : Int32), .unset, .unset, .unset, .unset] [(.ref aT)]))
    obtain ⟨cq6, kq6, q6a, q6b, q6c⟩ := isOf hZ eh5 E_aT
    obtain ⟨_, _, ⟨T6, L6, k6, n6⟩, -, X6, ⟨Lc6, hQ6, l6, y6, z6⟩, st6⟩ := X5.virtualBack hx (y := (⟨"com/example/falsify/falsify/BoolValue", "asBoolean", "()Z"⟩ : MethodName)) (z := (⟨"com/example/falsify/falsify/BoolValue", "asBoolean", "()Z"⟩ : MethodName)) hown (mvT hZ (hw _ (List.mem_of_getElem? (i := 8) rfl))) (mvT hZ (hw _ (List.mem_of_getElem? (i := 9) rfl))) (notFace_of_selects (args := #[]) (mvT hZ (hw _ (List.mem_of_getElem? (i := 11) rfl)))) (mvT hZ (hw _ (List.mem_of_getElem? (i := 11) rfl))) (mvT hZ (hw _ (List.mem_of_getElem? (i := 10) rfl))) (by decide) (backOf (W := 0) (rm_as1 l Z a0 hw [] aT h0 n0 Z0 F_aT) hZ (hw _ (List.mem_of_getElem? (i := 12) rfl)) (hw _ (List.mem_of_getElem? (i := 2) rfl)) (by decide) (by decide)) q6a q6c (g := (mkF m 68 #[iv p1, iv (0 : Int32), rv aF, rv aF, rv aT, iv (1 : Int32), .unset, .unset, .unset, .unset] [(.ref aT)])) rfl (by rw [hml]; rfl) (Steps.refl _) (argsL := []) (rest := []) (lenOf pd_1 rfl) rfl (by show 2 * 0 + _ ≤ _; exact Nat.le_of_eq rfl) (hb hby at_68) (fun _ _ => ⟨rfl, eh5, (by decide : 0 + 0 ≤ _), (by decide : 0 + 0 ≤ _)⟩)
    dsimp only [Pt.U, Pt.locs, Pt.cells, Pt.slots] at X6 l6 y6 z6 st6 hQ6
    subst l6 y6 z6
    refine Go.pre (own_cut st6) ?_
    obtain ⟨rfl, N6q, eh6⟩ := hQ6
    have N6 := Fr.app N5 N6q
    show Go p e below _ (T6.setTop (mkF m 71 #[iv p1, iv (0 : Int32), rv aF, rv aF, rv aT, iv (1 : Int32), .unset, .unset, .unset, .unset] [(.int (1 : Int32))]))
    refine Go.pre (fun _ k => XS.iloadN X6.here hx rfl (hb hby at_71) rfl k) ?_
    show Go p e below _ (T6.setTop (mkF m 72 #[iv p1, iv (0 : Int32), rv aF, rv aF, rv aT, iv (1 : Int32), .unset, .unset, .unset, .unset] [(.int (0 : Int32)), (.int (1 : Int32))]))
    refine Go.pre (fun _ k => XS.ifNo X6.here hx rfl (hb hby at_72) rfl ((if0 _ _).trans (teq (by decide : (0 : Int32) = (0 : Int32))).2) k) ?_
    show Go p e below _ (T6.setTop (mkF m 75 #[iv p1, iv (0 : Int32), rv aF, rv aF, rv aT, iv (1 : Int32), .unset, .unset, .unset, .unset] [(.int (1 : Int32))]))
    refine Go.pre (fun _ k => XS.iconst X6.here hx rfl (hb hby at_75) k) ?_
    show Go p e below _ (T6.setTop (mkF m 76 #[iv p1, iv (0 : Int32), rv aF, rv aF, rv aT, iv (1 : Int32), .unset, .unset, .unset, .unset] [(.int (1 : Int32)), (.int (1 : Int32))]))
    refine Go.pre (fun _ k => XS.goto X6.here hx rfl (pc0 := 76) (pc' := 80) rfl (hb hby at_76) (by decide) (by decide) k) ?_
    show Go p e below _ (T6.setTop (mkF m 80 #[iv p1, iv (0 : Int32), rv aF, rv aF, rv aT, iv (1 : Int32), .unset, .unset, .unset, .unset] [(.int (1 : Int32)), (.int (1 : Int32))]))
    refine Go.pre (fun _ k => XS.icmpNo X6.here hx rfl (hb hby at_80) rfl (teq (by decide : (1 : Int32) = (1 : Int32))).2 k) ?_
    show Go p e below _ (T6.setTop (mkF m 83 #[iv p1, iv (0 : Int32), rv aF, rv aF, rv aT, iv (1 : Int32), .unset, .unset, .unset, .unset] []))
    refine Go.pre (fun _ k => XS.iconst X6.here hx rfl (hb hby at_83) k) ?_
    show Go p e below _ (T6.setTop (mkF m 84 #[iv p1, iv (0 : Int32), rv aF, rv aF, rv aT, iv (1 : Int32), .unset, .unset, .unset, .unset] [(.int (1 : Int32))]))
    refine Go.pre (fun _ k => XS.goto X6.here hx rfl (pc0 := 84) (pc' := 88) rfl (hb hby at_84) (by decide) (by decide) k) ?_
    show Go p e below _ (T6.setTop (mkF m 88 #[iv p1, iv (0 : Int32), rv aF, rv aF, rv aT, iv (1 : Int32), .unset, .unset, .unset, .unset] [(.int (1 : Int32))]))
    refine Go.pre (fun _ k => XS.istore X6.here hx rfl (hb hby at_88) rfl (l' := #[iv p1, iv (0 : Int32), rv aF, rv aF, rv aT, iv (1 : Int32), iv (1 : Int32), .unset, .unset, .unset]) rfl k) ?_
    show Go p e below _ (T6.setTop (mkF m 90 #[iv p1, iv (0 : Int32), rv aF, rv aF, rv aT, iv (1 : Int32), iv (1 : Int32), .unset, .unset, .unset] []))
    refine Go.pre (fun _ k => XS.aloadN X6.here hx rfl (hb hby at_90) rfl rfl k) ?_
    show Go p e below _ (T6.setTop (mkF m 91 #[iv p1, iv (0 : Int32), rv aF, rv aF, rv aT, iv (1 : Int32), iv (1 : Int32), .unset, .unset, .unset] [(.ref aF)]))
    obtain ⟨cq7, kq7, q7a, q7b, q7c⟩ := isOf hZ eh6 E_aF
    obtain ⟨_, _, ⟨T7, L7, k7, n7⟩, -, X7, ⟨Lc7, hQ7, l7, y7, z7⟩, st7⟩ := X6.virtualBack hx (y := (⟨"com/example/falsify/falsify/BoolValue", "getType", "()Lcom/example/falsify/falsify/Type;"⟩ : MethodName)) (z := (⟨"com/example/falsify/falsify/BoolValue", "getType", "()Lcom/example/falsify/falsify/Type;"⟩ : MethodName)) hown (mvT hZ (hw _ (List.mem_of_getElem? (i := 15) rfl))) (mvT hZ (hw _ (List.mem_of_getElem? (i := 16) rfl))) (notFace_of_selects (args := #[]) (mvT hZ (hw _ (List.mem_of_getElem? (i := 18) rfl)))) (mvT hZ (hw _ (List.mem_of_getElem? (i := 18) rfl))) (mvT hZ (hw _ (List.mem_of_getElem? (i := 17) rfl))) (by decide) (backOf (W := 0) (rm_ty l Z a0 hw [] aF aB h0 n0 Z0 S_aB) hZ (hw _ (List.mem_of_getElem? (i := 19) rfl)) (hw _ (List.mem_of_getElem? (i := 2) rfl)) (by decide) (by decide)) q7a q7c (g := (mkF m 91 #[iv p1, iv (0 : Int32), rv aF, rv aF, rv aT, iv (1 : Int32), iv (1 : Int32), .unset, .unset, .unset] [(.ref aF)])) rfl (by rw [hml]; rfl) (Steps.refl _) (argsL := []) (rest := []) (lenOf pd_2 rfl) rfl (by show 2 * 0 + _ ≤ _; exact Nat.le_of_eq rfl) (hb hby at_91) (fun _ _ => ⟨rfl, eh6, (by decide : 0 + 0 ≤ _), (by decide : 0 + 0 ≤ _)⟩)
    dsimp only [Pt.U, Pt.locs, Pt.cells, Pt.slots] at X7 l7 y7 z7 st7 hQ7
    subst l7 y7 z7
    refine Go.pre (own_cut st7) ?_
    obtain ⟨rfl, N7q, eh7⟩ := hQ7
    have N7 := Fr.app N6 N7q
    show Go p e below _ (T7.setTop (mkF m 94 #[iv p1, iv (0 : Int32), rv aF, rv aF, rv aT, iv (1 : Int32), iv (1 : Int32), .unset, .unset, .unset] [(.ref aB)]))
    obtain ⟨T8, X8, e8, st8⟩ := getS2 X7 hx hZ hown (host := "") (Or.inl (hw _ (List.mem_of_getElem? (i := 23) rfl))) Via.refl eh7 S_aB (g := (mkF m 94 #[iv p1, iv (0 : Int32), rv aF, rv aF, rv aT, iv (1 : Int32), iv (1 : Int32), .unset, .unset, .unset] [(.ref aB)])) rfl (hb hby at_94)
    refine Go.pre st8 ?_
    show Go p e below _ (T8.setTop (mkF m 97 #[iv p1, iv (0 : Int32), rv aF, rv aF, rv aT, iv (1 : Int32), iv (1 : Int32), .unset, .unset, .unset] [(.ref aB), (.ref aB)]))
    refine Go.pre (fun _ k => Jvm.RoadKit.acmp (g := (mkF m 97 #[iv p1, iv (0 : Int32), rv aF, rv aF, rv aT, iv (1 : Int32), iv (1 : Int32), .unset, .unset, .unset] [(.ref aB), (.ref aB)])) X8 hx rfl rfl rfl (pc0 := 97) (pc' := 100) (same := true) rfl (hb hby at_97) rfl (decide_eq_true rfl) (by decide) (by decide) k) ?_
    show Go p e below _ (T8.setTop (mkF m 100 #[iv p1, iv (0 : Int32), rv aF, rv aF, rv aT, iv (1 : Int32), iv (1 : Int32), .unset, .unset, .unset] []))
    refine Go.pre (fun _ k => XS.iconst X8.here hx rfl (hb hby at_100) k) ?_
    show Go p e below _ (T8.setTop (mkF m 101 #[iv p1, iv (0 : Int32), rv aF, rv aF, rv aT, iv (1 : Int32), iv (1 : Int32), .unset, .unset, .unset] [(.int (1 : Int32))]))
    refine Go.pre (fun _ k => XS.goto X8.here hx rfl (pc0 := 101) (pc' := 105) rfl (hb hby at_101) (by decide) (by decide) k) ?_
    show Go p e below _ (T8.setTop (mkF m 105 #[iv p1, iv (0 : Int32), rv aF, rv aF, rv aT, iv (1 : Int32), iv (1 : Int32), .unset, .unset, .unset] [(.int (1 : Int32))]))
    refine Go.pre (fun _ k => XS.istore X8.here hx rfl (hb hby at_105) rfl (l' := #[iv p1, iv (0 : Int32), rv aF, rv aF, rv aT, iv (1 : Int32), iv (1 : Int32), iv (1 : Int32), .unset, .unset]) rfl k) ?_
    show Go p e below _ (T8.setTop (mkF m 107 #[iv p1, iv (0 : Int32), rv aF, rv aF, rv aT, iv (1 : Int32), iv (1 : Int32), iv (1 : Int32), .unset, .unset] []))
    refine Go.pre (fun _ k => XS.aloadN X8.here hx rfl (hb hby at_107) rfl rfl k) ?_
    show Go p e below _ (T8.setTop (mkF m 108 #[iv p1, iv (0 : Int32), rv aF, rv aF, rv aT, iv (1 : Int32), iv (1 : Int32), iv (1 : Int32), .unset, .unset] [(.ref aF)]))
    refine Go.pre (fun _ k => XS.aloadN X8.here hx rfl (hb hby at_108) rfl rfl k) ?_
    show Go p e below _ (T8.setTop (mkF m 109 #[iv p1, iv (0 : Int32), rv aF, rv aF, rv aT, iv (1 : Int32), iv (1 : Int32), iv (1 : Int32), .unset, .unset] [(.ref aF), (.ref aF)]))
    refine Go.pre (fun _ k => Jvm.RoadKit.acmp (g := (mkF m 109 #[iv p1, iv (0 : Int32), rv aF, rv aF, rv aT, iv (1 : Int32), iv (1 : Int32), iv (1 : Int32), .unset, .unset] [(.ref aF), (.ref aF)])) X8 hx rfl rfl rfl (pc0 := 109) (pc' := 112) (same := true) rfl (hb hby at_109) rfl (decide_eq_true rfl) (by decide) (by decide) k) ?_
    show Go p e below _ (T8.setTop (mkF m 112 #[iv p1, iv (0 : Int32), rv aF, rv aF, rv aT, iv (1 : Int32), iv (1 : Int32), iv (1 : Int32), .unset, .unset] []))
    refine Go.pre (fun _ k => XS.iconst X8.here hx rfl (hb hby at_112) k) ?_
    show Go p e below _ (T8.setTop (mkF m 113 #[iv p1, iv (0 : Int32), rv aF, rv aF, rv aT, iv (1 : Int32), iv (1 : Int32), iv (1 : Int32), .unset, .unset] [(.int (1 : Int32))]))
    refine Go.pre (fun _ k => XS.goto X8.here hx rfl (pc0 := 113) (pc' := 117) rfl (hb hby at_113) (by decide) (by decide) k) ?_
    show Go p e below _ (T8.setTop (mkF m 117 #[iv p1, iv (0 : Int32), rv aF, rv aF, rv aT, iv (1 : Int32), iv (1 : Int32), iv (1 : Int32), .unset, .unset] [(.int (1 : Int32))]))
    refine Go.pre (fun _ k => XS.istore X8.here hx rfl (hb hby at_117) rfl (l' := #[iv p1, iv (0 : Int32), rv aF, rv aF, rv aT, iv (1 : Int32), iv (1 : Int32), iv (1 : Int32), iv (1 : Int32), .unset]) rfl k) ?_
    show Go p e below _ (T8.setTop (mkF m 119 #[iv p1, iv (0 : Int32), rv aF, rv aF, rv aT, iv (1 : Int32), iv (1 : Int32), iv (1 : Int32), iv (1 : Int32), .unset] []))
    refine Go.pre (fun _ k => XS.aloadN X8.here hx rfl (hb hby at_119) rfl rfl k) ?_
    show Go p e below _ (T8.setTop (mkF m 120 #[iv p1, iv (0 : Int32), rv aF, rv aF, rv aT, iv (1 : Int32), iv (1 : Int32), iv (1 : Int32), iv (1 : Int32), .unset] [(.ref aF)]))
    refine Go.pre (fun _ k => XS.aload X8.here hx rfl (hb hby at_120) rfl rfl k) ?_
    show Go p e below _ (T8.setTop (mkF m 122 #[iv p1, iv (0 : Int32), rv aF, rv aF, rv aT, iv (1 : Int32), iv (1 : Int32), iv (1 : Int32), iv (1 : Int32), .unset] [(.ref aT), (.ref aF)]))
    refine Go.pre (fun _ k => Jvm.RoadKit.acmp (g := (mkF m 122 #[iv p1, iv (0 : Int32), rv aF, rv aF, rv aT, iv (1 : Int32), iv (1 : Int32), iv (1 : Int32), iv (1 : Int32), .unset] [(.ref aT), (.ref aF)])) X8 hx rfl rfl rfl (pc0 := 122) (pc' := 125) (same := false) rfl (hb hby at_122) rfl (decide_eq_false fun q => hne (Value.ref.inj q)) (by decide) (by decide) k) ?_
    show Go p e below _ (T8.setTop (mkF m 125 #[iv p1, iv (0 : Int32), rv aF, rv aF, rv aT, iv (1 : Int32), iv (1 : Int32), iv (1 : Int32), iv (1 : Int32), .unset] []))
    refine Go.pre (fun _ k => XS.iconst X8.here hx rfl (hb hby at_125) k) ?_
    show Go p e below _ (T8.setTop (mkF m 126 #[iv p1, iv (0 : Int32), rv aF, rv aF, rv aT, iv (1 : Int32), iv (1 : Int32), iv (1 : Int32), iv (1 : Int32), .unset] [(.int (1 : Int32))]))
    refine Go.pre (fun _ k => XS.goto X8.here hx rfl (pc0 := 126) (pc' := 130) rfl (hb hby at_126) (by decide) (by decide) k) ?_
    show Go p e below _ (T8.setTop (mkF m 130 #[iv p1, iv (0 : Int32), rv aF, rv aF, rv aT, iv (1 : Int32), iv (1 : Int32), iv (1 : Int32), iv (1 : Int32), .unset] [(.int (1 : Int32))]))
    refine Go.pre (fun _ k => XS.istore X8.here hx rfl (hb hby at_130) rfl (l' := #[iv p1, iv (0 : Int32), rv aF, rv aF, rv aT, iv (1 : Int32), iv (1 : Int32), iv (1 : Int32), iv (1 : Int32), iv (1 : Int32)]) rfl k) ?_
    show Go p e below _ (T8.setTop (mkF m 132 #[iv p1, iv (0 : Int32), rv aF, rv aF, rv aT, iv (1 : Int32), iv (1 : Int32), iv (1 : Int32), iv (1 : Int32), iv (1 : Int32)] []))
    refine Go.pre (fun _ k => XS.iload X8.here hx rfl (hb hby at_132) rfl k) ?_
    show Go p e below _ (T8.setTop (mkF m 134 #[iv p1, iv (0 : Int32), rv aF, rv aF, rv aT, iv (1 : Int32), iv (1 : Int32), iv (1 : Int32), iv (1 : Int32), iv (1 : Int32)] [(.int (1 : Int32))]))
    refine Go.pre (fun _ k => XS.ifNo X8.here hx rfl (hb hby at_134) rfl ((if0 _ _).trans (feq (by decide : ¬ ((1 : Int32) = (0 : Int32)))).1) k) ?_
    show Go p e below _ (T8.setTop (mkF m 137 #[iv p1, iv (0 : Int32), rv aF, rv aF, rv aT, iv (1 : Int32), iv (1 : Int32), iv (1 : Int32), iv (1 : Int32), iv (1 : Int32)] []))
    refine Go.pre (fun _ k => XS.iload X8.here hx rfl (hb hby at_137) rfl k) ?_
    show Go p e below _ (T8.setTop (mkF m 139 #[iv p1, iv (0 : Int32), rv aF, rv aF, rv aT, iv (1 : Int32), iv (1 : Int32), iv (1 : Int32), iv (1 : Int32), iv (1 : Int32)] [(.int (1 : Int32))]))
    refine Go.pre (fun _ k => XS.ifNo X8.here hx rfl (hb hby at_139) rfl ((if0 _ _).trans (feq (by decide : ¬ ((1 : Int32) = (0 : Int32)))).1) k) ?_
    show Go p e below _ (T8.setTop (mkF m 142 #[iv p1, iv (0 : Int32), rv aF, rv aF, rv aT, iv (1 : Int32), iv (1 : Int32), iv (1 : Int32), iv (1 : Int32), iv (1 : Int32)] []))
    refine Go.pre (fun _ k => XS.iload X8.here hx rfl (hb hby at_142) rfl k) ?_
    show Go p e below _ (T8.setTop (mkF m 144 #[iv p1, iv (0 : Int32), rv aF, rv aF, rv aT, iv (1 : Int32), iv (1 : Int32), iv (1 : Int32), iv (1 : Int32), iv (1 : Int32)] [(.int (1 : Int32))]))
    refine Go.pre (fun _ k => XS.ifNo X8.here hx rfl (hb hby at_144) rfl ((if0 _ _).trans (feq (by decide : ¬ ((1 : Int32) = (0 : Int32)))).1) k) ?_
    show Go p e below _ (T8.setTop (mkF m 147 #[iv p1, iv (0 : Int32), rv aF, rv aF, rv aT, iv (1 : Int32), iv (1 : Int32), iv (1 : Int32), iv (1 : Int32), iv (1 : Int32)] []))
    refine Go.pre (fun _ k => XS.iload X8.here hx rfl (hb hby at_147) rfl k) ?_
    show Go p e below _ (T8.setTop (mkF m 149 #[iv p1, iv (0 : Int32), rv aF, rv aF, rv aT, iv (1 : Int32), iv (1 : Int32), iv (1 : Int32), iv (1 : Int32), iv (1 : Int32)] [(.int (1 : Int32))]))
    refine Go.pre (fun _ k => XS.ifNo X8.here hx rfl (hb hby at_149) rfl ((if0 _ _).trans (feq (by decide : ¬ ((1 : Int32) = (0 : Int32)))).1) k) ?_
    show Go p e below _ (T8.setTop (mkF m 152 #[iv p1, iv (0 : Int32), rv aF, rv aF, rv aT, iv (1 : Int32), iv (1 : Int32), iv (1 : Int32), iv (1 : Int32), iv (1 : Int32)] []))
    refine Go.pre (fun _ k => XS.iload X8.here hx rfl (hb hby at_152) rfl k) ?_
    show Go p e below _ (T8.setTop (mkF m 154 #[iv p1, iv (0 : Int32), rv aF, rv aF, rv aT, iv (1 : Int32), iv (1 : Int32), iv (1 : Int32), iv (1 : Int32), iv (1 : Int32)] [(.int (1 : Int32))]))
    refine Go.pre (fun _ k => XS.ifNo X8.here hx rfl (hb hby at_154) rfl ((if0 _ _).trans (feq (by decide : ¬ ((1 : Int32) = (0 : Int32)))).1) k) ?_
    show Go p e below _ (T8.setTop (mkF m 157 #[iv p1, iv (0 : Int32), rv aF, rv aF, rv aT, iv (1 : Int32), iv (1 : Int32), iv (1 : Int32), iv (1 : Int32), iv (1 : Int32)] []))
    refine Go.pre (fun _ k => XS.iconst X8.here hx rfl (hb hby at_157) k) ?_
    show Go p e below _ (T8.setTop (mkF m 158 #[iv p1, iv (0 : Int32), rv aF, rv aF, rv aT, iv (1 : Int32), iv (1 : Int32), iv (1 : Int32), iv (1 : Int32), iv (1 : Int32)] [(.int (1 : Int32))]))
    refine Go.pre (fun _ k => XS.goto X8.here hx rfl (pc0 := 158) (pc' := 162) rfl (hb hby at_158) (by decide) (by decide) k) ?_
    show Go p e below _ (T8.setTop (mkF m 162 #[iv p1, iv (0 : Int32), rv aF, rv aF, rv aT, iv (1 : Int32), iv (1 : Int32), iv (1 : Int32), iv (1 : Int32), iv (1 : Int32)] [(.int (1 : Int32))]))
    obtain ⟨fs, hr, hrun, hended, hW, hsame⟩ := X8.leave (v := some (.int (1 : Int32))) (fun h => by rw [Bd.returns] at h; cases h)
    refine Go.fin (retN X8 hx (t := .boolean) Bd.returns (by simp) (hb hby at_162) hr) ⟨hrun, hended, _, _, rfl, ?_, ⟨_, rfl⟩, hW, hsame.mono (by decide) (by decide)⟩
    exact ⟨rfl, N7⟩
  · skip
    refine Go.pre (fun _ k => XS.ifNo X0.here hx rfl (hb hby at_3) rfl ((if0 _ _).trans (feq hc3_1).1) k) ?_
    show Go p e below _ (s₁.setTop (mkF m 6 #[iv p1, .unset, .unset, .unset, .unset, .unset, .unset, .unset, .unset, .unset] []))
    refine Go.pre (fun _ k => XS.iconst X0.here hx rfl (hb hby at_6) k) ?_
    show Go p e below _ (s₁.setTop (mkF m 7 #[iv p1, .unset, .unset, .unset, .unset, .unset, .unset, .unset, .unset, .unset] [(.int (1 : Int32))]))
    refine Go.pre (fun _ k => XS.goto X0.here hx rfl (pc0 := 7) (pc' := 11) rfl (hb hby at_7) (by decide) (by decide) k) ?_
    show Go p e below _ (s₁.setTop (mkF m 11 #[iv p1, .unset, .unset, .unset, .unset, .unset, .unset, .unset, .unset, .unset] [(.int (1 : Int32))]))
    refine Go.pre (fun _ k => XS.istoreN X0.here hx rfl (hb hby at_11) rfl (l' := #[iv p1, iv (1 : Int32), .unset, .unset, .unset, .unset, .unset, .unset, .unset, .unset]) rfl k) ?_
    show Go p e below _ (s₁.setTop (mkF m 12 #[iv p1, iv (1 : Int32), .unset, .unset, .unset, .unset, .unset, .unset, .unset, .unset] []))
    refine Go.pre (fun _ k => XS.iloadN X0.here hx rfl (hb hby at_12) rfl k) ?_
    show Go p e below _ (s₁.setTop (mkF m 13 #[iv p1, iv (1 : Int32), .unset, .unset, .unset, .unset, .unset, .unset, .unset, .unset] [(.int (1 : Int32))]))
    obtain ⟨_, _, ⟨T9, L9, k9, n9⟩, -, X9, ⟨Lc9, hQ9, l9, y9, z9⟩, st9⟩ := Jvm.LawKit.callS X0 hx (y := (⟨"com/example/falsify/falsify/BoolValue", "of", "(Z)Lcom/example/falsify/falsify/BoolValue;"⟩ : MethodName)) hown (mvT hZ (hw _ (List.mem_of_getElem? (i := 0) rfl))) (mvT hZ (hw _ (List.mem_of_getElem? (i := 1) rfl))) (mvT hZ (hw _ (List.mem_of_getElem? (i := 2) rfl))) (mvT hZ (hw _ (List.mem_of_getElem? (i := 3) rfl))) (by decide) (backOf (W := 0) (rm_of1 l Z a0 hw [] (1 : Int32) aF aT h0 n0 Z0 S_aF S_aT (by decide)) hZ (hw _ (List.mem_of_getElem? (i := 3) rfl)) (hw _ (List.mem_of_getElem? (i := 2) rfl)) (by decide) (by decide)) (g := (mkF m 13 #[iv p1, iv (1 : Int32), .unset, .unset, .unset, .unset, .unset, .unset, .unset, .unset] [(.int (1 : Int32))])) rfl (by rw [hml]; rfl) (argsL := [(.int (1 : Int32))]) (rest := []) (lenOf pd_0 rfl) rfl (by show 2 * 0 + _ ≤ _; exact Nat.le_of_eq rfl) (hb hby at_13) (fun _ _ => ⟨rfl, e0, (by decide : 0 + 0 ≤ _), (by decide : 0 + 0 ≤ _)⟩)
    dsimp only [Pt.U, Pt.locs, Pt.cells, Pt.slots] at X9 l9 y9 z9 st9 hQ9
    subst l9 y9 z9
    refine Go.pre st9 ?_
    obtain ⟨rfl, N9q, eh9⟩ := hQ9
    have N9 := Fr.app N0 N9q
    show Go p e below _ (T9.setTop (mkF m 16 #[iv p1, iv (1 : Int32), .unset, .unset, .unset, .unset, .unset, .unset, .unset, .unset] [(.ref aT)]))
    refine Go.pre (fun _ k => XS.astoreN X9.here hx rfl (hb hby at_16) rfl rfl (l' := #[iv p1, iv (1 : Int32), rv aT, .unset, .unset, .unset, .unset, .unset, .unset, .unset]) rfl k) ?_
    show Go p e below _ (T9.setTop (mkF m 17 #[iv p1, iv (1 : Int32), rv aT, .unset, .unset, .unset, .unset, .unset, .unset, .unset] []))
    refine Go.pre (fun _ k => XS.iloadN X9.here hx rfl (hb hby at_17) rfl k) ?_
    show Go p e below _ (T9.setTop (mkF m 18 #[iv p1, iv (1 : Int32), rv aT, .unset, .unset, .unset, .unset, .unset, .unset, .unset] [(.int (1 : Int32))]))
    obtain ⟨_, _, ⟨T10, L10, k10, n10⟩, -, X10, ⟨Lc10, hQ10, l10, y10, z10⟩, st10⟩ := Jvm.LawKit.callS X9 hx (y := (⟨"com/example/falsify/falsify/BoolValue", "of", "(Z)Lcom/example/falsify/falsify/BoolValue;"⟩ : MethodName)) hown (mvT hZ (hw _ (List.mem_of_getElem? (i := 0) rfl))) (mvT hZ (hw _ (List.mem_of_getElem? (i := 1) rfl))) (mvT hZ (hw _ (List.mem_of_getElem? (i := 2) rfl))) (mvT hZ (hw _ (List.mem_of_getElem? (i := 3) rfl))) (by decide) (backOf (W := 0) (rm_of1 l Z a0 hw [] (1 : Int32) aF aT h0 n0 Z0 S_aF S_aT (by decide)) hZ (hw _ (List.mem_of_getElem? (i := 3) rfl)) (hw _ (List.mem_of_getElem? (i := 2) rfl)) (by decide) (by decide)) (g := (mkF m 18 #[iv p1, iv (1 : Int32), rv aT, .unset, .unset, .unset, .unset, .unset, .unset, .unset] [(.int (1 : Int32))])) rfl (by rw [hml]; rfl) (argsL := [(.int (1 : Int32))]) (rest := []) (lenOf pd_0 rfl) rfl (by show 2 * 0 + _ ≤ _; exact Nat.le_of_eq rfl) (hb hby at_18) (fun _ _ => ⟨rfl, eh9, (by decide : 0 + 0 ≤ _), (by decide : 0 + 0 ≤ _)⟩)
    dsimp only [Pt.U, Pt.locs, Pt.cells, Pt.slots] at X10 l10 y10 z10 st10 hQ10
    subst l10 y10 z10
    refine Go.pre st10 ?_
    obtain ⟨rfl, N10q, eh10⟩ := hQ10
    have N10 := Fr.app N9 N10q
    show Go p e below _ (T10.setTop (mkF m 21 #[iv p1, iv (1 : Int32), rv aT, .unset, .unset, .unset, .unset, .unset, .unset, .unset] [(.ref aT)]))
    refine Go.pre (fun _ k => XS.astoreN X10.here hx rfl (hb hby at_21) rfl rfl (l' := #[iv p1, iv (1 : Int32), rv aT, rv aT, .unset, .unset, .unset, .unset, .unset, .unset]) rfl k) ?_
    show Go p e below _ (T10.setTop (mkF m 22 #[iv p1, iv (1 : Int32), rv aT, rv aT, .unset, .unset, .unset, .unset, .unset, .unset] []))
    refine Go.pre (fun _ k => XS.iloadN X10.here hx rfl (hb hby at_22) rfl k) ?_
    show Go p e below _ (T10.setTop (mkF m 23 #[iv p1, iv (1 : Int32), rv aT, rv aT, .unset, .unset, .unset, .unset, .unset, .unset] [(.int (1 : Int32))]))
    refine Go.pre (fun _ k => XS.ifYes X10.here hx rfl (pc0 := 23) (pc' := 30) rfl (hb hby at_23) rfl ((if0 _ _).trans (feq (by decide : ¬ ((1 : Int32) = (0 : Int32)))).2) (by decide) (by decide) k) ?_
    show Go p e below _ (T10.setTop (mkF m 30 #[iv p1, iv (1 : Int32), rv aT, rv aT, .unset, .unset, .unset, .unset, .unset, .unset] []))
    refine Go.pre (fun _ k => XS.iconst X10.here hx rfl (hb hby at_30) k) ?_
    show Go p e below _ (T10.setTop (mkF m 31 #[iv p1, iv (1 : Int32), rv aT, rv aT, .unset, .unset, .unset, .unset, .unset, .unset] [(.int (0 : Int32))]))
    obtain ⟨_, _, ⟨T11, L11, k11, n11⟩, -, X11, ⟨Lc11, hQ11, l11, y11, z11⟩, st11⟩ := Jvm.LawKit.callS X10 hx (y := (⟨"com/example/falsify/falsify/BoolValue", "of", "(Z)Lcom/example/falsify/falsify/BoolValue;"⟩ : MethodName)) hown (mvT hZ (hw _ (List.mem_of_getElem? (i := 0) rfl))) (mvT hZ (hw _ (List.mem_of_getElem? (i := 1) rfl))) (mvT hZ (hw _ (List.mem_of_getElem? (i := 2) rfl))) (mvT hZ (hw _ (List.mem_of_getElem? (i := 3) rfl))) (by decide) (backOf (W := 0) (rm_of0 l Z a0 hw [] (0 : Int32) aF aT h0 n0 Z0 S_aF S_aT (by decide)) hZ (hw _ (List.mem_of_getElem? (i := 3) rfl)) (hw _ (List.mem_of_getElem? (i := 2) rfl)) (by decide) (by decide)) (g := (mkF m 31 #[iv p1, iv (1 : Int32), rv aT, rv aT, .unset, .unset, .unset, .unset, .unset, .unset] [(.int (0 : Int32))])) rfl (by rw [hml]; rfl) (argsL := [(.int (0 : Int32))]) (rest := []) (lenOf pd_0 rfl) rfl (by show 2 * 0 + _ ≤ _; exact Nat.le_of_eq rfl) (hb hby at_31) (fun _ _ => ⟨rfl, eh10, (by decide : 0 + 0 ≤ _), (by decide : 0 + 0 ≤ _)⟩)
    dsimp only [Pt.U, Pt.locs, Pt.cells, Pt.slots] at X11 l11 y11 z11 st11 hQ11
    subst l11 y11 z11
    refine Go.pre st11 ?_
    obtain ⟨rfl, N11q, eh11⟩ := hQ11
    have N11 := Fr.app N10 N11q
    show Go p e below _ (T11.setTop (mkF m 34 #[iv p1, iv (1 : Int32), rv aT, rv aT, .unset, .unset, .unset, .unset, .unset, .unset] [(.ref aF)]))
    refine Go.pre (fun _ k => XS.astore X11.here hx rfl (hb hby at_34) rfl rfl (l' := #[iv p1, iv (1 : Int32), rv aT, rv aT, rv aF, .unset, .unset, .unset, .unset, .unset]) rfl k) ?_
    show Go p e below _ (T11.setTop (mkF m 36 #[iv p1, iv (1 : Int32), rv aT, rv aT, rv aF, .unset, .unset, .unset, .unset, .unset] []))
    refine Go.pre (fun _ k => XS.aloadN X11.here hx rfl (hb hby at_36) rfl rfl k) ?_
    show Go p e below _ (T11.setTop (mkF m 37 #[iv p1, iv (1 : Int32), rv aT, rv aT, rv aF, .unset, .unset, .unset, .unset, .unset] [(.ref aT)]))
    refine Go.pre (fun _ k => XS.ifnullNo X11.here hx rfl (hb hby at_37) rfl k) ?_
    show Go p e below _ (T11.setTop (mkF m 40 #[iv p1, iv (1 : Int32), rv aT, rv aT, rv aF, .unset, .unset, .unset, .unset, .unset] []))
    refine Go.pre (fun _ k => XS.aloadN X11.here hx rfl (hb hby at_40) rfl rfl k) ?_
    show Go p e below _ (T11.setTop (mkF m 41 #[iv p1, iv (1 : Int32), rv aT, rv aT, rv aF, .unset, .unset, .unset, .unset, .unset] [(.ref aT)]))
    refine Go.pre (fun _ k => XS.ifnullNo X11.here hx rfl (hb hby at_41) rfl k) ?_
    show Go p e below _ (T11.setTop (mkF m 44 #[iv p1, iv (1 : Int32), rv aT, rv aT, rv aF, .unset, .unset, .unset, .unset, .unset] []))
    refine Go.pre (fun _ k => XS.aload X11.here hx rfl (hb hby at_44) rfl rfl k) ?_
    show Go p e below _ (T11.setTop (mkF m 46 #[iv p1, iv (1 : Int32), rv aT, rv aT, rv aF, .unset, .unset, .unset, .unset, .unset] [(.ref aF)]))
    refine Go.pre (fun _ k => XS.ifnonnullYes X11.here hx rfl (pc0 := 46) (pc' := 51) rfl (hb hby at_46) rfl (by decide) (by decide) k) ?_
    show Go p e below _ (T11.setTop (mkF m 51 #[iv p1, iv (1 : Int32), rv aT, rv aT, rv aF, .unset, .unset, .unset, .unset, .unset] []))
    refine Go.pre (fun _ k => XS.aloadN X11.here hx rfl (hb hby at_51) rfl rfl k) ?_
    show Go p e below _ (T11.setTop (mkF m 52 #[iv p1, iv (1 : Int32), rv aT, rv aT, rv aF, .unset, .unset, .unset, .unset, .unset] [(.ref aT)]))
    obtain ⟨cq12, kq12, q12a, q12b, q12c⟩ := isOf hZ eh11 E_aT
    obtain ⟨_, _, ⟨T12, L12, k12, n12⟩, -, X12, ⟨Lc12, hQ12, l12, y12, z12⟩, st12⟩ := X11.virtualBack hx (y := (⟨"com/example/falsify/falsify/BoolValue", "asBoolean", "()Z"⟩ : MethodName)) (z := (⟨"com/example/falsify/falsify/BoolValue", "asBoolean", "()Z"⟩ : MethodName)) hown (mvT hZ (hw _ (List.mem_of_getElem? (i := 8) rfl))) (mvT hZ (hw _ (List.mem_of_getElem? (i := 9) rfl))) (notFace_of_selects (args := #[]) (mvT hZ (hw _ (List.mem_of_getElem? (i := 11) rfl)))) (mvT hZ (hw _ (List.mem_of_getElem? (i := 11) rfl))) (mvT hZ (hw _ (List.mem_of_getElem? (i := 10) rfl))) (by decide) (backOf (W := 0) (rm_as1 l Z a0 hw [] aT h0 n0 Z0 F_aT) hZ (hw _ (List.mem_of_getElem? (i := 12) rfl)) (hw _ (List.mem_of_getElem? (i := 2) rfl)) (by decide) (by decide)) q12a q12c (g := (mkF m 52 #[iv p1, iv (1 : Int32), rv aT, rv aT, rv aF, .unset, .unset, .unset, .unset, .unset] [(.ref aT)])) rfl (by rw [hml]; rfl) (Steps.refl _) (argsL := []) (rest := []) (lenOf pd_1 rfl) rfl (by show 2 * 0 + _ ≤ _; exact Nat.le_of_eq rfl) (hb hby at_52) (fun _ _ => ⟨rfl, eh11, (by decide : 0 + 0 ≤ _), (by decide : 0 + 0 ≤ _)⟩)
    dsimp only [Pt.U, Pt.locs, Pt.cells, Pt.slots] at X12 l12 y12 z12 st12 hQ12
    subst l12 y12 z12
    refine Go.pre (own_cut st12) ?_
    obtain ⟨rfl, N12q, eh12⟩ := hQ12
    have N12 := Fr.app N11 N12q
    show Go p e below _ (T12.setTop (mkF m 55 #[iv p1, iv (1 : Int32), rv aT, rv aT, rv aF, .unset, .unset, .unset, .unset, .unset] [(.int (1 : Int32))]))
    refine Go.pre (fun _ k => XS.iloadN X12.here hx rfl (hb hby at_55) rfl k) ?_
    show Go p e below _ (T12.setTop (mkF m 56 #[iv p1, iv (1 : Int32), rv aT, rv aT, rv aF, .unset, .unset, .unset, .unset, .unset] [(.int (1 : Int32)), (.int (1 : Int32))]))
    refine Go.pre (fun _ k => XS.icmpNo X12.here hx rfl (hb hby at_56) rfl (teq (by decide : (1 : Int32) = (1 : Int32))).2 k) ?_
    show Go p e below _ (T12.setTop (mkF m 59 #[iv p1, iv (1 : Int32), rv aT, rv aT, rv aF, .unset, .unset, .unset, .unset, .unset] []))
    refine Go.pre (fun _ k => XS.iconst X12.here hx rfl (hb hby at_59) k) ?_
    show Go p e below _ (T12.setTop (mkF m 60 #[iv p1, iv (1 : Int32), rv aT, rv aT, rv aF, .unset, .unset, .unset, .unset, .unset] [(.int (1 : Int32))]))
    refine Go.pre (fun _ k => XS.goto X12.here hx rfl (pc0 := 60) (pc' := 64) rfl (hb hby at_60) (by decide) (by decide) k) ?_
    show Go p e below _ (T12.setTop (mkF m 64 #[iv p1, iv (1 : Int32), rv aT, rv aT, rv aF, .unset, .unset, .unset, .unset, .unset] [(.int (1 : Int32))]))
    refine Go.pre (fun _ k => XS.istore X12.here hx rfl (hb hby at_64) rfl (l' := #[iv p1, iv (1 : Int32), rv aT, rv aT, rv aF, iv (1 : Int32), .unset, .unset, .unset, .unset]) rfl k) ?_
    show Go p e below _ (T12.setTop (mkF m 66 #[iv p1, iv (1 : Int32), rv aT, rv aT, rv aF, iv (1 : Int32), .unset, .unset, .unset, .unset] []))
    refine Go.pre (fun _ k => XS.aload X12.here hx rfl (hb hby at_66) rfl rfl k) ?_
    show Go p e below _ (T12.setTop (mkF m 68 #[iv p1, iv (1 : Int32), rv aT, rv aT, rv aF, iv (1 : Int32), .unset, .unset, .unset, .unset] [(.ref aF)]))
    obtain ⟨cq13, kq13, q13a, q13b, q13c⟩ := isOf hZ eh12 E_aF
    obtain ⟨_, _, ⟨T13, L13, k13, n13⟩, -, X13, ⟨Lc13, hQ13, l13, y13, z13⟩, st13⟩ := X12.virtualBack hx (y := (⟨"com/example/falsify/falsify/BoolValue", "asBoolean", "()Z"⟩ : MethodName)) (z := (⟨"com/example/falsify/falsify/BoolValue", "asBoolean", "()Z"⟩ : MethodName)) hown (mvT hZ (hw _ (List.mem_of_getElem? (i := 8) rfl))) (mvT hZ (hw _ (List.mem_of_getElem? (i := 9) rfl))) (notFace_of_selects (args := #[]) (mvT hZ (hw _ (List.mem_of_getElem? (i := 11) rfl)))) (mvT hZ (hw _ (List.mem_of_getElem? (i := 11) rfl))) (mvT hZ (hw _ (List.mem_of_getElem? (i := 10) rfl))) (by decide) (backOf (W := 0) (rm_as0 l Z a0 hw [] aF h0 n0 Z0 F_aF) hZ (hw _ (List.mem_of_getElem? (i := 12) rfl)) (hw _ (List.mem_of_getElem? (i := 2) rfl)) (by decide) (by decide)) q13a q13c (g := (mkF m 68 #[iv p1, iv (1 : Int32), rv aT, rv aT, rv aF, iv (1 : Int32), .unset, .unset, .unset, .unset] [(.ref aF)])) rfl (by rw [hml]; rfl) (Steps.refl _) (argsL := []) (rest := []) (lenOf pd_1 rfl) rfl (by show 2 * 0 + _ ≤ _; exact Nat.le_of_eq rfl) (hb hby at_68) (fun _ _ => ⟨rfl, eh12, (by decide : 0 + 0 ≤ _), (by decide : 0 + 0 ≤ _)⟩)
    dsimp only [Pt.U, Pt.locs, Pt.cells, Pt.slots] at X13 l13 y13 z13 st13 hQ13
    subst l13 y13 z13
    refine Go.pre (own_cut st13) ?_
    obtain ⟨rfl, N13q, eh13⟩ := hQ13
    have N13 := Fr.app N12 N13q
    show Go p e below _ (T13.setTop (mkF m 71 #[iv p1, iv (1 : Int32), rv aT, rv aT, rv aF, iv (1 : Int32), .unset, .unset, .unset, .unset] [(.int (0 : Int32))]))
    refine Go.pre (fun _ k => XS.iloadN X13.here hx rfl (hb hby at_71) rfl k) ?_
    show Go p e below _ (T13.setTop (mkF m 72 #[iv p1, iv (1 : Int32), rv aT, rv aT, rv aF, iv (1 : Int32), .unset, .unset, .unset, .unset] [(.int (1 : Int32)), (.int (0 : Int32))]))
    refine Go.pre (fun _ k => XS.ifYes X13.here hx rfl (pc0 := 72) (pc' := 79) rfl (hb hby at_72) rfl ((if0 _ _).trans (feq (by decide : ¬ ((1 : Int32) = (0 : Int32)))).2) (by decide) (by decide) k) ?_
    show Go p e below _ (T13.setTop (mkF m 79 #[iv p1, iv (1 : Int32), rv aT, rv aT, rv aF, iv (1 : Int32), .unset, .unset, .unset, .unset] [(.int (0 : Int32))]))
    refine Go.pre (fun _ k => XS.iconst X13.here hx rfl (hb hby at_79) k) ?_
    show Go p e below _ (T13.setTop (mkF m 80 #[iv p1, iv (1 : Int32), rv aT, rv aT, rv aF, iv (1 : Int32), .unset, .unset, .unset, .unset] [(.int (0 : Int32)), (.int (0 : Int32))]))
    refine Go.pre (fun _ k => XS.icmpNo X13.here hx rfl (hb hby at_80) rfl (teq (by decide : (0 : Int32) = (0 : Int32))).2 k) ?_
    show Go p e below _ (T13.setTop (mkF m 83 #[iv p1, iv (1 : Int32), rv aT, rv aT, rv aF, iv (1 : Int32), .unset, .unset, .unset, .unset] []))
    refine Go.pre (fun _ k => XS.iconst X13.here hx rfl (hb hby at_83) k) ?_
    show Go p e below _ (T13.setTop (mkF m 84 #[iv p1, iv (1 : Int32), rv aT, rv aT, rv aF, iv (1 : Int32), .unset, .unset, .unset, .unset] [(.int (1 : Int32))]))
    refine Go.pre (fun _ k => XS.goto X13.here hx rfl (pc0 := 84) (pc' := 88) rfl (hb hby at_84) (by decide) (by decide) k) ?_
    show Go p e below _ (T13.setTop (mkF m 88 #[iv p1, iv (1 : Int32), rv aT, rv aT, rv aF, iv (1 : Int32), .unset, .unset, .unset, .unset] [(.int (1 : Int32))]))
    refine Go.pre (fun _ k => XS.istore X13.here hx rfl (hb hby at_88) rfl (l' := #[iv p1, iv (1 : Int32), rv aT, rv aT, rv aF, iv (1 : Int32), iv (1 : Int32), .unset, .unset, .unset]) rfl k) ?_
    show Go p e below _ (T13.setTop (mkF m 90 #[iv p1, iv (1 : Int32), rv aT, rv aT, rv aF, iv (1 : Int32), iv (1 : Int32), .unset, .unset, .unset] []))
    refine Go.pre (fun _ k => XS.aloadN X13.here hx rfl (hb hby at_90) rfl rfl k) ?_
    show Go p e below _ (T13.setTop (mkF m 91 #[iv p1, iv (1 : Int32), rv aT, rv aT, rv aF, iv (1 : Int32), iv (1 : Int32), .unset, .unset, .unset] [(.ref aT)]))
    obtain ⟨cq14, kq14, q14a, q14b, q14c⟩ := isOf hZ eh13 E_aT
    obtain ⟨_, _, ⟨T14, L14, k14, n14⟩, -, X14, ⟨Lc14, hQ14, l14, y14, z14⟩, st14⟩ := X13.virtualBack hx (y := (⟨"com/example/falsify/falsify/BoolValue", "getType", "()Lcom/example/falsify/falsify/Type;"⟩ : MethodName)) (z := (⟨"com/example/falsify/falsify/BoolValue", "getType", "()Lcom/example/falsify/falsify/Type;"⟩ : MethodName)) hown (mvT hZ (hw _ (List.mem_of_getElem? (i := 15) rfl))) (mvT hZ (hw _ (List.mem_of_getElem? (i := 16) rfl))) (notFace_of_selects (args := #[]) (mvT hZ (hw _ (List.mem_of_getElem? (i := 18) rfl)))) (mvT hZ (hw _ (List.mem_of_getElem? (i := 18) rfl))) (mvT hZ (hw _ (List.mem_of_getElem? (i := 17) rfl))) (by decide) (backOf (W := 0) (rm_ty l Z a0 hw [] aT aB h0 n0 Z0 S_aB) hZ (hw _ (List.mem_of_getElem? (i := 19) rfl)) (hw _ (List.mem_of_getElem? (i := 2) rfl)) (by decide) (by decide)) q14a q14c (g := (mkF m 91 #[iv p1, iv (1 : Int32), rv aT, rv aT, rv aF, iv (1 : Int32), iv (1 : Int32), .unset, .unset, .unset] [(.ref aT)])) rfl (by rw [hml]; rfl) (Steps.refl _) (argsL := []) (rest := []) (lenOf pd_2 rfl) rfl (by show 2 * 0 + _ ≤ _; exact Nat.le_of_eq rfl) (hb hby at_91) (fun _ _ => ⟨rfl, eh13, (by decide : 0 + 0 ≤ _), (by decide : 0 + 0 ≤ _)⟩)
    dsimp only [Pt.U, Pt.locs, Pt.cells, Pt.slots] at X14 l14 y14 z14 st14 hQ14
    subst l14 y14 z14
    refine Go.pre (own_cut st14) ?_
    obtain ⟨rfl, N14q, eh14⟩ := hQ14
    have N14 := Fr.app N13 N14q
    show Go p e below _ (T14.setTop (mkF m 94 #[iv p1, iv (1 : Int32), rv aT, rv aT, rv aF, iv (1 : Int32), iv (1 : Int32), .unset, .unset, .unset] [(.ref aB)]))
    obtain ⟨T15, X15, e15, st15⟩ := getS2 X14 hx hZ hown (host := "") (Or.inl (hw _ (List.mem_of_getElem? (i := 23) rfl))) Via.refl eh14 S_aB (g := (mkF m 94 #[iv p1, iv (1 : Int32), rv aT, rv aT, rv aF, iv (1 : Int32), iv (1 : Int32), .unset, .unset, .unset] [(.ref aB)])) rfl (hb hby at_94)
    refine Go.pre st15 ?_
    show Go p e below _ (T15.setTop (mkF m 97 #[iv p1, iv (1 : Int32), rv aT, rv aT, rv aF, iv (1 : Int32), iv (1 : Int32), .unset, .unset, .unset] [(.ref aB), (.ref aB)]))
    refine Go.pre (fun _ k => Jvm.RoadKit.acmp (g := (mkF m 97 #[iv p1, iv (1 : Int32), rv aT, rv aT, rv aF, iv (1 : Int32), iv (1 : Int32), .unset, .unset, .unset] [(.ref aB), (.ref aB)])) X15 hx rfl rfl rfl (pc0 := 97) (pc' := 100) (same := true) rfl (hb hby at_97) rfl (decide_eq_true rfl) (by decide) (by decide) k) ?_
    show Go p e below _ (T15.setTop (mkF m 100 #[iv p1, iv (1 : Int32), rv aT, rv aT, rv aF, iv (1 : Int32), iv (1 : Int32), .unset, .unset, .unset] []))
    refine Go.pre (fun _ k => XS.iconst X15.here hx rfl (hb hby at_100) k) ?_
    show Go p e below _ (T15.setTop (mkF m 101 #[iv p1, iv (1 : Int32), rv aT, rv aT, rv aF, iv (1 : Int32), iv (1 : Int32), .unset, .unset, .unset] [(.int (1 : Int32))]))
    refine Go.pre (fun _ k => XS.goto X15.here hx rfl (pc0 := 101) (pc' := 105) rfl (hb hby at_101) (by decide) (by decide) k) ?_
    show Go p e below _ (T15.setTop (mkF m 105 #[iv p1, iv (1 : Int32), rv aT, rv aT, rv aF, iv (1 : Int32), iv (1 : Int32), .unset, .unset, .unset] [(.int (1 : Int32))]))
    refine Go.pre (fun _ k => XS.istore X15.here hx rfl (hb hby at_105) rfl (l' := #[iv p1, iv (1 : Int32), rv aT, rv aT, rv aF, iv (1 : Int32), iv (1 : Int32), iv (1 : Int32), .unset, .unset]) rfl k) ?_
    show Go p e below _ (T15.setTop (mkF m 107 #[iv p1, iv (1 : Int32), rv aT, rv aT, rv aF, iv (1 : Int32), iv (1 : Int32), iv (1 : Int32), .unset, .unset] []))
    refine Go.pre (fun _ k => XS.aloadN X15.here hx rfl (hb hby at_107) rfl rfl k) ?_
    show Go p e below _ (T15.setTop (mkF m 108 #[iv p1, iv (1 : Int32), rv aT, rv aT, rv aF, iv (1 : Int32), iv (1 : Int32), iv (1 : Int32), .unset, .unset] [(.ref aT)]))
    refine Go.pre (fun _ k => XS.aloadN X15.here hx rfl (hb hby at_108) rfl rfl k) ?_
    show Go p e below _ (T15.setTop (mkF m 109 #[iv p1, iv (1 : Int32), rv aT, rv aT, rv aF, iv (1 : Int32), iv (1 : Int32), iv (1 : Int32), .unset, .unset] [(.ref aT), (.ref aT)]))
    refine Go.pre (fun _ k => Jvm.RoadKit.acmp (g := (mkF m 109 #[iv p1, iv (1 : Int32), rv aT, rv aT, rv aF, iv (1 : Int32), iv (1 : Int32), iv (1 : Int32), .unset, .unset] [(.ref aT), (.ref aT)])) X15 hx rfl rfl rfl (pc0 := 109) (pc' := 112) (same := true) rfl (hb hby at_109) rfl (decide_eq_true rfl) (by decide) (by decide) k) ?_
    show Go p e below _ (T15.setTop (mkF m 112 #[iv p1, iv (1 : Int32), rv aT, rv aT, rv aF, iv (1 : Int32), iv (1 : Int32), iv (1 : Int32), .unset, .unset] []))
    refine Go.pre (fun _ k => XS.iconst X15.here hx rfl (hb hby at_112) k) ?_
    show Go p e below _ (T15.setTop (mkF m 113 #[iv p1, iv (1 : Int32), rv aT, rv aT, rv aF, iv (1 : Int32), iv (1 : Int32), iv (1 : Int32), .unset, .unset] [(.int (1 : Int32))]))
    refine Go.pre (fun _ k => XS.goto X15.here hx rfl (pc0 := 113) (pc' := 117) rfl (hb hby at_113) (by decide) (by decide) k) ?_
    show Go p e below _ (T15.setTop (mkF m 117 #[iv p1, iv (1 : Int32), rv aT, rv aT, rv aF, iv (1 : Int32), iv (1 : Int32), iv (1 : Int32), .unset, .unset] [(.int (1 : Int32))]))
    refine Go.pre (fun _ k => XS.istore X15.here hx rfl (hb hby at_117) rfl (l' := #[iv p1, iv (1 : Int32), rv aT, rv aT, rv aF, iv (1 : Int32), iv (1 : Int32), iv (1 : Int32), iv (1 : Int32), .unset]) rfl k) ?_
    show Go p e below _ (T15.setTop (mkF m 119 #[iv p1, iv (1 : Int32), rv aT, rv aT, rv aF, iv (1 : Int32), iv (1 : Int32), iv (1 : Int32), iv (1 : Int32), .unset] []))
    refine Go.pre (fun _ k => XS.aloadN X15.here hx rfl (hb hby at_119) rfl rfl k) ?_
    show Go p e below _ (T15.setTop (mkF m 120 #[iv p1, iv (1 : Int32), rv aT, rv aT, rv aF, iv (1 : Int32), iv (1 : Int32), iv (1 : Int32), iv (1 : Int32), .unset] [(.ref aT)]))
    refine Go.pre (fun _ k => XS.aload X15.here hx rfl (hb hby at_120) rfl rfl k) ?_
    show Go p e below _ (T15.setTop (mkF m 122 #[iv p1, iv (1 : Int32), rv aT, rv aT, rv aF, iv (1 : Int32), iv (1 : Int32), iv (1 : Int32), iv (1 : Int32), .unset] [(.ref aF), (.ref aT)]))
    refine Go.pre (fun _ k => Jvm.RoadKit.acmp (g := (mkF m 122 #[iv p1, iv (1 : Int32), rv aT, rv aT, rv aF, iv (1 : Int32), iv (1 : Int32), iv (1 : Int32), iv (1 : Int32), .unset] [(.ref aF), (.ref aT)])) X15 hx rfl rfl rfl (pc0 := 122) (pc' := 125) (same := false) rfl (hb hby at_122) rfl (decide_eq_false fun q => hne (Value.ref.inj q).symm) (by decide) (by decide) k) ?_
    show Go p e below _ (T15.setTop (mkF m 125 #[iv p1, iv (1 : Int32), rv aT, rv aT, rv aF, iv (1 : Int32), iv (1 : Int32), iv (1 : Int32), iv (1 : Int32), .unset] []))
    refine Go.pre (fun _ k => XS.iconst X15.here hx rfl (hb hby at_125) k) ?_
    show Go p e below _ (T15.setTop (mkF m 126 #[iv p1, iv (1 : Int32), rv aT, rv aT, rv aF, iv (1 : Int32), iv (1 : Int32), iv (1 : Int32), iv (1 : Int32), .unset] [(.int (1 : Int32))]))
    refine Go.pre (fun _ k => XS.goto X15.here hx rfl (pc0 := 126) (pc' := 130) rfl (hb hby at_126) (by decide) (by decide) k) ?_
    show Go p e below _ (T15.setTop (mkF m 130 #[iv p1, iv (1 : Int32), rv aT, rv aT, rv aF, iv (1 : Int32), iv (1 : Int32), iv (1 : Int32), iv (1 : Int32), .unset] [(.int (1 : Int32))]))
    refine Go.pre (fun _ k => XS.istore X15.here hx rfl (hb hby at_130) rfl (l' := #[iv p1, iv (1 : Int32), rv aT, rv aT, rv aF, iv (1 : Int32), iv (1 : Int32), iv (1 : Int32), iv (1 : Int32), iv (1 : Int32)]) rfl k) ?_
    show Go p e below _ (T15.setTop (mkF m 132 #[iv p1, iv (1 : Int32), rv aT, rv aT, rv aF, iv (1 : Int32), iv (1 : Int32), iv (1 : Int32), iv (1 : Int32), iv (1 : Int32)] []))
    refine Go.pre (fun _ k => XS.iload X15.here hx rfl (hb hby at_132) rfl k) ?_
    show Go p e below _ (T15.setTop (mkF m 134 #[iv p1, iv (1 : Int32), rv aT, rv aT, rv aF, iv (1 : Int32), iv (1 : Int32), iv (1 : Int32), iv (1 : Int32), iv (1 : Int32)] [(.int (1 : Int32))]))
    refine Go.pre (fun _ k => XS.ifNo X15.here hx rfl (hb hby at_134) rfl ((if0 _ _).trans (feq (by decide : ¬ ((1 : Int32) = (0 : Int32)))).1) k) ?_
    show Go p e below _ (T15.setTop (mkF m 137 #[iv p1, iv (1 : Int32), rv aT, rv aT, rv aF, iv (1 : Int32), iv (1 : Int32), iv (1 : Int32), iv (1 : Int32), iv (1 : Int32)] []))
    refine Go.pre (fun _ k => XS.iload X15.here hx rfl (hb hby at_137) rfl k) ?_
    show Go p e below _ (T15.setTop (mkF m 139 #[iv p1, iv (1 : Int32), rv aT, rv aT, rv aF, iv (1 : Int32), iv (1 : Int32), iv (1 : Int32), iv (1 : Int32), iv (1 : Int32)] [(.int (1 : Int32))]))
    refine Go.pre (fun _ k => XS.ifNo X15.here hx rfl (hb hby at_139) rfl ((if0 _ _).trans (feq (by decide : ¬ ((1 : Int32) = (0 : Int32)))).1) k) ?_
    show Go p e below _ (T15.setTop (mkF m 142 #[iv p1, iv (1 : Int32), rv aT, rv aT, rv aF, iv (1 : Int32), iv (1 : Int32), iv (1 : Int32), iv (1 : Int32), iv (1 : Int32)] []))
    refine Go.pre (fun _ k => XS.iload X15.here hx rfl (hb hby at_142) rfl k) ?_
    show Go p e below _ (T15.setTop (mkF m 144 #[iv p1, iv (1 : Int32), rv aT, rv aT, rv aF, iv (1 : Int32), iv (1 : Int32), iv (1 : Int32), iv (1 : Int32), iv (1 : Int32)] [(.int (1 : Int32))]))
    refine Go.pre (fun _ k => XS.ifNo X15.here hx rfl (hb hby at_144) rfl ((if0 _ _).trans (feq (by decide : ¬ ((1 : Int32) = (0 : Int32)))).1) k) ?_
    show Go p e below _ (T15.setTop (mkF m 147 #[iv p1, iv (1 : Int32), rv aT, rv aT, rv aF, iv (1 : Int32), iv (1 : Int32), iv (1 : Int32), iv (1 : Int32), iv (1 : Int32)] []))
    refine Go.pre (fun _ k => XS.iload X15.here hx rfl (hb hby at_147) rfl k) ?_
    show Go p e below _ (T15.setTop (mkF m 149 #[iv p1, iv (1 : Int32), rv aT, rv aT, rv aF, iv (1 : Int32), iv (1 : Int32), iv (1 : Int32), iv (1 : Int32), iv (1 : Int32)] [(.int (1 : Int32))]))
    refine Go.pre (fun _ k => XS.ifNo X15.here hx rfl (hb hby at_149) rfl ((if0 _ _).trans (feq (by decide : ¬ ((1 : Int32) = (0 : Int32)))).1) k) ?_
    show Go p e below _ (T15.setTop (mkF m 152 #[iv p1, iv (1 : Int32), rv aT, rv aT, rv aF, iv (1 : Int32), iv (1 : Int32), iv (1 : Int32), iv (1 : Int32), iv (1 : Int32)] []))
    refine Go.pre (fun _ k => XS.iload X15.here hx rfl (hb hby at_152) rfl k) ?_
    show Go p e below _ (T15.setTop (mkF m 154 #[iv p1, iv (1 : Int32), rv aT, rv aT, rv aF, iv (1 : Int32), iv (1 : Int32), iv (1 : Int32), iv (1 : Int32), iv (1 : Int32)] [(.int (1 : Int32))]))
    refine Go.pre (fun _ k => XS.ifNo X15.here hx rfl (hb hby at_154) rfl ((if0 _ _).trans (feq (by decide : ¬ ((1 : Int32) = (0 : Int32)))).1) k) ?_
    show Go p e below _ (T15.setTop (mkF m 157 #[iv p1, iv (1 : Int32), rv aT, rv aT, rv aF, iv (1 : Int32), iv (1 : Int32), iv (1 : Int32), iv (1 : Int32), iv (1 : Int32)] []))
    refine Go.pre (fun _ k => XS.iconst X15.here hx rfl (hb hby at_157) k) ?_
    show Go p e below _ (T15.setTop (mkF m 158 #[iv p1, iv (1 : Int32), rv aT, rv aT, rv aF, iv (1 : Int32), iv (1 : Int32), iv (1 : Int32), iv (1 : Int32), iv (1 : Int32)] [(.int (1 : Int32))]))
    refine Go.pre (fun _ k => XS.goto X15.here hx rfl (pc0 := 158) (pc' := 162) rfl (hb hby at_158) (by decide) (by decide) k) ?_
    show Go p e below _ (T15.setTop (mkF m 162 #[iv p1, iv (1 : Int32), rv aT, rv aT, rv aF, iv (1 : Int32), iv (1 : Int32), iv (1 : Int32), iv (1 : Int32), iv (1 : Int32)] [(.int (1 : Int32))]))
    obtain ⟨fs, hr, hrun, hended, hW, hsame⟩ := X15.leave (v := some (.int (1 : Int32))) (fun h => by rw [Bd.returns] at h; cases h)
    refine Go.fin (retN X15 hx (t := .boolean) Bd.returns (by simp) (hb hby at_162) hr) ⟨hrun, hended, _, _, rfl, ?_, ⟨_, rfl⟩, hW, hsame.mono (by decide) (by decide)⟩
    exact ⟨rfl, N14⟩

theorem own_ne {Z : State} {h : Heap} {a b : Addr} {C n d : String} {v w : Value} (F : Fld Z h a C n d v) (G : Fld Z h b C n d w) (hvw : v ≠ w) : ¬ a = b := fun e => by
  subst e
  obtain ⟨c1, f1, k1, i1, g1, a1, a2, -, -, -, -, a7⟩ := F
  obtain ⟨c2, f2, k2, i2, g2, b1, b2, -, -, -, -, b7⟩ := G
  cases a1.symm.trans b1
  cases a2.symm.trans b2
  exact hvw (Option.some.inj (a7.symm.trans b7))

set_option maxRecDepth 65536 in
set_option maxHeartbeats 40000000 in
theorem comes_1 {Post : Tables → Env → Array Value → State → Outcome → State → Prop} (hpost : ∀ tb e args s v u, (limb_1_1.after args s (.returned v) u = true ∧ limb_1_2.after args s (.returned v) u = true ∧ True) → FrameEnd s (.returned v) u (Jvm.fieldLocs frame_1_writes args s ++ Jvm.arrayLocs frame_1_arrays args s ++ Jvm.staticLocs frame_1_statics s) 0 0 → Post tb e args s (.returned v) u) :
    ArmFor flags0 classFile x code maxLocals ret World_1 tables_1 room_1 Calls_1 rest_1 Pre_1 Post := by
  intro l hfl _ _ p e ha hc hk s m args below hf hA hF happ hP
  obtain ⟨hcalls, hrest, hpre⟩ := hP
  obtain ⟨-, -, -, hnamed, -, -, -, hat⟩ := (Spec.applies_iff hf).mp happ
  obtain ⟨hg, hn⟩ := and_e (Cond.before_iff.mp (show (Jvm.Cond.and given_1 narrow_1).before args s = true from hpre))
  obtain ⟨g0, r0⟩ := and_e hg
  obtain ⟨w0, rfl⟩ : ∃ w0 : Value, args = #[w0] := by
    have hs : args.size = 1 := by simpa [Cond.value, given_1] using g0
    obtain ⟨L⟩ := args
    match L, hs with
    | [w0], _ => exact ⟨w0, rfl⟩
  have hw := fun d (hd : d ∈ tables_1) => atoms_spec (ws := Jvm.Cond.code x code maxLocals ret :: tables_1) hat d (List.mem_cons_of_mem _ hd)
  obtain ⟨i0, ei0⟩ := is_v r0
  obtain rfl : w0 = (.int i0) := Option.some.inj ei0
  obtain ⟨c1, c2⟩ := and_e hn
  obtain ⟨c3, c4⟩ := and_e c2
  obtain ⟨c5, c6⟩ := and_e c4
  obtain ⟨c7, c8⟩ := and_e c6
  obtain ⟨c9, c10⟩ := and_e c8
  obtain ⟨a_FALSE, ev_FALSE⟩ := exa_v c1
  have E_FALSE := Exa.start ev_FALSE c1
  have S_FALSE := Sta.start ev_FALSE (Or.inr ⟨(hw _ (List.mem_of_getElem? (i := 2) rfl)), (hw _ (List.mem_of_getElem? (i := 5) rfl))⟩)
  obtain ⟨a_TRUE, ev_TRUE⟩ := exa_v c3
  have E_TRUE := Exa.start ev_TRUE c3
  have S_TRUE := Sta.start ev_TRUE (Or.inr ⟨(hw _ (List.mem_of_getElem? (i := 2) rfl)), (hw _ (List.mem_of_getElem? (i := 7) rfl))⟩)
  obtain ⟨a_BOOL, ev_BOOL⟩ := exa_v c9
  have E_BOOL := Exa.start ev_BOOL c9
  have S_BOOL := Sta.start ev_BOOL (Or.inr ⟨(hw _ (List.mem_of_getElem? (i := 21) rfl)), (hw _ (List.mem_of_getElem? (i := 22) rfl))⟩)
  have F_FALSE_value := own_fldI ev_FALSE c5
  have F_TRUE_value := own_fldI ev_TRUE c7
  obtain ⟨n, o, h1, h2, h3, _, L, rfl, ⟨rfl, N⟩, hq⟩ := rm_law l s _ hw tables_1 i0 a_FALSE a_TRUE a_BOOL s.heap s.heap.size (Nat.le_refl _) S_FALSE S_TRUE S_BOOL E_FALSE E_TRUE F_FALSE_value F_TRUE_value (own_ne F_FALSE_value F_TRUE_value (by decide)) p e ha hc hk s m _ below hf ((Spec.applies_iff_loose hf).mp happ).1 ⟨rfl, State.Warmed39.refl s, rfl⟩ trivial
  refine ⟨n, _, h1, h2, h3, hpost _ _ _ _ _ _ ⟨Cond.after_iff.mpr rfl, Cond.after_iff.mpr (eq_i res_at (Term.int_eval (1)) rfl), trivial⟩ ⟨hq.1, hq.2.1, (hq.2.2.sift fun y hy => Or.inr (N y hy)).mono (by decide) (by decide)⟩⟩
theorem main_1_1 : Claimed_1_1 := comes_1 fun _ _ _ _ _ _ h hF => ⟨h.1, hF⟩
theorem main_1_2 : Claimed_1_2 := comes_1 fun _ _ _ _ _ _ h hF => ⟨h.2.1, hF⟩
end Jvm.Pilot.@@N@@
namespace Jvm.Pilot.@@N@@
open Jvm Jvm.ClassFile Sem Op Lib Jvm.Free Jvm.Stand Jvm.Pilot.@@N@@.Jvm.D
/-! MADE BY PROGRAM (witnessworld.py) out of the Statement's table words and the real class files: 11 classes; the members and pool entries that the words name. The judged class is class 1, her method 1. -/
namespace start1
open Jvm.ClassFile
def u (s : String) : CpInfo := .utf8 (stringToUtf16 s)
/-- a pool by its gaps: so many unusable entries, then the entry; so many at the end -/
def gap : Nat → List CpInfo → List CpInfo
  | 0, r => r
  | n + 1, r => .unusable :: gap n r
def poolList (es : List (Nat × CpInfo)) (last : Nat) : List CpInfo := es.foldr (fun e r => gap e.1 (e.2 :: r)) (gap last [])
def pool (es : List (Nat × CpInfo)) (last : Nat) : Array CpInfo := ⟨poolList es last⟩
def fileOf (pool : Array CpInfo) (this : Nat) (attrs : Array Attribute := #[]) (ms : Array MethodInfo := #[]) (fl : Nat := 33) (sup : Nat := 0) (ifs : Array Nat := #[]) (fds : Array FieldInfo := #[]) : ClassFile where
  minorVersion := 0
  majorVersion := 65
  constantPool := pool
  accessFlags := fl
  thisClass := this
  superClass := sup
  interfaces := ifs
  fields := fds
  methods := ms
  attributes := attrs
def plain (name : String) (sup : Option ClassId) : Class where
  name := name
  kind := .ordinary
  loader := none
  accessFlags := 33
  super := sup
  interfaces := #[]
  cf := none
  fields := #[]
  methods := #[]
  instanceTypes := #[]
  staticTypes := #[]
  resolved := #[]
  callSites := []
  init := .initialized
  statics := none
  mirror := none

def pool0 : Array CpInfo := pool [(5, u "<init>"), (0, u "()V"), (1, .class_ 10), (1, u "java/lang/Object")] 113

def k0m0 : Method := { name := "<init>", desc := "()V", sig := { parameters := [], returnType := none }, accessFlags := 1, code := none }
/-- java/lang/Object -/
def k0 : Class := { plain "java/lang/Object" none with
  accessFlags := 33
  interfaces := #[]
  cf := some (fileOf pool0 8 #[] #[{ accessFlags := 1, nameIndex := 5, descriptorIndex := 6, attributes := #[] }] 33 0 #[] #[])
  fields := #[]
  methods := #[k0m0]
  instanceTypes := #[]
  staticTypes := #[]
  resolved := Array.replicate 124 none
  statics := none }

def pool1 : Array CpInfo := pool [(2, .class_ 4), (1, u "java/lang/Object"), (0, u "<init>"), (0, u "()V"), (0, .methodref 8 9), (0, .class_ 10), (0, .nameAndType 11 12), (0, u "com/example/falsify/falsify/BoolValue"), (0, u "of"), (0, u "(Z)Lcom/example/falsify/falsify/BoolValue;"), (0, .methodref 8 14), (0, .nameAndType 15 16), (0, u "asBoolean"), (0, u "()Z"), (0, .methodref 8 18), (0, .nameAndType 19 20), (0, u "getType"), (0, u "()Lcom/example/falsify/falsify/Type;"), (0, .fieldref 22 23), (0, .class_ 24), (0, .nameAndType 25 26), (0, u "com/example/falsify/falsify/Type"), (0, u "BOOL"), (0, u "Lcom/example/falsify/falsify/Type;"), (0, .class_ 28), (0, u "com/example/falsify/falsify/BoolValueOfPinLaw"), (2, u "law"), (0, u "(I)Z")] 3

def k1m0 : Method := { name := "<init>", desc := "()V", sig := { parameters := [], returnType := none }, accessFlags := 2, code := none }
def k1c1 : Code := { maxStack := 2, maxLocals := 10, code := code, exceptionTable := #[], attributes := #[] }
def k1m1 : Method := { name := "law", desc := "(I)Z", sig := { parameters := [.int], returnType := some .boolean }, accessFlags := 9, code := some k1c1 }
/-- com/example/falsify/falsify/BoolValueOfPinLaw -/
def k1 : Class := { plain "com/example/falsify/falsify/BoolValueOfPinLaw" (some 0) with
  accessFlags := 49
  interfaces := #[]
  cf := some (fileOf pool1 27 #[] #[{ accessFlags := 2, nameIndex := 5, descriptorIndex := 6, attributes := #[] }, { accessFlags := 9, nameIndex := 31, descriptorIndex := 32, attributes := #[] }] 49 2 #[] #[])
  fields := #[]
  methods := #[k1m0, k1m1]
  instanceTypes := #[]
  staticTypes := #[]
  resolved := Array.replicate 36 none
  statics := none }

def pool2 : Array CpInfo := pool [(2, .class_ 4), (1, u "java/lang/Object"), (0, u "<init>"), (0, u "()V"), (3, .class_ 12), (1, u "com/example/falsify/falsify/Value")] 70

def k2m0 : Method := { name := "<init>", desc := "()V", sig := { parameters := [], returnType := none }, accessFlags := 0, code := none }
/-- com/example/falsify/falsify/Value -/
def k2 : Class := { plain "com/example/falsify/falsify/Value" (some 0) with
  accessFlags := 1056
  interfaces := #[]
  cf := some (fileOf pool2 10 #[] #[{ accessFlags := 0, nameIndex := 5, descriptorIndex := 6, attributes := #[] }] 1056 2 #[] #[])
  fields := #[]
  methods := #[k2m0]
  instanceTypes := #[]
  staticTypes := #[]
  resolved := Array.replicate 83 none
  statics := none }

def pool3 : Array CpInfo := pool [(2, .class_ 4), (1, u "com/example/falsify/falsify/Value"), (2, .fieldref 8 9), (0, .class_ 10), (0, .nameAndType 11 12), (0, u "com/example/falsify/falsify/BoolValue"), (0, u "value"), (0, u "Z"), (0, .fieldref 8 14), (0, .nameAndType 15 16), (0, u "TRUE"), (0, u "Lcom/example/falsify/falsify/BoolValue;"), (0, .fieldref 8 18), (0, .nameAndType 19 16), (0, u "FALSE"), (0, .fieldref 21 22), (0, .class_ 23), (0, .nameAndType 24 25), (0, u "com/example/falsify/falsify/Type"), (0, u "BOOL"), (0, u "Lcom/example/falsify/falsify/Type;"), (15, u "of"), (0, u "(Z)Lcom/example/falsify/falsify/BoolValue;"), (1, u "getType"), (0, u "()Lcom/example/falsify/falsify/Type;"), (0, u "asBoolean"), (0, u "()Z")] 7

def k3c0 : Code := { maxStack := 1, maxLocals := 1, code := prog_5_method_2_code, exceptionTable := #[], attributes := #[] }
def k3m0 : Method := { name := "of", desc := "(Z)Lcom/example/falsify/falsify/BoolValue;", sig := { parameters := [.boolean], returnType := some (.object "com/example/falsify/falsify/BoolValue") }, accessFlags := 8, code := some k3c0 }
def k3c1 : Code := { maxStack := 1, maxLocals := 1, code := prog_5_method_3_code, exceptionTable := #[], attributes := #[] }
def k3m1 : Method := { name := "getType", desc := "()Lcom/example/falsify/falsify/Type;", sig := { parameters := [], returnType := some (.object "com/example/falsify/falsify/Type") }, accessFlags := 0, code := some k3c1 }
def k3c2 : Code := { maxStack := 1, maxLocals := 1, code := prog_5_method_4_code, exceptionTable := #[], attributes := #[] }
def k3m2 : Method := { name := "asBoolean", desc := "()Z", sig := { parameters := [], returnType := some .boolean }, accessFlags := 0, code := some k3c2 }
/-- com/example/falsify/falsify/BoolValue -/
def k3 : Class := { plain "com/example/falsify/falsify/BoolValue" (some 2) with
  accessFlags := 48
  interfaces := #[]
  cf := some (fileOf pool3 8 #[] #[{ accessFlags := 8, nameIndex := 41, descriptorIndex := 42, attributes := #[] }, { accessFlags := 0, nameIndex := 44, descriptorIndex := 45, attributes := #[] }, { accessFlags := 0, nameIndex := 46, descriptorIndex := 47, attributes := #[] }] 48 2 #[] #[{ accessFlags := 24, nameIndex := 15, descriptorIndex := 16, attributes := #[] }, { accessFlags := 24, nameIndex := 19, descriptorIndex := 16, attributes := #[] }, { accessFlags := 18, nameIndex := 11, descriptorIndex := 12, attributes := #[] }])
  fields := #[{ name := "TRUE", type := (.object "com/example/falsify/falsify/BoolValue"), accessFlags := 24, slot := 0, constantValue := 0 }, { name := "FALSE", type := (.object "com/example/falsify/falsify/BoolValue"), accessFlags := 24, slot := 1, constantValue := 0 }, { name := "value", type := .boolean, accessFlags := 18, slot := 0, constantValue := 0 }]
  methods := #[k3m0, k3m1, k3m2]
  instanceTypes := #[.boolean]
  staticTypes := #[(.object "com/example/falsify/falsify/BoolValue"), (.object "com/example/falsify/falsify/BoolValue")]
  resolved := Array.replicate 55 none
  statics := some 0 }

def pool4 : Array CpInfo := pool [(2, .class_ 4), (1, u "java/lang/Object"), (3, .class_ 10), (1, u "com/example/falsify/falsify/Type"), (0, u "spelling"), (0, u "Ljava/lang/String;"), (2, u "article"), (2, u "element"), (0, u "Lcom/example/falsify/falsify/Type;"), (2, u "length"), (0, u "I"), (27, u "INT"), (6, u "REAL"), (55, u "BOOL")] 39

/-- com/example/falsify/falsify/Type -/
def k4 : Class := { plain "com/example/falsify/falsify/Type" (some 0) with
  accessFlags := 32
  interfaces := #[]
  cf := some (fileOf pool4 8 #[] #[] 32 2 #[] #[{ accessFlags := 24, nameIndex := 114, descriptorIndex := 19, attributes := #[] }, { accessFlags := 24, nameIndex := 51, descriptorIndex := 19, attributes := #[] }, { accessFlags := 24, nameIndex := 58, descriptorIndex := 19, attributes := #[] }, { accessFlags := 18, nameIndex := 11, descriptorIndex := 12, attributes := #[] }, { accessFlags := 18, nameIndex := 15, descriptorIndex := 12, attributes := #[] }, { accessFlags := 18, nameIndex := 18, descriptorIndex := 19, attributes := #[] }, { accessFlags := 18, nameIndex := 22, descriptorIndex := 23, attributes := #[] }])
  fields := #[{ name := "BOOL", type := (.object "com/example/falsify/falsify/Type"), accessFlags := 24, slot := 0, constantValue := 0 }, { name := "INT", type := (.object "com/example/falsify/falsify/Type"), accessFlags := 24, slot := 1, constantValue := 0 }, { name := "REAL", type := (.object "com/example/falsify/falsify/Type"), accessFlags := 24, slot := 2, constantValue := 0 }, { name := "spelling", type := (.object "java/lang/String"), accessFlags := 18, slot := 0, constantValue := 0 }, { name := "article", type := (.object "java/lang/String"), accessFlags := 18, slot := 1, constantValue := 0 }, { name := "element", type := (.object "com/example/falsify/falsify/Type"), accessFlags := 18, slot := 2, constantValue := 0 }, { name := "length", type := .int, accessFlags := 18, slot := 3, constantValue := 0 }]
  methods := #[]
  instanceTypes := #[(.object "java/lang/String"), (.object "java/lang/String"), (.object "com/example/falsify/falsify/Type"), .int]
  staticTypes := #[(.object "com/example/falsify/falsify/Type"), (.object "com/example/falsify/falsify/Type"), (.object "com/example/falsify/falsify/Type")]
  resolved := Array.replicate 154 none
  statics := some 1 }

def pool5 : Array CpInfo := pool [(1, u "java/lang/Cloneable"), (0, .class_ 1), (0, u "java/lang/Object"), (0, .class_ 3)] 3

/-- java/lang/Cloneable -/
def k5 : Class := { plain "java/lang/Cloneable" (some 0) with
  accessFlags := 1537
  interfaces := #[]
  cf := some (fileOf pool5 2 #[] #[] 1537 4 #[] #[])
  fields := #[]
  methods := #[]
  instanceTypes := #[]
  staticTypes := #[]
  resolved := Array.replicate 8 none
  statics := none }

def pool6 : Array CpInfo := pool [(1, u "java/io/Serializable"), (0, .class_ 1), (0, u "java/lang/Object"), (0, .class_ 3)] 3

/-- java/io/Serializable -/
def k6 : Class := { plain "java/io/Serializable" (some 0) with
  accessFlags := 1537
  interfaces := #[]
  cf := some (fileOf pool6 2 #[] #[] 1537 4 #[] #[])
  fields := #[]
  methods := #[]
  instanceTypes := #[]
  staticTypes := #[]
  resolved := Array.replicate 8 none
  statics := none }

/-- the primitive byte -/
def k7 : Class := { plain "byte" none with kind := .primitive 'B', accessFlags := 0x411 }
/-- [B -/
def k8 : Class := { plain "[B" (some 0) with kind := .array 7 .byte, interfaces := #[5, 6], accessFlags := 1041 }

/-- the primitive int -/
def k9 : Class := { plain "int" none with kind := .primitive 'I', accessFlags := 0x411 }
/-- [I -/
def k10 : Class := { plain "[I" (some 0) with kind := .array 9 .int, interfaces := #[5, 6], accessFlags := 1041 }

def heap : Heap := #[{ cls := 3, slots := #[.ref 3, .ref 2], vm := .statics 3 },
  { cls := 4, slots := #[.ref 4, .null, .null], vm := .statics 4 },
  { cls := 3, slots := #[.int 0], vm := .none },
  { cls := 3, slots := #[.int 1], vm := .none },
  { cls := 4, slots := #[.null, .null, .null, .int 0], vm := .none }]
def classes : Array Class := #[k0, k1, k2, k3, k4, k5, k6, k7, k8, k9, k10]
def interned : List (Array UInt16 × Addr) := []
def slotsUsed : Nat := 11
def theMethod : MethodId := ⟨1, 1⟩
def args0 : Array Value := #[.int 5]
def aboutOver (below : List Frame) : State where
  vm := { classes := classes, interned := interned.toArray }
  heap := heap
  slotsUsed := slotsUsed
  threads := #[{ frames := .invoking theMethod args0 :: below }]
def below0 : List Frame := [.native { method := ⟨0, 0⟩, args := #[] }]
def about1 : State := aboutOver below0
def p0 : Program := .bare "" "" ""
def e0 : Env := launch0.env 0 0 0
theorem w_frames : about1.frames = Frame.invoking theMethod args0 :: below0 := rfl
set_option maxRecDepth 65536 in
theorem w_args : argsFit about1.vm theMethod args0 = true := by decide +kernel
set_option maxRecDepth 65536 in
theorem w_heap : heapFits about1 = true := by decide +kernel
set_option maxRecDepth 65536 in
theorem w_runnable : about1.curStatus? = some .runnable := by decide +kernel
set_option maxRecDepth 65536 in
theorem w_alone : about1.alone = true := by decide +kernel
set_option maxRecDepth 65536 in
theorem w_named : about1.methodNamed? x = some theMethod := by decide +kernel
set_option maxRecDepth 65536 in
theorem w_hears : about1.hears theMethod below0 = true := by decide +kernel
set_option maxRecDepth 65536 in
theorem w_ripe : about1.ripe theMethod args0 below0 = true := by decide +kernel
theorem w_running : about1.status = .running := rfl
set_option maxRecDepth 65536 in
theorem w_room : about1.hasRoom e0.platform room_1 = true :=
  launch0.hasRoom_least _ room_1 (by decide +kernel) (by decide +kernel) (by decide +kernel) (by decide +kernel) (by decide +kernel) (by decide +kernel)
theorem allAtoms_all (ts : List Jvm.Cond) (a : Array Jvm.Value) (st : Jvm.State) : (allAtoms ts).before a st = ts.all (fun c => c.before a st) := by
  induction ts with
  | nil => rfl
  | cons c t ih =>
    show (Jvm.Cond.and c (allAtoms t)).before a st = _
    rw [Jvm.Cond.before_and, ih, List.all_cons]
def words1 : List Jvm.Cond := Jvm.Cond.code x code maxLocals ret :: tables_1
/-- a 'code' word, met by the world's own term for the bytes: nothing is compared byte by byte -/
theorem code_word {y : MethodName} {bytes : ByteArray} {mx : Nat} {rt : Option FieldType} {a : Array Value} {s : State} {m : MethodId} {meth : Method} {c : Code} (h1 : s.methodNamed? y = some m) (h2 : s.vm.method? m = some meth) (h3 : meth.code = some c) (h4 : c.code = bytes)
    (h5 : (c.maxLocals == mx && c.exceptionTable.isEmpty && decide (c.maxStack ≤ mostOperands) && decide (meth.sig.returnType = rt) && !meth.locks && decide (parseMethodDescriptor y.desc = some meth.sig)) = true) : (Jvm.Cond.code y bytes mx rt).before a s = true := by
  simp only [Bool.and_eq_true, beq_iff_eq, Bool.not_eq_true', decide_eq_true_eq] at h5
  obtain ⟨⟨⟨⟨⟨g1, g2⟩, g3⟩, g4⟩, g5⟩, g6⟩ := h5
  simp [Cond.before, Cond.holds, Cond.value, h1, h2, h3, h4, g1, g2, g3, g4, g5, g6]
def isCode : Jvm.Cond → Bool
  | .code _ _ _ _ => true
  | _ => false
theorem all_split {L : List Jvm.Cond} {P : Jvm.Cond → Bool} (h1 : L.all (fun c => isCode c || P c) = true) (h2 : ∀ c ∈ L.filter isCode, P c = true) : L.all P = true := by
  refine List.all_eq_true.mpr fun c hc => ?_
  have h := List.all_eq_true.mp h1 c hc
  rcases Bool.eq_false_or_eq_true (isCode c) with hi | hi
  · exact h2 c (List.mem_filter.mpr ⟨hc, hi⟩)
  · simpa [hi] using h
set_option maxRecDepth 65536 in
theorem w_c0 : (Jvm.Cond.code x code maxLocals ret).before args0 about1 = true := code_word (m := ⟨1, 1⟩) (meth := k1m1) (c := k1c1) (by decide +kernel) rfl rfl rfl (by decide +kernel)
set_option maxRecDepth 65536 in
theorem w_c1 : (Jvm.Cond.code ({ cls := "com/example/falsify/falsify/BoolValue", name := "of", desc := "(Z)Lcom/example/falsify/falsify/BoolValue;" } : Jvm.MethodName) prog_5_method_2_code (1 : Nat) (Option.some (Jvm.ClassFile.FieldType.object "com/example/falsify/falsify/BoolValue"))).before args0 about1 = true := code_word (m := ⟨3, 0⟩) (meth := k3m0) (c := k3c0) (by decide +kernel) rfl rfl rfl (by decide +kernel)
set_option maxRecDepth 65536 in
theorem w_c2 : (Jvm.Cond.code ({ cls := "com/example/falsify/falsify/BoolValue", name := "asBoolean", desc := "()Z" } : Jvm.MethodName) prog_5_method_4_code (1 : Nat) (Option.some Jvm.ClassFile.FieldType.boolean)).before args0 about1 = true := code_word (m := ⟨3, 2⟩) (meth := k3m2) (c := k3c2) (by decide +kernel) rfl rfl rfl (by decide +kernel)
set_option maxRecDepth 65536 in
theorem w_c3 : (Jvm.Cond.code ({ cls := "com/example/falsify/falsify/BoolValue", name := "getType", desc := "()Lcom/example/falsify/falsify/Type;" } : Jvm.MethodName) prog_5_method_3_code (1 : Nat) (Option.some (Jvm.ClassFile.FieldType.object "com/example/falsify/falsify/Type"))).before args0 about1 = true := code_word (m := ⟨3, 1⟩) (meth := k3m1) (c := k3c1) (by decide +kernel) rfl rfl rfl (by decide +kernel)
def codes1 : List Jvm.Cond := [Jvm.Cond.code x code maxLocals ret, Jvm.Cond.code ({ cls := "com/example/falsify/falsify/BoolValue", name := "of", desc := "(Z)Lcom/example/falsify/falsify/BoolValue;" } : Jvm.MethodName) prog_5_method_2_code (1 : Nat) (Option.some (Jvm.ClassFile.FieldType.object "com/example/falsify/falsify/BoolValue")), Jvm.Cond.code ({ cls := "com/example/falsify/falsify/BoolValue", name := "asBoolean", desc := "()Z" } : Jvm.MethodName) prog_5_method_4_code (1 : Nat) (Option.some Jvm.ClassFile.FieldType.boolean), Jvm.Cond.code ({ cls := "com/example/falsify/falsify/BoolValue", name := "getType", desc := "()Lcom/example/falsify/falsify/Type;" } : Jvm.MethodName) prog_5_method_3_code (1 : Nat) (Option.some (Jvm.ClassFile.FieldType.object "com/example/falsify/falsify/Type"))]
set_option maxRecDepth 65536 in
theorem codes_eq : words1.filter isCode = codes1 := rfl
theorem w_codes : ∀ c ∈ words1.filter isCode, c.before args0 about1 = true := by
  rw [codes_eq]
  intro c hc
  simp only [codes1, List.mem_cons, List.not_mem_nil, or_false] at hc
  rcases hc with rfl | rfl | rfl | rfl
  · exact w_c0
  · exact w_c1
  · exact w_c2
  · exact w_c3
set_option maxRecDepth 65536 in
theorem w_t1 : (words1.take 24).all (fun c => isCode c || c.before args0 about1) = true := by decide +kernel
set_option maxRecDepth 65536 in
theorem w_t2 : (words1.drop 24).all (fun c => isCode c || c.before args0 about1) = true := by decide +kernel
theorem w_tables : (allAtoms (Jvm.Cond.code x code maxLocals ret :: tables_1)).before args0 about1 = true := by
  rw [allAtoms_all]
  show words1.all (fun c => c.before args0 about1) = true
  refine all_split ?_ w_codes
  rw [← List.take_append_drop 24 words1, List.all_append, w_t1, w_t2]
  rfl
set_option maxRecDepth 65536 in
theorem w_case : (Jvm.Cond.and given_1 narrow_1).before args0 about1 = true := by decide +kernel
theorem w_applies : (headSpec (Jvm.Cond.code x code maxLocals ret :: tables_1) room_1).applies x e0.platform about1 = true :=
  (Spec.applies_iff w_frames).mpr ⟨w_running, w_runnable, w_alone, w_named, w_hears, w_ripe, w_room, w_tables⟩
theorem atStart : AtStart classFile x code maxLocals ret World_1 tables_1 room_1 Calls_1 rest_1 Pre_1 launch0 p0 e0 about1 theMethod args0 below0 :=
  ⟨lists_1, trivial, launch0.admits_env _ _ _, launch0.least_env, fairChoices_fair.cas, fairChoices_fair.clock, w_frames, w_args, w_heap, w_applies, trivial, trivial, w_case⟩
end start1
theorem witness_1 : WitnessClaimed_1 := ⟨start1.p0, start1.e0, start1.about1, start1.theMethod, start1.args0, start1.below0, start1.atStart⟩
end Jvm.Pilot.@@N@@
