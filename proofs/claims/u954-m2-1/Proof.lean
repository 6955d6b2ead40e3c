import JvmDerived
import JvmDerived.Pilot.@@N@@Statement
import JvmDerived.Pilot.@@N@@Code
set_option linter.unusedVariables false
set_option linter.unusedSimpArgs false
namespace Jvm.RoadKit
open Sem ClassFile Op Lib Jvm.Stand Jvm.Free Jvm.LawKit
section New
variable {p : Program} {l : Launch} {e : Env} {R : Room} {s : State} {m : MethodId} {args : Array Value} {below : List Frame} {meth : Method} {c : Code} {T : State} {locs : List Loc} {cells slots : Nat}
theorem retI (X : Stand p l e R s m args below meth c T locs cells slots) (hx : p.tables.exec = Jvm.exec) {pc : Nat} {Ls : Array Slot} {z : Int32} {rest : List Value} (hret : meth.sig.returnType = some .int) (hd : decode c.code pc = .ok (.ireturn, 1)) {fs : List Frame}
    (hl : ∀ (f : JFrame) (acts : List Action), f.method = m → f.locked = none → f.entered = [] → (doReturn e (T.setTop f) acts (some (.int z))).1 = T.setFrames fs) : Steps p.tables e below (T.setTop (mkF m pc Ls (.int z :: rest))) (T.setFrames fs) := by
  have hm' : T.vm.method? m = some meth := X.method'
  have hn : narrow .int (.int z) = .int z := rfl
  show Steps p.tables e below (T.setTop { method := m, pc := pc, locals := Ls, stack := _ :: rest, locked := none }) _
  jvm_step X.here [X.here.top, hx, hd, hm', hret, hn]
  first | (intro acts; rw [hl _ acts rfl rfl rfl]) | rw [hl _ _ rfl rfl rfl]
  exact Steps.refl _
end New
end Jvm.RoadKit
namespace Jvm.Pilot.@@N@@
open Jvm Jvm.ClassFile Sem Op Lib Jvm.Free Jvm.Stand Jvm.LawKit Jvm.RoadKit Bundle Jvm.Pilot.@@N@@.Jvm.D
/-- a run from U comes to an end at which P holds -/
def Go (p : Program) (e : Env) (below : List Frame) (P : State → Outcome → Prop) (U : State) : Prop := ∃ s₂ o, Steps p.tables e below U s₂ ∧ P s₂ o
theorem Go.out {p : Program} {e : Env} {below : List Frame} {P : State → Outcome → Prop} {U : State} (h : Go p e below P U) : ∃ s₂ o, Steps p.tables e below U s₂ ∧ P s₂ o := h
theorem Go.pre {p : Program} {e : Env} {below : List Frame} {P : State → Outcome → Prop} {U U' : State} (st : ∀ t, Steps p.tables e below U' t → Steps p.tables e below U t) (h : Go p e below P U') : Go p e below P U := by
  obtain ⟨t, o, h1, h2⟩ := h
  exact ⟨t, o, st _ h1, h2⟩
theorem Go.named {p : Program} {e : Env} {below : List Frame} {P : State → Outcome → Prop} {U : State} (h : ∀ P', P' = P → Go p e below P' U) : Go p e below P U := h P rfl
theorem Go.fin {p : Program} {e : Env} {below : List Frame} {P : State → Outcome → Prop} {U t : State} {o : Outcome} (st : Steps p.tables e below U t) (h : P t o) : Go p e below P U := ⟨t, o, st, h⟩
theorem own_cut {p : Program} {e : Env} {below : List Frame} {U U' : State} (st : Steps p.tables e below U U') : ∀ t, Steps p.tables e below U' t → Steps p.tables e below U t := fun _ k => st.trans k
theorem own_ltT {x y : Int64} (h : x < y) : lcmpW x y < 0 := by rw [lcW]; exact (lc_lt x y).mpr h
theorem own_ltF {x y : Int64} (h : ¬ x < y) : ¬ lcmpW x y < 0 := by rw [lcW]; exact fun q => h ((lc_lt x y).mp q)
theorem own_gtT {x y : Int64} (h : y < x) : 0 < lcmpW x y := by rw [lcW]; exact (lc_gt x y).mpr h
theorem own_gtF {x y : Int64} (h : ¬ y < x) : ¬ 0 < lcmpW x y := by rw [lcW]; exact fun q => h ((lc_gt x y).mp q)
theorem own_eqT {x y : Int64} (h : x = y) : lcmpW x y = 0 := by rw [lcW]; exact (lc_eq x y).mpr h
theorem own_eqF {x y : Int64} (h : ¬ x = y) : ¬ lcmpW x y = 0 := by rw [lcW]; exact fun q => h ((lc_eq x y).mp q)

theorem own_staK {Z : State} {h h' : Heap} {C n d : String} {v : Value} (F : Sta Z h C n d v) (K : Keep h h' []) : Sta Z h' C n d v := by
  obtain ⟨cf, i, k, f, st, cell, h1, h2, h3, h4, h5, r⟩ := F
  exact ⟨cf, i, k, f, st, cell, h1, h2, h3, h4, K.2.1 _ _ h5 nin0, r⟩
theorem own_fldI {args : Array Value} {s : State} {t : Term} {C n d : String} {a : Addr} {k : Int32} (ht : t.eval args s none [] s = some (.ref a)) (h : (Cond.eq (Term.field t C n d) (Term.int k)).value args s none s [] = some true) : Fld s s.heap a C n d (.int k) := by
  apply Fld.start
  have e := fld_at (C := C) (n := n) (dd := d) ht
  have ek : (Term.int k).eval args s none [] s = some (.int k) := Term.int_eval k
  cases hf : s.fieldOf? a C n d with
  | none => rw [hf] at e; simp [Cond.value, e] at h
  | some v =>
    rw [hf] at e
    cases v <;> simp [Cond.value, e, ek] at h
    subst h; rfl
theorem own_fldJ {args : Array Value} {s : State} {t : Term} {C n d : String} {a : Addr} {k : Int64} (ht : t.eval args s none [] s = some (.ref a)) (h : (Cond.eq (Term.field t C n d) (Term.long k)).value args s none s [] = some true) : Fld s s.heap a C n d (.long k) := by
  apply Fld.start
  have e := fld_at (C := C) (n := n) (dd := d) ht
  have ek : (Term.long k).eval args s none [] s = some (.long k) := by simp [Term.eval]
  cases hf : s.fieldOf? a C n d with
  | none => rw [hf] at e; simp [Cond.value, e] at h
  | some v =>
    rw [hf] at e
    cases v <;> simp [Cond.value, e, ek] at h
    subst h; rfl
theorem d_prog_43_method_11_0 : decode prog_43_method_11_code 0 = .ok (.aload_n 0, 1) := by decide +kernel
theorem d_prog_43_method_11_1 : decode prog_43_method_11_code 1 = .ok (.getfield 87, 3) := by decide +kernel
theorem d_prog_43_method_11_4 : decode prog_43_method_11_code 4 = .ok (.ifCond .le 7, 3) := by decide +kernel
theorem d_prog_43_method_11_7 : decode prog_43_method_11_code 7 = .ok (.iconst 1, 1) := by decide +kernel
theorem d_prog_43_method_11_8 : decode prog_43_method_11_code 8 = .ok (.goto 4, 3) := by decide +kernel
theorem d_prog_43_method_11_12 : decode prog_43_method_11_code 12 = .ok (.ireturn, 1) := by decide +kernel
theorem d_prog_43_method_11_11 : decode prog_43_method_11_code 11 = .ok (.iconst 0, 1) := by decide +kernel
theorem pd_0 : parseMethodDescriptor "()Z" = some ⟨[], some .boolean⟩ := by decide +kernel
section New
variable {p : Program} {l : Launch} {e : Env} {R : Room} {s : State} {m : MethodId} {args : Array Value} {below : List Frame} {meth : Method} {c : Code} {T : State} {locs : List Loc} {cells slots : Nat}
/-- one place of an array of objects is written -/
theorem own_put (X : Stand p l e R s m args below meth c T locs cells slots) (hx : p.tables.exec = Jvm.exec) {Z : State} (hZ : Z.Warmed39 s.vm) {h : Heap} (eT : T.heap = h) {b y : Addr} {k : ClassId} {C : String} {z : Int32} {vs : List Value} (V : Arv Z h b k (.object C) z vs .null) (O : Ovr Z k C) (E : Exa Z h y C) {j : Int32} (hj : ¬ j < 0 ∧ j < z) (i : Nat) (hji : j.toNatClampNeg = i) (hi : i < vs.length)
    {g : JFrame} (hg : g.method = m) {rest : List Value} (hs : g.stack = .ref y :: .int j :: .ref b :: rest) (hd : decode c.code g.pc = .ok (.aastore, 1)) :
    ∃ T' h', Stand p l e R s m args below meth c T' (locs ++ [⟨b, j.toNatClampNeg⟩]) cells slots ∧ T'.heap = h' ∧ Wr h h' b j.toNatClampNeg (.ref y) ∧ Arv Z h' b k (.object C) z (vs.set i (.ref y)) .null ∧ ∀ target, Steps p.tables e below (T'.setTop { g with pc := g.pc + 1, stack := rest }) target → Steps p.tables e below (T.setTop g) target := by
  obtain ⟨cl, Ar, q1, S, q3, H, G⟩ := V
  obtain ⟨T', h', X', e', W, st⟩ := stR X hx hZ eT Ar (inb_of S hj) rfl (Sto.ofV Ar q1 O (Ins.self E)) hg hs hd
  exact ⟨T', h', X', e', W, Arv.set Ar q1 S q3 H G rfl W i hji hi, st⟩
end New
theorem own_k17 (x : Int32) : ¬ (x &&& 2147483647) - (x &&& 2147483647) / 17 * 17 < 0 ∧ (x &&& 2147483647) - (x &&& 2147483647) / 17 * 17 < 17 := by
  rw [irem_eq_mod]
  have h0 := (c_and x 2147483647 (by decide)).1
  have h1 := (c_iremV (x &&& 2147483647) 17).1 h0 (by decide)
  have e17 : (17 : Int32).toInt = 17 := by decide
  rw [Int32.lt_iff_toInt_lt, Int32.lt_iff_toInt_lt]
  have e0 : (0 : Int32).toInt = 0 := by decide
  omega
/-- what is known of each element is known of the one that is picked -/
theorem own_pick (ps : List Addr) (R : Addr → Prop) (hall : ∀ q ∈ ps, R q) (i : Nat) (hi : i < ps.length) : ∃ t, (ps.map Value.ref).getD i .null = .ref t ∧ R t :=
  ⟨ps[i], by simp [List.getD, hi], hall _ (List.getElem_mem hi)⟩

theorem ef_cd (m : MethodId) (x0 : Addr) : entryFrame m #[(.ref x0)] 1 = mkF m 0 #[rv x0] [] := by first | (simp [entryFrame, mkF, argsToLocals, Value.category]; done) | rfl
theorem pn_cd : plainName "com/example/latchline/latchline/Protocol$Type" = true := by first | (simp [plainName, overriddenIn]; done) | decide +kernel
def Q_cd (Z : State) (a1 : Addr) (w2 : Int32) (h0 : Heap) (n0 : Nat) (v : Option Value) (h : Heap) (L : List Loc) : Prop := ((0 : Int32) < w2 ∧ v = some (.int 1) ∧ Fr n0 L ∧ h = h0) ∨ (¬ (0 : Int32) < w2 ∧ v = some (.int 0) ∧ Fr n0 L ∧ h = h0)
set_option maxRecDepth 65536 in
set_option maxHeartbeats 40000000 in
theorem rm_cd (l : Launch) (Z : State) (a0 : Array Value) (hw : ∀ d ∈ tables_1, d.before a0 Z = true) (ws : List Jvm.Cond) (a1 : Addr) (w2 : Int32) (h0 : Heap) (n0 : Nat) (Z0 : n0 ≤ h0.size) (F_m : Fld Z h0 a1 "com/example/latchline/latchline/Protocol$Type" "maxDetailBytes" "I" (.int w2)) :
    MetFree l (⟨"com/example/latchline/latchline/Protocol$Type", "carriesDetail", "()Z"⟩ : MethodName) (head1 (Jvm.Cond.code (⟨"com/example/latchline/latchline/Protocol$Type", "carriesDetail", "()Z"⟩ : MethodName) prog_43_method_11_code 1 (some .boolean) :: ws) ({ frames := 0, cells := 0, slots := 0, locals := 0 } : Room)) (fun a U => a = #[(.ref a1)] ∧ Z.Warmed39 U.vm ∧ U.heap = h0) (fun _ _ _ _ _ => True) (fun _ U o U' => ∃ v L, o = .returned v ∧ Q_cd Z a1 w2 h0 n0 v U'.heap L ∧ FrameEnd U o U' L ({ frames := 0, cells := 0, slots := 0, locals := 0 } : Room).cells ({ frames := 0, cells := 0, slots := 0, locals := 0 } : Room).slots) := by
  refine MetFree.of_bodySF (plainFor_of_name pn_cd) hisR ?_
  intro p e s m args below meth c s₁ Bd hml0 hP hK
  obtain ⟨rfl, hZ, hh⟩ := hP
  have hx := Bd.exec
  have hby := Bd.bytes
  have hml : c.maxLocals = 1 := hml0
  have hown : s.vm.findClass "com/example/latchline/latchline/Protocol$Type" = some m.cls := findClass_of_methodNamed Bd.named
  have hnm := (name_of_methodNamed Bd.named Bd.method).1
  have X0 : Stand p l e ({ frames := 0, cells := 0, slots := 0, locals := 0 } : Room) s m #[(.ref a1)] below meth c s₁ [] 0 0 := Stand.of_body Bd
  have e0 : s₁.heap = h0 := by rw [← hh, Bd.state]; rfl
  have N0 := Fr.nil n0
  refine Go.out ?_
  refine Go.pre (fun t k => castTop (ef_cd m a1) k) ?_
  show Go p e below _ (s₁.setTop (mkF m 0 #[rv a1] []))
  refine Go.pre (fun _ k => XS.aloadN X0.here hx rfl (hb hby d_prog_43_method_11_0) rfl rfl k) ?_
  show Go p e below _ (s₁.setTop (mkF m 1 #[rv a1] [(.ref a1)]))
  obtain ⟨T1, X1, e1, st1⟩ := getF X0 hx hZ hown (host := "") (Or.inl (hw _ (List.mem_of_getElem? (i := 44) rfl))) Via.refl e0 F_m (g := (mkF m 1 #[rv a1] [(.ref a1)])) rfl rfl (hb hby d_prog_43_method_11_1)
  refine Go.pre st1 ?_
  show Go p e below _ (T1.setTop (mkF m 4 #[rv a1] [(.int w2)]))
  by_cases hc4_2 : (0 : Int32) < w2
  · skip
    refine Go.pre (fun _ k => XS.ifNo X1.here hx rfl (hb hby d_prog_43_method_11_4) rfl ((if0 _ _).trans (tlt hc4_2).2.2.2) k) ?_
    show Go p e below _ (T1.setTop (mkF m 7 #[rv a1] []))
    refine Go.pre (fun _ k => XS.iconst X1.here hx rfl (hb hby d_prog_43_method_11_7) k) ?_
    show Go p e below _ (T1.setTop (mkF m 8 #[rv a1] [(.int (1 : Int32))]))
    refine Go.pre (fun _ k => XS.goto X1.here hx rfl (pc0 := 8) (pc' := 12) rfl (hb hby d_prog_43_method_11_8) (by decide) (by decide) k) ?_
    show Go p e below _ (T1.setTop (mkF m 12 #[rv a1] [(.int (1 : Int32))]))
    obtain ⟨fs, hr, hrun, hended, hW, hsame⟩ := X1.leave (v := some (.int (1 : Int32))) (fun h => by rw [Bd.returns] at h; cases h)
    refine Go.fin (retN X1 hx (t := .boolean) Bd.returns (by simp) (hb hby d_prog_43_method_11_12) hr) ⟨hrun, hended, _, _, rfl, ?_, ⟨_, rfl⟩, hW, hsame.mono (by decide) (by decide)⟩
    show Q_cd Z a1 w2 h0 n0 _ T1.heap _
    rw [e1]
    exact Or.inl ⟨hc4_2, rfl, N0, rfl⟩
  · skip
    refine Go.pre (fun _ k => XS.ifYes X1.here hx rfl (pc0 := 4) (pc' := 11) rfl (hb hby d_prog_43_method_11_4) rfl ((if0 _ _).trans (flt hc4_2).2.2.2) (by decide) (by decide) k) ?_
    show Go p e below _ (T1.setTop (mkF m 11 #[rv a1] []))
    refine Go.pre (fun _ k => XS.iconst X1.here hx rfl (hb hby d_prog_43_method_11_11) k) ?_
    show Go p e below _ (T1.setTop (mkF m 12 #[rv a1] [(.int (0 : Int32))]))
    obtain ⟨fs, hr, hrun, hended, hW, hsame⟩ := X1.leave (v := some (.int (0 : Int32))) (fun h => by rw [Bd.returns] at h; cases h)
    refine Go.fin (retN X1 hx (t := .boolean) Bd.returns (by simp) (hb hby d_prog_43_method_11_12) hr) ⟨hrun, hended, _, _, rfl, ?_, ⟨_, rfl⟩, hW, hsame.mono (by decide) (by decide)⟩
    show Q_cd Z a1 w2 h0 n0 _ T1.heap _
    rw [e1]
    exact Or.inr ⟨hc4_2, rfl, N0, rfl⟩

theorem ef_law (m : MethodId) (x0 : Int32) : entryFrame m #[(.int x0)] maxLocals = mkF m 0 #[iv x0, .unset, .unset, .unset, .unset, .unset] [] := by first | (simp [entryFrame, mkF, argsToLocals, Value.category, maxLocals]; done) | rfl
theorem pn_law : plainName "com/example/latchline/latchline/TypeCarriesDetailPinLaw" = true := by first | (simp [plainName, overriddenIn]; done) | decide +kernel
def Q_law (Z : State) (p1 : Int32) (o0 : Addr) (o1 : Addr) (o2 : Addr) (o3 : Addr) (o4 : Addr) (o5 : Addr) (o6 : Addr) (o7 : Addr) (o8 : Addr) (o9 : Addr) (o10 : Addr) (o11 : Addr) (o12 : Addr) (o13 : Addr) (o14 : Addr) (o15 : Addr) (o16 : Addr) (h0 : Heap) (n0 : Nat) (v : Option Value) (h : Heap) (L : List Loc) : Prop := v = some (.int 1) ∧ Fr n0 L
set_option maxRecDepth 65536 in
set_option maxHeartbeats 40000000 in
theorem rm_law (l : Launch) (Z : State) (a0 : Array Value) (hw : ∀ d ∈ tables_1, d.before a0 Z = true) (ws : List Jvm.Cond) (p1 : Int32) (o0 : Addr) (o1 : Addr) (o2 : Addr) (o3 : Addr) (o4 : Addr) (o5 : Addr) (o6 : Addr) (o7 : Addr) (o8 : Addr) (o9 : Addr) (o10 : Addr) (o11 : Addr) (o12 : Addr) (o13 : Addr) (o14 : Addr) (o15 : Addr) (o16 : Addr) (h0 : Heap) (n0 : Nat) (Z0 : n0 ≤ h0.size) (S_o0 : Sta Z h0 "com/example/latchline/latchline/Protocol$Type" "ACQUIRE" "Lcom/example/latchline/latchline/Protocol$Type;" (.ref o0)) (S_o1 : Sta Z h0 "com/example/latchline/latchline/Protocol$Type" "RELEASE" "Lcom/example/latchline/latchline/Protocol$Type;" (.ref o1)) (S_o2 : Sta Z h0 "com/example/latchline/latchline/Protocol$Type" "PING" "Lcom/example/latchline/latchline/Protocol$Type;" (.ref o2)) (S_o3 : Sta Z h0 "com/example/latchline/latchline/Protocol$Type" "TRY" "Lcom/example/latchline/latchline/Protocol$Type;" (.ref o3)) (S_o4 : Sta Z h0 "com/example/latchline/latchline/Protocol$Type" "CANCEL" "Lcom/example/latchline/latchline/Protocol$Type;" (.ref o4)) (S_o5 : Sta Z h0 "com/example/latchline/latchline/Protocol$Type" "ACQUIRE_SHARED" "Lcom/example/latchline/latchline/Protocol$Type;" (.ref o5)) (S_o6 : Sta Z h0 "com/example/latchline/latchline/Protocol$Type" "TRY_SHARED" "Lcom/example/latchline/latchline/Protocol$Type;" (.ref o6)) (S_o7 : Sta Z h0 "com/example/latchline/latchline/Protocol$Type" "RELEASE_SHARED" "Lcom/example/latchline/latchline/Protocol$Type;" (.ref o7)) (S_o8 : Sta Z h0 "com/example/latchline/latchline/Protocol$Type" "GRANTED" "Lcom/example/latchline/latchline/Protocol$Type;" (.ref o8)) (S_o9 : Sta Z h0 "com/example/latchline/latchline/Protocol$Type" "QUEUED" "Lcom/example/latchline/latchline/Protocol$Type;" (.ref o9)) (S_o10 : Sta Z h0 "com/example/latchline/latchline/Protocol$Type" "RELEASED" "Lcom/example/latchline/latchline/Protocol$Type;" (.ref o10)) (S_o11 : Sta Z h0 "com/example/latchline/latchline/Protocol$Type" "PONG" "Lcom/example/latchline/latchline/Protocol$Type;" (.ref o11)) (S_o12 : Sta Z h0 "com/example/latchline/latchline/Protocol$Type" "EXPIRED" "Lcom/example/latchline/latchline/Protocol$Type;" (.ref o12)) (S_o13 : Sta Z h0 "com/example/latchline/latchline/Protocol$Type" "BUSY" "Lcom/example/latchline/latchline/Protocol$Type;" (.ref o13)) (S_o14 : Sta Z h0 "com/example/latchline/latchline/Protocol$Type" "CANCELLED" "Lcom/example/latchline/latchline/Protocol$Type;" (.ref o14)) (S_o15 : Sta Z h0 "com/example/latchline/latchline/Protocol$Type" "DEADLOCK" "Lcom/example/latchline/latchline/Protocol$Type;" (.ref o15)) (S_o16 : Sta Z h0 "com/example/latchline/latchline/Protocol$Type" "ERROR" "Lcom/example/latchline/latchline/Protocol$Type;" (.ref o16)) (E_o0 : Exa Z h0 o0 "com/example/latchline/latchline/Protocol$Type") (E_o1 : Exa Z h0 o1 "com/example/latchline/latchline/Protocol$Type") (E_o2 : Exa Z h0 o2 "com/example/latchline/latchline/Protocol$Type") (E_o3 : Exa Z h0 o3 "com/example/latchline/latchline/Protocol$Type") (E_o4 : Exa Z h0 o4 "com/example/latchline/latchline/Protocol$Type") (E_o5 : Exa Z h0 o5 "com/example/latchline/latchline/Protocol$Type") (E_o6 : Exa Z h0 o6 "com/example/latchline/latchline/Protocol$Type") (E_o7 : Exa Z h0 o7 "com/example/latchline/latchline/Protocol$Type") (E_o8 : Exa Z h0 o8 "com/example/latchline/latchline/Protocol$Type") (E_o9 : Exa Z h0 o9 "com/example/latchline/latchline/Protocol$Type") (E_o10 : Exa Z h0 o10 "com/example/latchline/latchline/Protocol$Type") (E_o11 : Exa Z h0 o11 "com/example/latchline/latchline/Protocol$Type") (E_o12 : Exa Z h0 o12 "com/example/latchline/latchline/Protocol$Type") (E_o13 : Exa Z h0 o13 "com/example/latchline/latchline/Protocol$Type") (E_o14 : Exa Z h0 o14 "com/example/latchline/latchline/Protocol$Type") (E_o15 : Exa Z h0 o15 "com/example/latchline/latchline/Protocol$Type") (E_o16 : Exa Z h0 o16 "com/example/latchline/latchline/Protocol$Type") (hall : ∀ t ∈ [o0, o1, o2, o3, o4, o5, o6, o7, o8, o9, o10, o11, o12, o13, o14, o15, o16], Exa Z h0 t "com/example/latchline/latchline/Protocol$Type" ∧ ∃ d : Int32, Fld Z h0 t "com/example/latchline/latchline/Protocol$Type" "maxDetailBytes" "I" (.int d) ∧ ((0 : Int32) < d ↔ t = o0 ∨ t = o3 ∨ t = o5 ∨ t = o6 ∨ t = o15)) :
    MetFree l x (head1 (Jvm.Cond.code x code maxLocals ret :: ws) room_1) (fun a U => a = #[(.int p1)] ∧ Z.Warmed39 U.vm ∧ U.heap = h0) (fun _ _ _ _ _ => True) (fun _ U o U' => ∃ v L, o = .returned v ∧ Q_law Z p1 o0 o1 o2 o3 o4 o5 o6 o7 o8 o9 o10 o11 o12 o13 o14 o15 o16 h0 n0 v U'.heap L ∧ FrameEnd U o U' L room_1.cells room_1.slots) := by
  refine MetFree.of_bodySF (plainFor_of_name pn_law) hisR ?_
  intro p e s m args below meth c s₁ Bd hml0 hP hK
  obtain ⟨rfl, hZ, hh⟩ := hP
  have hx := Bd.exec
  have hby := Bd.bytes
  have hml : c.maxLocals = 6 := hml0
  have hown : s.vm.findClass "com/example/latchline/latchline/TypeCarriesDetailPinLaw" = some m.cls := findClass_of_methodNamed Bd.named
  have hnm := (name_of_methodNamed Bd.named Bd.method).1
  have X0 : Stand p l e room_1 s m #[(.int p1)] below meth c s₁ [] 0 0 := Stand.of_body Bd
  have e0 : s₁.heap = h0 := by rw [← hh, Bd.state]; rfl
  have N0 := Fr.nil n0
  refine Go.out ?_
  refine Go.pre (fun t k => castTop (ef_law m p1) k) ?_
  show Go p e below _ (s₁.setTop (mkF m 0 #[iv p1, .unset, .unset, .unset, .unset, .unset] []))
  refine Go.pre (fun _ k => XS.bipush X0.here hx rfl (hb hby at_0) k) ?_
  show Go p e below _ (s₁.setTop (mkF m 2 #[iv p1, .unset, .unset, .unset, .unset, .unset] [(.int (17 : Int32))]))
  obtain ⟨T1, h1, k1, X1, e1, Ex1, A1, O1, st1⟩ := newR X0 hx hZ hown (hw _ (List.mem_of_getElem? (i := 0) rfl)) (hw _ (List.mem_of_getElem? (i := 1) rfl)) e0 (g := (mkF m 2 #[iv p1, .unset, .unset, .unset, .unset, .unset] [(.int (17 : Int32))])) rfl (hb hby at_2) rfl (by decide) (cap := 17) (by decide) (by decide) (by decide) (by decide)
  obtain ⟨b, hb0⟩ : ∃ z, z = h0.size := ⟨_, rfl⟩
  rw [← hb0] at A1 st1
  have g_b : n0 ≤ b := by omega
  have sz_b : h0.size ≤ b := Nat.le_of_eq hb0.symm
  have V1 : Arv Z h1 b k1 (.object "com/example/latchline/latchline/Protocol$Type") 17 [.null, .null, .null, .null, .null, .null, .null, .null, .null, .null, .null, .null, .null, .null, .null, .null, .null] .null := (Arv.new A1 (by decide)).pad (pad_rep [] .null 17)
  have K1 : Keep h0 h1 [] := (Keep.refl h0 []).ext Ex1
  refine Go.pre st1 ?_
  show Go p e below _ (T1.setTop (mkF m 5 #[iv p1, .unset, .unset, .unset, .unset, .unset] [(.ref b)]))
  refine Go.pre (fun _ k => XS.dup X1.here hx rfl (hb hby at_5) rfl rfl k) ?_
  show Go p e below _ (T1.setTop (mkF m 6 #[iv p1, .unset, .unset, .unset, .unset, .unset] [(.ref b), (.ref b)]))
  refine Go.pre (fun _ k => XS.iconst X1.here hx rfl (hb hby at_6) k) ?_
  show Go p e below _ (T1.setTop (mkF m 7 #[iv p1, .unset, .unset, .unset, .unset, .unset] [(.int (0 : Int32)), (.ref b), (.ref b)]))
  obtain ⟨T2, X2, e2, st2⟩ := getS2 X1 hx hZ hown (host := "") (Or.inl (hw _ (List.mem_of_getElem? (i := 2) rfl))) Via.refl e1 (own_staK S_o0 K1) (g := (mkF m 7 #[iv p1, .unset, .unset, .unset, .unset, .unset] [(.int (0 : Int32)), (.ref b), (.ref b)])) rfl (hb hby at_7)
  refine Go.pre st2 ?_
  show Go p e below _ (T2.setTop (mkF m 10 #[iv p1, .unset, .unset, .unset, .unset, .unset] [(.ref o0), (.int (0 : Int32)), (.ref b), (.ref b)]))
  obtain ⟨T3, h3, X3, e3, W3, V3, st3⟩ := own_put X2 hx hZ e2 V1 O1 (Exa.keep E_o0 K1) (j := (0 : Int32)) (by decide) 0 rfl (Nat.le_of_ble_eq_true rfl) (g := (mkF m 10 #[iv p1, .unset, .unset, .unset, .unset, .unset] [(.ref o0), (.int (0 : Int32)), (.ref b), (.ref b)])) rfl rfl (hb hby at_10)
  have V3 : Arv Z h3 b k1 (.object "com/example/latchline/latchline/Protocol$Type") 17 [(.ref o0), .null, .null, .null, .null, .null, .null, .null, .null, .null, .null, .null, .null, .null, .null, .null, .null] .null := V3
  have K3 : Keep h0 h3 [] := K1.wr W3 (Or.inr sz_b)
  have N3 := Fr.snoc X3 N0 g_b
  refine Go.pre st3 ?_
  show Go p e below _ (T3.setTop (mkF m 11 #[iv p1, .unset, .unset, .unset, .unset, .unset] [(.ref b)]))
  refine Go.pre (fun _ k => XS.dup X3.here hx rfl (hb hby at_11) rfl rfl k) ?_
  show Go p e below _ (T3.setTop (mkF m 12 #[iv p1, .unset, .unset, .unset, .unset, .unset] [(.ref b), (.ref b)]))
  refine Go.pre (fun _ k => XS.iconst X3.here hx rfl (hb hby at_12) k) ?_
  show Go p e below _ (T3.setTop (mkF m 13 #[iv p1, .unset, .unset, .unset, .unset, .unset] [(.int (1 : Int32)), (.ref b), (.ref b)]))
  obtain ⟨T4, X4, e4, st4⟩ := getS2 X3 hx hZ hown (host := "") (Or.inl (hw _ (List.mem_of_getElem? (i := 6) rfl))) Via.refl e3 (own_staK S_o1 K3) (g := (mkF m 13 #[iv p1, .unset, .unset, .unset, .unset, .unset] [(.int (1 : Int32)), (.ref b), (.ref b)])) rfl (hb hby at_13)
  refine Go.pre st4 ?_
  show Go p e below _ (T4.setTop (mkF m 16 #[iv p1, .unset, .unset, .unset, .unset, .unset] [(.ref o1), (.int (1 : Int32)), (.ref b), (.ref b)]))
  obtain ⟨T5, h5, X5, e5, W5, V5, st5⟩ := own_put X4 hx hZ e4 V3 O1 (Exa.keep E_o1 K3) (j := (1 : Int32)) (by decide) 1 rfl (Nat.le_of_ble_eq_true rfl) (g := (mkF m 16 #[iv p1, .unset, .unset, .unset, .unset, .unset] [(.ref o1), (.int (1 : Int32)), (.ref b), (.ref b)])) rfl rfl (hb hby at_16)
  have V5 : Arv Z h5 b k1 (.object "com/example/latchline/latchline/Protocol$Type") 17 [(.ref o0), (.ref o1), .null, .null, .null, .null, .null, .null, .null, .null, .null, .null, .null, .null, .null, .null, .null] .null := V5
  have K5 : Keep h0 h5 [] := K3.wr W5 (Or.inr sz_b)
  have N5 := Fr.snoc X5 N3 g_b
  refine Go.pre st5 ?_
  show Go p e below _ (T5.setTop (mkF m 17 #[iv p1, .unset, .unset, .unset, .unset, .unset] [(.ref b)]))
  refine Go.pre (fun _ k => XS.dup X5.here hx rfl (hb hby at_17) rfl rfl k) ?_
  show Go p e below _ (T5.setTop (mkF m 18 #[iv p1, .unset, .unset, .unset, .unset, .unset] [(.ref b), (.ref b)]))
  refine Go.pre (fun _ k => XS.iconst X5.here hx rfl (hb hby at_18) k) ?_
  show Go p e below _ (T5.setTop (mkF m 19 #[iv p1, .unset, .unset, .unset, .unset, .unset] [(.int (2 : Int32)), (.ref b), (.ref b)]))
  obtain ⟨T6, X6, e6, st6⟩ := getS2 X5 hx hZ hown (host := "") (Or.inl (hw _ (List.mem_of_getElem? (i := 8) rfl))) Via.refl e5 (own_staK S_o2 K5) (g := (mkF m 19 #[iv p1, .unset, .unset, .unset, .unset, .unset] [(.int (2 : Int32)), (.ref b), (.ref b)])) rfl (hb hby at_19)
  refine Go.pre st6 ?_
  show Go p e below _ (T6.setTop (mkF m 22 #[iv p1, .unset, .unset, .unset, .unset, .unset] [(.ref o2), (.int (2 : Int32)), (.ref b), (.ref b)]))
  obtain ⟨T7, h7, X7, e7, W7, V7, st7⟩ := own_put X6 hx hZ e6 V5 O1 (Exa.keep E_o2 K5) (j := (2 : Int32)) (by decide) 2 rfl (Nat.le_of_ble_eq_true rfl) (g := (mkF m 22 #[iv p1, .unset, .unset, .unset, .unset, .unset] [(.ref o2), (.int (2 : Int32)), (.ref b), (.ref b)])) rfl rfl (hb hby at_22)
  have V7 : Arv Z h7 b k1 (.object "com/example/latchline/latchline/Protocol$Type") 17 [(.ref o0), (.ref o1), (.ref o2), .null, .null, .null, .null, .null, .null, .null, .null, .null, .null, .null, .null, .null, .null] .null := V7
  have K7 : Keep h0 h7 [] := K5.wr W7 (Or.inr sz_b)
  have N7 := Fr.snoc X7 N5 g_b
  refine Go.pre st7 ?_
  show Go p e below _ (T7.setTop (mkF m 23 #[iv p1, .unset, .unset, .unset, .unset, .unset] [(.ref b)]))
  refine Go.pre (fun _ k => XS.dup X7.here hx rfl (hb hby at_23) rfl rfl k) ?_
  show Go p e below _ (T7.setTop (mkF m 24 #[iv p1, .unset, .unset, .unset, .unset, .unset] [(.ref b), (.ref b)]))
  refine Go.pre (fun _ k => XS.iconst X7.here hx rfl (hb hby at_24) k) ?_
  show Go p e below _ (T7.setTop (mkF m 25 #[iv p1, .unset, .unset, .unset, .unset, .unset] [(.int (3 : Int32)), (.ref b), (.ref b)]))
  obtain ⟨T8, X8, e8, st8⟩ := getS2 X7 hx hZ hown (host := "") (Or.inl (hw _ (List.mem_of_getElem? (i := 10) rfl))) Via.refl e7 (own_staK S_o3 K7) (g := (mkF m 25 #[iv p1, .unset, .unset, .unset, .unset, .unset] [(.int (3 : Int32)), (.ref b), (.ref b)])) rfl (hb hby at_25)
  refine Go.pre st8 ?_
  show Go p e below _ (T8.setTop (mkF m 28 #[iv p1, .unset, .unset, .unset, .unset, .unset] [(.ref o3), (.int (3 : Int32)), (.ref b), (.ref b)]))
  obtain ⟨T9, h9, X9, e9, W9, V9, st9⟩ := own_put X8 hx hZ e8 V7 O1 (Exa.keep E_o3 K7) (j := (3 : Int32)) (by decide) 3 rfl (Nat.le_of_ble_eq_true rfl) (g := (mkF m 28 #[iv p1, .unset, .unset, .unset, .unset, .unset] [(.ref o3), (.int (3 : Int32)), (.ref b), (.ref b)])) rfl rfl (hb hby at_28)
  have V9 : Arv Z h9 b k1 (.object "com/example/latchline/latchline/Protocol$Type") 17 [(.ref o0), (.ref o1), (.ref o2), (.ref o3), .null, .null, .null, .null, .null, .null, .null, .null, .null, .null, .null, .null, .null] .null := V9
  have K9 : Keep h0 h9 [] := K7.wr W9 (Or.inr sz_b)
  have N9 := Fr.snoc X9 N7 g_b
  refine Go.pre st9 ?_
  show Go p e below _ (T9.setTop (mkF m 29 #[iv p1, .unset, .unset, .unset, .unset, .unset] [(.ref b)]))
  refine Go.pre (fun _ k => XS.dup X9.here hx rfl (hb hby at_29) rfl rfl k) ?_
  show Go p e below _ (T9.setTop (mkF m 30 #[iv p1, .unset, .unset, .unset, .unset, .unset] [(.ref b), (.ref b)]))
  refine Go.pre (fun _ k => XS.iconst X9.here hx rfl (hb hby at_30) k) ?_
  show Go p e below _ (T9.setTop (mkF m 31 #[iv p1, .unset, .unset, .unset, .unset, .unset] [(.int (4 : Int32)), (.ref b), (.ref b)]))
  obtain ⟨T10, X10, e10, st10⟩ := getS2 X9 hx hZ hown (host := "") (Or.inl (hw _ (List.mem_of_getElem? (i := 12) rfl))) Via.refl e9 (own_staK S_o4 K9) (g := (mkF m 31 #[iv p1, .unset, .unset, .unset, .unset, .unset] [(.int (4 : Int32)), (.ref b), (.ref b)])) rfl (hb hby at_31)
  refine Go.pre st10 ?_
  show Go p e below _ (T10.setTop (mkF m 34 #[iv p1, .unset, .unset, .unset, .unset, .unset] [(.ref o4), (.int (4 : Int32)), (.ref b), (.ref b)]))
  obtain ⟨T11, h11, X11, e11, W11, V11, st11⟩ := own_put X10 hx hZ e10 V9 O1 (Exa.keep E_o4 K9) (j := (4 : Int32)) (by decide) 4 rfl (Nat.le_of_ble_eq_true rfl) (g := (mkF m 34 #[iv p1, .unset, .unset, .unset, .unset, .unset] [(.ref o4), (.int (4 : Int32)), (.ref b), (.ref b)])) rfl rfl (hb hby at_34)
  have V11 : Arv Z h11 b k1 (.object "com/example/latchline/latchline/Protocol$Type") 17 [(.ref o0), (.ref o1), (.ref o2), (.ref o3), (.ref o4), .null, .null, .null, .null, .null, .null, .null, .null, .null, .null, .null, .null] .null := V11
  have K11 : Keep h0 h11 [] := K9.wr W11 (Or.inr sz_b)
  have N11 := Fr.snoc X11 N9 g_b
  refine Go.pre st11 ?_
  show Go p e below _ (T11.setTop (mkF m 35 #[iv p1, .unset, .unset, .unset, .unset, .unset] [(.ref b)]))
  refine Go.pre (fun _ k => XS.dup X11.here hx rfl (hb hby at_35) rfl rfl k) ?_
  show Go p e below _ (T11.setTop (mkF m 36 #[iv p1, .unset, .unset, .unset, .unset, .unset] [(.ref b), (.ref b)]))
  refine Go.pre (fun _ k => XS.iconst X11.here hx rfl (hb hby at_36) k) ?_
  show Go p e below _ (T11.setTop (mkF m 37 #[iv p1, .unset, .unset, .unset, .unset, .unset] [(.int (5 : Int32)), (.ref b), (.ref b)]))
  obtain ⟨T12, X12, e12, st12⟩ := getS2 X11 hx hZ hown (host := "") (Or.inl (hw _ (List.mem_of_getElem? (i := 14) rfl))) Via.refl e11 (own_staK S_o5 K11) (g := (mkF m 37 #[iv p1, .unset, .unset, .unset, .unset, .unset] [(.int (5 : Int32)), (.ref b), (.ref b)])) rfl (hb hby at_37)
  refine Go.pre st12 ?_
  show Go p e below _ (T12.setTop (mkF m 40 #[iv p1, .unset, .unset, .unset, .unset, .unset] [(.ref o5), (.int (5 : Int32)), (.ref b), (.ref b)]))
  obtain ⟨T13, h13, X13, e13, W13, V13, st13⟩ := own_put X12 hx hZ e12 V11 O1 (Exa.keep E_o5 K11) (j := (5 : Int32)) (by decide) 5 rfl (Nat.le_of_ble_eq_true rfl) (g := (mkF m 40 #[iv p1, .unset, .unset, .unset, .unset, .unset] [(.ref o5), (.int (5 : Int32)), (.ref b), (.ref b)])) rfl rfl (hb hby at_40)
  have V13 : Arv Z h13 b k1 (.object "com/example/latchline/latchline/Protocol$Type") 17 [(.ref o0), (.ref o1), (.ref o2), (.ref o3), (.ref o4), (.ref o5), .null, .null, .null, .null, .null, .null, .null, .null, .null, .null, .null] .null := V13
  have K13 : Keep h0 h13 [] := K11.wr W13 (Or.inr sz_b)
  have N13 := Fr.snoc X13 N11 g_b
  refine Go.pre st13 ?_
  show Go p e below _ (T13.setTop (mkF m 41 #[iv p1, .unset, .unset, .unset, .unset, .unset] [(.ref b)]))
  refine Go.pre (fun _ k => XS.dup X13.here hx rfl (hb hby at_41) rfl rfl k) ?_
  show Go p e below _ (T13.setTop (mkF m 42 #[iv p1, .unset, .unset, .unset, .unset, .unset] [(.ref b), (.ref b)]))
  refine Go.pre (fun _ k => XS.bipush X13.here hx rfl (hb hby at_42) k) ?_
  show Go p e below _ (T13.setTop (mkF m 44 #[iv p1, .unset, .unset, .unset, .unset, .unset] [(.int (6 : Int32)), (.ref b), (.ref b)]))
  obtain ⟨T14, X14, e14, st14⟩ := getS2 X13 hx hZ hown (host := "") (Or.inl (hw _ (List.mem_of_getElem? (i := 16) rfl))) Via.refl e13 (own_staK S_o6 K13) (g := (mkF m 44 #[iv p1, .unset, .unset, .unset, .unset, .unset] [(.int (6 : Int32)), (.ref b), (.ref b)])) rfl (hb hby at_44)
  refine Go.pre st14 ?_
  show Go p e below _ (T14.setTop (mkF m 47 #[iv p1, .unset, .unset, .unset, .unset, .unset] [(.ref o6), (.int (6 : Int32)), (.ref b), (.ref b)]))
  obtain ⟨T15, h15, X15, e15, W15, V15, st15⟩ := own_put X14 hx hZ e14 V13 O1 (Exa.keep E_o6 K13) (j := (6 : Int32)) (by decide) 6 rfl (Nat.le_of_ble_eq_true rfl) (g := (mkF m 47 #[iv p1, .unset, .unset, .unset, .unset, .unset] [(.ref o6), (.int (6 : Int32)), (.ref b), (.ref b)])) rfl rfl (hb hby at_47)
  have V15 : Arv Z h15 b k1 (.object "com/example/latchline/latchline/Protocol$Type") 17 [(.ref o0), (.ref o1), (.ref o2), (.ref o3), (.ref o4), (.ref o5), (.ref o6), .null, .null, .null, .null, .null, .null, .null, .null, .null, .null] .null := V15
  have K15 : Keep h0 h15 [] := K13.wr W15 (Or.inr sz_b)
  have N15 := Fr.snoc X15 N13 g_b
  refine Go.pre st15 ?_
  show Go p e below _ (T15.setTop (mkF m 48 #[iv p1, .unset, .unset, .unset, .unset, .unset] [(.ref b)]))
  refine Go.pre (fun _ k => XS.dup X15.here hx rfl (hb hby at_48) rfl rfl k) ?_
  show Go p e below _ (T15.setTop (mkF m 49 #[iv p1, .unset, .unset, .unset, .unset, .unset] [(.ref b), (.ref b)]))
  refine Go.pre (fun _ k => XS.bipush X15.here hx rfl (hb hby at_49) k) ?_
  show Go p e below _ (T15.setTop (mkF m 51 #[iv p1, .unset, .unset, .unset, .unset, .unset] [(.int (7 : Int32)), (.ref b), (.ref b)]))
  obtain ⟨T16, X16, e16, st16⟩ := getS2 X15 hx hZ hown (host := "") (Or.inl (hw _ (List.mem_of_getElem? (i := 18) rfl))) Via.refl e15 (own_staK S_o7 K15) (g := (mkF m 51 #[iv p1, .unset, .unset, .unset, .unset, .unset] [(.int (7 : Int32)), (.ref b), (.ref b)])) rfl (hb hby at_51)
  refine Go.pre st16 ?_
  show Go p e below _ (T16.setTop (mkF m 54 #[iv p1, .unset, .unset, .unset, .unset, .unset] [(.ref o7), (.int (7 : Int32)), (.ref b), (.ref b)]))
  obtain ⟨T17, h17, X17, e17, W17, V17, st17⟩ := own_put X16 hx hZ e16 V15 O1 (Exa.keep E_o7 K15) (j := (7 : Int32)) (by decide) 7 rfl (Nat.le_of_ble_eq_true rfl) (g := (mkF m 54 #[iv p1, .unset, .unset, .unset, .unset, .unset] [(.ref o7), (.int (7 : Int32)), (.ref b), (.ref b)])) rfl rfl (hb hby at_54)
  have V17 : Arv Z h17 b k1 (.object "com/example/latchline/latchline/Protocol$Type") 17 [(.ref o0), (.ref o1), (.ref o2), (.ref o3), (.ref o4), (.ref o5), (.ref o6), (.ref o7), .null, .null, .null, .null, .null, .null, .null, .null, .null] .null := V17
  have K17 : Keep h0 h17 [] := K15.wr W17 (Or.inr sz_b)
  have N17 := Fr.snoc X17 N15 g_b
  refine Go.pre st17 ?_
  show Go p e below _ (T17.setTop (mkF m 55 #[iv p1, .unset, .unset, .unset, .unset, .unset] [(.ref b)]))
  refine Go.pre (fun _ k => XS.dup X17.here hx rfl (hb hby at_55) rfl rfl k) ?_
  show Go p e below _ (T17.setTop (mkF m 56 #[iv p1, .unset, .unset, .unset, .unset, .unset] [(.ref b), (.ref b)]))
  refine Go.pre (fun _ k => XS.bipush X17.here hx rfl (hb hby at_56) k) ?_
  show Go p e below _ (T17.setTop (mkF m 58 #[iv p1, .unset, .unset, .unset, .unset, .unset] [(.int (8 : Int32)), (.ref b), (.ref b)]))
  obtain ⟨T18, X18, e18, st18⟩ := getS2 X17 hx hZ hown (host := "") (Or.inl (hw _ (List.mem_of_getElem? (i := 20) rfl))) Via.refl e17 (own_staK S_o8 K17) (g := (mkF m 58 #[iv p1, .unset, .unset, .unset, .unset, .unset] [(.int (8 : Int32)), (.ref b), (.ref b)])) rfl (hb hby at_58)
  refine Go.pre st18 ?_
  show Go p e below _ (T18.setTop (mkF m 61 #[iv p1, .unset, .unset, .unset, .unset, .unset] [(.ref o8), (.int (8 : Int32)), (.ref b), (.ref b)]))
  obtain ⟨T19, h19, X19, e19, W19, V19, st19⟩ := own_put X18 hx hZ e18 V17 O1 (Exa.keep E_o8 K17) (j := (8 : Int32)) (by decide) 8 rfl (Nat.le_of_ble_eq_true rfl) (g := (mkF m 61 #[iv p1, .unset, .unset, .unset, .unset, .unset] [(.ref o8), (.int (8 : Int32)), (.ref b), (.ref b)])) rfl rfl (hb hby at_61)
  have V19 : Arv Z h19 b k1 (.object "com/example/latchline/latchline/Protocol$Type") 17 [(.ref o0), (.ref o1), (.ref o2), (.ref o3), (.ref o4), (.ref o5), (.ref o6), (.ref o7), (.ref o8), .null, .null, .null, .null, .null, .null, .null, .null] .null := V19
  have K19 : Keep h0 h19 [] := K17.wr W19 (Or.inr sz_b)
  have N19 := Fr.snoc X19 N17 g_b
  refine Go.pre st19 ?_
  show Go p e below _ (T19.setTop (mkF m 62 #[iv p1, .unset, .unset, .unset, .unset, .unset] [(.ref b)]))
  refine Go.pre (fun _ k => XS.dup X19.here hx rfl (hb hby at_62) rfl rfl k) ?_
  show Go p e below _ (T19.setTop (mkF m 63 #[iv p1, .unset, .unset, .unset, .unset, .unset] [(.ref b), (.ref b)]))
  refine Go.pre (fun _ k => XS.bipush X19.here hx rfl (hb hby at_63) k) ?_
  show Go p e below _ (T19.setTop (mkF m 65 #[iv p1, .unset, .unset, .unset, .unset, .unset] [(.int (9 : Int32)), (.ref b), (.ref b)]))
  obtain ⟨T20, X20, e20, st20⟩ := getS2 X19 hx hZ hown (host := "") (Or.inl (hw _ (List.mem_of_getElem? (i := 22) rfl))) Via.refl e19 (own_staK S_o9 K19) (g := (mkF m 65 #[iv p1, .unset, .unset, .unset, .unset, .unset] [(.int (9 : Int32)), (.ref b), (.ref b)])) rfl (hb hby at_65)
  refine Go.pre st20 ?_
  show Go p e below _ (T20.setTop (mkF m 68 #[iv p1, .unset, .unset, .unset, .unset, .unset] [(.ref o9), (.int (9 : Int32)), (.ref b), (.ref b)]))
  obtain ⟨T21, h21, X21, e21, W21, V21, st21⟩ := own_put X20 hx hZ e20 V19 O1 (Exa.keep E_o9 K19) (j := (9 : Int32)) (by decide) 9 rfl (Nat.le_of_ble_eq_true rfl) (g := (mkF m 68 #[iv p1, .unset, .unset, .unset, .unset, .unset] [(.ref o9), (.int (9 : Int32)), (.ref b), (.ref b)])) rfl rfl (hb hby at_68)
  have V21 : Arv Z h21 b k1 (.object "com/example/latchline/latchline/Protocol$Type") 17 [(.ref o0), (.ref o1), (.ref o2), (.ref o3), (.ref o4), (.ref o5), (.ref o6), (.ref o7), (.ref o8), (.ref o9), .null, .null, .null, .null, .null, .null, .null] .null := V21
  have K21 : Keep h0 h21 [] := K19.wr W21 (Or.inr sz_b)
  have N21 := Fr.snoc X21 N19 g_b
  refine Go.pre st21 ?_
  show Go p e below _ (T21.setTop (mkF m 69 #[iv p1, .unset, .unset, .unset, .unset, .unset] [(.ref b)]))
  refine Go.pre (fun _ k => XS.dup X21.here hx rfl (hb hby at_69) rfl rfl k) ?_
  show Go p e below _ (T21.setTop (mkF m 70 #[iv p1, .unset, .unset, .unset, .unset, .unset] [(.ref b), (.ref b)]))
  refine Go.pre (fun _ k => XS.bipush X21.here hx rfl (hb hby at_70) k) ?_
  show Go p e below _ (T21.setTop (mkF m 72 #[iv p1, .unset, .unset, .unset, .unset, .unset] [(.int (10 : Int32)), (.ref b), (.ref b)]))
  obtain ⟨T22, X22, e22, st22⟩ := getS2 X21 hx hZ hown (host := "") (Or.inl (hw _ (List.mem_of_getElem? (i := 24) rfl))) Via.refl e21 (own_staK S_o10 K21) (g := (mkF m 72 #[iv p1, .unset, .unset, .unset, .unset, .unset] [(.int (10 : Int32)), (.ref b), (.ref b)])) rfl (hb hby at_72)
  refine Go.pre st22 ?_
  show Go p e below _ (T22.setTop (mkF m 75 #[iv p1, .unset, .unset, .unset, .unset, .unset] [(.ref o10), (.int (10 : Int32)), (.ref b), (.ref b)]))
  obtain ⟨T23, h23, X23, e23, W23, V23, st23⟩ := own_put X22 hx hZ e22 V21 O1 (Exa.keep E_o10 K21) (j := (10 : Int32)) (by decide) 10 rfl (Nat.le_of_ble_eq_true rfl) (g := (mkF m 75 #[iv p1, .unset, .unset, .unset, .unset, .unset] [(.ref o10), (.int (10 : Int32)), (.ref b), (.ref b)])) rfl rfl (hb hby at_75)
  have V23 : Arv Z h23 b k1 (.object "com/example/latchline/latchline/Protocol$Type") 17 [(.ref o0), (.ref o1), (.ref o2), (.ref o3), (.ref o4), (.ref o5), (.ref o6), (.ref o7), (.ref o8), (.ref o9), (.ref o10), .null, .null, .null, .null, .null, .null] .null := V23
  have K23 : Keep h0 h23 [] := K21.wr W23 (Or.inr sz_b)
  have N23 := Fr.snoc X23 N21 g_b
  refine Go.pre st23 ?_
  show Go p e below _ (T23.setTop (mkF m 76 #[iv p1, .unset, .unset, .unset, .unset, .unset] [(.ref b)]))
  refine Go.pre (fun _ k => XS.dup X23.here hx rfl (hb hby at_76) rfl rfl k) ?_
  show Go p e below _ (T23.setTop (mkF m 77 #[iv p1, .unset, .unset, .unset, .unset, .unset] [(.ref b), (.ref b)]))
  refine Go.pre (fun _ k => XS.bipush X23.here hx rfl (hb hby at_77) k) ?_
  show Go p e below _ (T23.setTop (mkF m 79 #[iv p1, .unset, .unset, .unset, .unset, .unset] [(.int (11 : Int32)), (.ref b), (.ref b)]))
  obtain ⟨T24, X24, e24, st24⟩ := getS2 X23 hx hZ hown (host := "") (Or.inl (hw _ (List.mem_of_getElem? (i := 26) rfl))) Via.refl e23 (own_staK S_o11 K23) (g := (mkF m 79 #[iv p1, .unset, .unset, .unset, .unset, .unset] [(.int (11 : Int32)), (.ref b), (.ref b)])) rfl (hb hby at_79)
  refine Go.pre st24 ?_
  show Go p e below _ (T24.setTop (mkF m 82 #[iv p1, .unset, .unset, .unset, .unset, .unset] [(.ref o11), (.int (11 : Int32)), (.ref b), (.ref b)]))
  obtain ⟨T25, h25, X25, e25, W25, V25, st25⟩ := own_put X24 hx hZ e24 V23 O1 (Exa.keep E_o11 K23) (j := (11 : Int32)) (by decide) 11 rfl (Nat.le_of_ble_eq_true rfl) (g := (mkF m 82 #[iv p1, .unset, .unset, .unset, .unset, .unset] [(.ref o11), (.int (11 : Int32)), (.ref b), (.ref b)])) rfl rfl (hb hby at_82)
  have V25 : Arv Z h25 b k1 (.object "com/example/latchline/latchline/Protocol$Type") 17 [(.ref o0), (.ref o1), (.ref o2), (.ref o3), (.ref o4), (.ref o5), (.ref o6), (.ref o7), (.ref o8), (.ref o9), (.ref o10), (.ref o11), .null, .null, .null, .null, .null] .null := V25
  have K25 : Keep h0 h25 [] := K23.wr W25 (Or.inr sz_b)
  have N25 := Fr.snoc X25 N23 g_b
  refine Go.pre st25 ?_
  show Go p e below _ (T25.setTop (mkF m 83 #[iv p1, .unset, .unset, .unset, .unset, .unset] [(.ref b)]))
  refine Go.pre (fun _ k => XS.dup X25.here hx rfl (hb hby at_83) rfl rfl k) ?_
  show Go p e below _ (T25.setTop (mkF m 84 #[iv p1, .unset, .unset, .unset, .unset, .unset] [(.ref b), (.ref b)]))
  refine Go.pre (fun _ k => XS.bipush X25.here hx rfl (hb hby at_84) k) ?_
  show Go p e below _ (T25.setTop (mkF m 86 #[iv p1, .unset, .unset, .unset, .unset, .unset] [(.int (12 : Int32)), (.ref b), (.ref b)]))
  obtain ⟨T26, X26, e26, st26⟩ := getS2 X25 hx hZ hown (host := "") (Or.inl (hw _ (List.mem_of_getElem? (i := 28) rfl))) Via.refl e25 (own_staK S_o12 K25) (g := (mkF m 86 #[iv p1, .unset, .unset, .unset, .unset, .unset] [(.int (12 : Int32)), (.ref b), (.ref b)])) rfl (hb hby at_86)
  refine Go.pre st26 ?_
  show Go p e below _ (T26.setTop (mkF m 89 #[iv p1, .unset, .unset, .unset, .unset, .unset] [(.ref o12), (.int (12 : Int32)), (.ref b), (.ref b)]))
  obtain ⟨T27, h27, X27, e27, W27, V27, st27⟩ := own_put X26 hx hZ e26 V25 O1 (Exa.keep E_o12 K25) (j := (12 : Int32)) (by decide) 12 rfl (Nat.le_of_ble_eq_true rfl) (g := (mkF m 89 #[iv p1, .unset, .unset, .unset, .unset, .unset] [(.ref o12), (.int (12 : Int32)), (.ref b), (.ref b)])) rfl rfl (hb hby at_89)
  have V27 : Arv Z h27 b k1 (.object "com/example/latchline/latchline/Protocol$Type") 17 [(.ref o0), (.ref o1), (.ref o2), (.ref o3), (.ref o4), (.ref o5), (.ref o6), (.ref o7), (.ref o8), (.ref o9), (.ref o10), (.ref o11), (.ref o12), .null, .null, .null, .null] .null := V27
  have K27 : Keep h0 h27 [] := K25.wr W27 (Or.inr sz_b)
  have N27 := Fr.snoc X27 N25 g_b
  refine Go.pre st27 ?_
  show Go p e below _ (T27.setTop (mkF m 90 #[iv p1, .unset, .unset, .unset, .unset, .unset] [(.ref b)]))
  refine Go.pre (fun _ k => XS.dup X27.here hx rfl (hb hby at_90) rfl rfl k) ?_
  show Go p e below _ (T27.setTop (mkF m 91 #[iv p1, .unset, .unset, .unset, .unset, .unset] [(.ref b), (.ref b)]))
  refine Go.pre (fun _ k => XS.bipush X27.here hx rfl (hb hby at_91) k) ?_
  show Go p e below _ (T27.setTop (mkF m 93 #[iv p1, .unset, .unset, .unset, .unset, .unset] [(.int (13 : Int32)), (.ref b), (.ref b)]))
  obtain ⟨T28, X28, e28, st28⟩ := getS2 X27 hx hZ hown (host := "") (Or.inl (hw _ (List.mem_of_getElem? (i := 30) rfl))) Via.refl e27 (own_staK S_o13 K27) (g := (mkF m 93 #[iv p1, .unset, .unset, .unset, .unset, .unset] [(.int (13 : Int32)), (.ref b), (.ref b)])) rfl (hb hby at_93)
  refine Go.pre st28 ?_
  show Go p e below _ (T28.setTop (mkF m 96 #[iv p1, .unset, .unset, .unset, .unset, .unset] [(.ref o13), (.int (13 : Int32)), (.ref b), (.ref b)]))
  obtain ⟨T29, h29, X29, e29, W29, V29, st29⟩ := own_put X28 hx hZ e28 V27 O1 (Exa.keep E_o13 K27) (j := (13 : Int32)) (by decide) 13 rfl (Nat.le_of_ble_eq_true rfl) (g := (mkF m 96 #[iv p1, .unset, .unset, .unset, .unset, .unset] [(.ref o13), (.int (13 : Int32)), (.ref b), (.ref b)])) rfl rfl (hb hby at_96)
  have V29 : Arv Z h29 b k1 (.object "com/example/latchline/latchline/Protocol$Type") 17 [(.ref o0), (.ref o1), (.ref o2), (.ref o3), (.ref o4), (.ref o5), (.ref o6), (.ref o7), (.ref o8), (.ref o9), (.ref o10), (.ref o11), (.ref o12), (.ref o13), .null, .null, .null] .null := V29
  have K29 : Keep h0 h29 [] := K27.wr W29 (Or.inr sz_b)
  have N29 := Fr.snoc X29 N27 g_b
  refine Go.pre st29 ?_
  show Go p e below _ (T29.setTop (mkF m 97 #[iv p1, .unset, .unset, .unset, .unset, .unset] [(.ref b)]))
  refine Go.pre (fun _ k => XS.dup X29.here hx rfl (hb hby at_97) rfl rfl k) ?_
  show Go p e below _ (T29.setTop (mkF m 98 #[iv p1, .unset, .unset, .unset, .unset, .unset] [(.ref b), (.ref b)]))
  refine Go.pre (fun _ k => XS.bipush X29.here hx rfl (hb hby at_98) k) ?_
  show Go p e below _ (T29.setTop (mkF m 100 #[iv p1, .unset, .unset, .unset, .unset, .unset] [(.int (14 : Int32)), (.ref b), (.ref b)]))
  obtain ⟨T30, X30, e30, st30⟩ := getS2 X29 hx hZ hown (host := "") (Or.inl (hw _ (List.mem_of_getElem? (i := 32) rfl))) Via.refl e29 (own_staK S_o14 K29) (g := (mkF m 100 #[iv p1, .unset, .unset, .unset, .unset, .unset] [(.int (14 : Int32)), (.ref b), (.ref b)])) rfl (hb hby at_100)
  refine Go.pre st30 ?_
  show Go p e below _ (T30.setTop (mkF m 103 #[iv p1, .unset, .unset, .unset, .unset, .unset] [(.ref o14), (.int (14 : Int32)), (.ref b), (.ref b)]))
  obtain ⟨T31, h31, X31, e31, W31, V31, st31⟩ := own_put X30 hx hZ e30 V29 O1 (Exa.keep E_o14 K29) (j := (14 : Int32)) (by decide) 14 rfl (Nat.le_of_ble_eq_true rfl) (g := (mkF m 103 #[iv p1, .unset, .unset, .unset, .unset, .unset] [(.ref o14), (.int (14 : Int32)), (.ref b), (.ref b)])) rfl rfl (hb hby at_103)
  have V31 : Arv Z h31 b k1 (.object "com/example/latchline/latchline/Protocol$Type") 17 [(.ref o0), (.ref o1), (.ref o2), (.ref o3), (.ref o4), (.ref o5), (.ref o6), (.ref o7), (.ref o8), (.ref o9), (.ref o10), (.ref o11), (.ref o12), (.ref o13), (.ref o14), .null, .null] .null := V31
  have K31 : Keep h0 h31 [] := K29.wr W31 (Or.inr sz_b)
  have N31 := Fr.snoc X31 N29 g_b
  refine Go.pre st31 ?_
  show Go p e below _ (T31.setTop (mkF m 104 #[iv p1, .unset, .unset, .unset, .unset, .unset] [(.ref b)]))
  refine Go.pre (fun _ k => XS.dup X31.here hx rfl (hb hby at_104) rfl rfl k) ?_
  show Go p e below _ (T31.setTop (mkF m 105 #[iv p1, .unset, .unset, .unset, .unset, .unset] [(.ref b), (.ref b)]))
  refine Go.pre (fun _ k => XS.bipush X31.here hx rfl (hb hby at_105) k) ?_
  show Go p e below _ (T31.setTop (mkF m 107 #[iv p1, .unset, .unset, .unset, .unset, .unset] [(.int (15 : Int32)), (.ref b), (.ref b)]))
  obtain ⟨T32, X32, e32, st32⟩ := getS2 X31 hx hZ hown (host := "") (Or.inl (hw _ (List.mem_of_getElem? (i := 34) rfl))) Via.refl e31 (own_staK S_o15 K31) (g := (mkF m 107 #[iv p1, .unset, .unset, .unset, .unset, .unset] [(.int (15 : Int32)), (.ref b), (.ref b)])) rfl (hb hby at_107)
  refine Go.pre st32 ?_
  show Go p e below _ (T32.setTop (mkF m 110 #[iv p1, .unset, .unset, .unset, .unset, .unset] [(.ref o15), (.int (15 : Int32)), (.ref b), (.ref b)]))
  obtain ⟨T33, h33, X33, e33, W33, V33, st33⟩ := own_put X32 hx hZ e32 V31 O1 (Exa.keep E_o15 K31) (j := (15 : Int32)) (by decide) 15 rfl (Nat.le_of_ble_eq_true rfl) (g := (mkF m 110 #[iv p1, .unset, .unset, .unset, .unset, .unset] [(.ref o15), (.int (15 : Int32)), (.ref b), (.ref b)])) rfl rfl (hb hby at_110)
  have V33 : Arv Z h33 b k1 (.object "com/example/latchline/latchline/Protocol$Type") 17 [(.ref o0), (.ref o1), (.ref o2), (.ref o3), (.ref o4), (.ref o5), (.ref o6), (.ref o7), (.ref o8), (.ref o9), (.ref o10), (.ref o11), (.ref o12), (.ref o13), (.ref o14), (.ref o15), .null] .null := V33
  have K33 : Keep h0 h33 [] := K31.wr W33 (Or.inr sz_b)
  have N33 := Fr.snoc X33 N31 g_b
  refine Go.pre st33 ?_
  show Go p e below _ (T33.setTop (mkF m 111 #[iv p1, .unset, .unset, .unset, .unset, .unset] [(.ref b)]))
  refine Go.pre (fun _ k => XS.dup X33.here hx rfl (hb hby at_111) rfl rfl k) ?_
  show Go p e below _ (T33.setTop (mkF m 112 #[iv p1, .unset, .unset, .unset, .unset, .unset] [(.ref b), (.ref b)]))
  refine Go.pre (fun _ k => XS.bipush X33.here hx rfl (hb hby at_112) k) ?_
  show Go p e below _ (T33.setTop (mkF m 114 #[iv p1, .unset, .unset, .unset, .unset, .unset] [(.int (16 : Int32)), (.ref b), (.ref b)]))
  obtain ⟨T34, X34, e34, st34⟩ := getS2 X33 hx hZ hown (host := "") (Or.inl (hw _ (List.mem_of_getElem? (i := 36) rfl))) Via.refl e33 (own_staK S_o16 K33) (g := (mkF m 114 #[iv p1, .unset, .unset, .unset, .unset, .unset] [(.int (16 : Int32)), (.ref b), (.ref b)])) rfl (hb hby at_114)
  refine Go.pre st34 ?_
  show Go p e below _ (T34.setTop (mkF m 117 #[iv p1, .unset, .unset, .unset, .unset, .unset] [(.ref o16), (.int (16 : Int32)), (.ref b), (.ref b)]))
  obtain ⟨T35, h35, X35, e35, W35, V35, st35⟩ := own_put X34 hx hZ e34 V33 O1 (Exa.keep E_o16 K33) (j := (16 : Int32)) (by decide) 16 rfl (Nat.le_of_ble_eq_true rfl) (g := (mkF m 117 #[iv p1, .unset, .unset, .unset, .unset, .unset] [(.ref o16), (.int (16 : Int32)), (.ref b), (.ref b)])) rfl rfl (hb hby at_117)
  have V35 : Arv Z h35 b k1 (.object "com/example/latchline/latchline/Protocol$Type") 17 [(.ref o0), (.ref o1), (.ref o2), (.ref o3), (.ref o4), (.ref o5), (.ref o6), (.ref o7), (.ref o8), (.ref o9), (.ref o10), (.ref o11), (.ref o12), (.ref o13), (.ref o14), (.ref o15), (.ref o16)] .null := V35
  have K35 : Keep h0 h35 [] := K33.wr W35 (Or.inr sz_b)
  have N35 := Fr.snoc X35 N33 g_b
  refine Go.pre st35 ?_
  show Go p e below _ (T35.setTop (mkF m 118 #[iv p1, .unset, .unset, .unset, .unset, .unset] [(.ref b)]))
  refine Go.pre (fun _ k => XS.astoreN X35.here hx rfl (hb hby at_118) rfl rfl (l' := #[iv p1, rv b, .unset, .unset, .unset, .unset]) rfl k) ?_
  show Go p e below _ (T35.setTop (mkF m 119 #[iv p1, rv b, .unset, .unset, .unset, .unset] []))
  refine Go.pre (fun _ k => XS.iloadN X35.here hx rfl (hb hby at_119) rfl k) ?_
  show Go p e below _ (T35.setTop (mkF m 120 #[iv p1, rv b, .unset, .unset, .unset, .unset] [(.int p1)]))
  refine Go.pre (X35.ldcInt hx hown (mvT hZ (hw _ (List.mem_of_getElem? (i := 38) rfl))) (g := (mkF m 120 #[iv p1, rv b, .unset, .unset, .unset, .unset] [(.int p1)])) rfl (hb hby at_120)) ?_
  show Go p e below _ (T35.setTop (mkF m 122 #[iv p1, rv b, .unset, .unset, .unset, .unset] [(.int (2147483647 : Int32)), (.int p1)]))
  refine Go.pre (fun _ k => XS.iand X35.here hx rfl (hb hby at_122) rfl k) ?_
  show Go p e below _ (T35.setTop (mkF m 123 #[iv p1, rv b, .unset, .unset, .unset, .unset] [(.int (p1 &&& (2147483647 : Int32)))]))
  refine Go.pre (fun _ k => XS.bipush X35.here hx rfl (hb hby at_123) k) ?_
  show Go p e below _ (T35.setTop (mkF m 125 #[iv p1, rv b, .unset, .unset, .unset, .unset] [(.int (17 : Int32)), (.int (p1 &&& (2147483647 : Int32)))]))
  refine Go.pre (fun _ k => XS.irem X35.here hx rfl (hb hby at_125) rfl (by decide) k) ?_
  show Go p e below _ (T35.setTop (mkF m 126 #[iv p1, rv b, .unset, .unset, .unset, .unset] [(.int ((p1 &&& (2147483647 : Int32)) - (p1 &&& (2147483647 : Int32)) / (17 : Int32) * (17 : Int32)))]))
  refine Go.pre (fun _ k => XS.istoreN X35.here hx rfl (hb hby at_126) rfl (l' := #[iv p1, rv b, iv ((p1 &&& (2147483647 : Int32)) - (p1 &&& (2147483647 : Int32)) / (17 : Int32) * (17 : Int32)), .unset, .unset, .unset]) rfl k) ?_
  show Go p e below _ (T35.setTop (mkF m 127 #[iv p1, rv b, iv ((p1 &&& (2147483647 : Int32)) - (p1 &&& (2147483647 : Int32)) / (17 : Int32) * (17 : Int32)), .unset, .unset, .unset] []))
  refine Go.pre (fun _ k => XS.aloadN X35.here hx rfl (hb hby at_127) rfl rfl k) ?_
  show Go p e below _ (T35.setTop (mkF m 128 #[iv p1, rv b, iv ((p1 &&& (2147483647 : Int32)) - (p1 &&& (2147483647 : Int32)) / (17 : Int32) * (17 : Int32)), .unset, .unset, .unset] [(.ref b)]))
  refine Go.pre (fun _ k => XS.iloadN X35.here hx rfl (hb hby at_128) rfl k) ?_
  show Go p e below _ (T35.setTop (mkF m 129 #[iv p1, rv b, iv ((p1 &&& (2147483647 : Int32)) - (p1 &&& (2147483647 : Int32)) / (17 : Int32) * (17 : Int32)), .unset, .unset, .unset] [(.int ((p1 &&& (2147483647 : Int32)) - (p1 &&& (2147483647 : Int32)) / (17 : Int32) * (17 : Int32))), (.ref b)]))
  obtain ⟨cl36, Ar36, -, S36, -, H36, -⟩ := V35
  have hj36 := own_k17 p1
  have hin36 := inb_of S36 hj36
  have hi36 : (((p1 &&& (2147483647 : Int32)) - (p1 &&& (2147483647 : Int32)) / (17 : Int32) * (17 : Int32))).toNatClampNeg < 17 := by
    have q := fun z => hin36 (Or.inr z)
    rw [S36] at q
    have : (17 : Int32).toNatClampNeg = 17 := by decide
    omega
  obtain ⟨t, ht36, Et, d, Ft, hiff⟩ := own_pick [o0, o1, o2, o3, o4, o5, o6, o7, o8, o9, o10, o11, o12, o13, o14, o15, o16] (fun t => Exa Z h0 t "com/example/latchline/latchline/Protocol$Type" ∧ ∃ d : Int32, Fld Z h0 t "com/example/latchline/latchline/Protocol$Type" "maxDetailBytes" "I" (.int d) ∧ ((0 : Int32) < d ↔ t = o0 ∨ t = o3 ∨ t = o5 ∨ t = o6 ∨ t = o15)) hall _ hi36
  have hat36 := H36.at hin36 ht36
  refine Go.pre (X35.aaload hx (j := ((p1 &&& (2147483647 : Int32)) - (p1 &&& (2147483647 : Int32)) / (17 : Int32) * (17 : Int32))) (v := .ref t) (by rw [e35]; exact Ar36.1) (State.isArrayOf_alike hZ.alike Ar36.2.1) rfl Ar36.2.2 hin36 hat36 (g := (mkF m 129 #[iv p1, rv b, iv ((p1 &&& (2147483647 : Int32)) - (p1 &&& (2147483647 : Int32)) / (17 : Int32) * (17 : Int32)), .unset, .unset, .unset] [(.int ((p1 &&& (2147483647 : Int32)) - (p1 &&& (2147483647 : Int32)) / (17 : Int32) * (17 : Int32))), (.ref b)])) rfl rfl (hb hby at_129)) ?_
  show Go p e below _ (T35.setTop (mkF m 130 #[iv p1, rv b, iv ((p1 &&& (2147483647 : Int32)) - (p1 &&& (2147483647 : Int32)) / (17 : Int32) * (17 : Int32)), .unset, .unset, .unset] [(.ref t)]))
  refine Go.pre (fun _ k => XS.astoreN X35.here hx rfl (hb hby at_130) rfl rfl (l' := #[iv p1, rv b, iv ((p1 &&& (2147483647 : Int32)) - (p1 &&& (2147483647 : Int32)) / (17 : Int32) * (17 : Int32)), rv t, .unset, .unset]) rfl k) ?_
  show Go p e below _ (T35.setTop (mkF m 131 #[iv p1, rv b, iv ((p1 &&& (2147483647 : Int32)) - (p1 &&& (2147483647 : Int32)) / (17 : Int32) * (17 : Int32)), rv t, .unset, .unset] []))
  refine Go.pre (fun _ k => XS.aloadN X35.here hx rfl (hb hby at_131) rfl rfl k) ?_
  show Go p e below _ (T35.setTop (mkF m 132 #[iv p1, rv b, iv ((p1 &&& (2147483647 : Int32)) - (p1 &&& (2147483647 : Int32)) / (17 : Int32) * (17 : Int32)), rv t, .unset, .unset] [(.ref t)]))
  obtain ⟨T37, X37, e37, st37⟩ := getS2 X35 hx hZ hown (host := "") (Or.inl (hw _ (List.mem_of_getElem? (i := 2) rfl))) Via.refl e35 (own_staK S_o0 K35) (g := (mkF m 132 #[iv p1, rv b, iv ((p1 &&& (2147483647 : Int32)) - (p1 &&& (2147483647 : Int32)) / (17 : Int32) * (17 : Int32)), rv t, .unset, .unset] [(.ref t)])) rfl (hb hby at_132)
  refine Go.pre st37 ?_
  show Go p e below _ (T37.setTop (mkF m 135 #[iv p1, rv b, iv ((p1 &&& (2147483647 : Int32)) - (p1 &&& (2147483647 : Int32)) / (17 : Int32) * (17 : Int32)), rv t, .unset, .unset] [(.ref o0), (.ref t)]))
  by_cases ha135_38 : t = o0
  · skip
    refine Go.pre (fun _ k => Jvm.RoadKit.acmp (g := (mkF m 135 #[iv p1, rv b, iv ((p1 &&& (2147483647 : Int32)) - (p1 &&& (2147483647 : Int32)) / (17 : Int32) * (17 : Int32)), rv t, .unset, .unset] [(.ref o0), (.ref t)])) X37 hx rfl rfl rfl (pc0 := 135) (pc' := 159) (same := true) rfl (hb hby at_135) rfl (decide_eq_true (congrArg Value.ref ha135_38)) (by decide) (by decide) k) ?_
    show Go p e below _ (T37.setTop (mkF m 159 #[iv p1, rv b, iv ((p1 &&& (2147483647 : Int32)) - (p1 &&& (2147483647 : Int32)) / (17 : Int32) * (17 : Int32)), rv t, .unset, .unset] []))
    refine Go.pre (fun _ k => XS.iconst X37.here hx rfl (hb hby at_159) k) ?_
    show Go p e below _ (T37.setTop (mkF m 160 #[iv p1, rv b, iv ((p1 &&& (2147483647 : Int32)) - (p1 &&& (2147483647 : Int32)) / (17 : Int32) * (17 : Int32)), rv t, .unset, .unset] [(.int (1 : Int32))]))
    refine Go.pre (fun _ k => XS.goto X37.here hx rfl (pc0 := 160) (pc' := 164) rfl (hb hby at_160) (by decide) (by decide) k) ?_
    show Go p e below _ (T37.setTop (mkF m 164 #[iv p1, rv b, iv ((p1 &&& (2147483647 : Int32)) - (p1 &&& (2147483647 : Int32)) / (17 : Int32) * (17 : Int32)), rv t, .unset, .unset] [(.int (1 : Int32))]))
    refine Go.pre (fun _ k => XS.istore X37.here hx rfl (hb hby at_164) rfl (l' := #[iv p1, rv b, iv ((p1 &&& (2147483647 : Int32)) - (p1 &&& (2147483647 : Int32)) / (17 : Int32) * (17 : Int32)), rv t, iv (1 : Int32), .unset]) rfl k) ?_
    show Go p e below _ (T37.setTop (mkF m 166 #[iv p1, rv b, iv ((p1 &&& (2147483647 : Int32)) - (p1 &&& (2147483647 : Int32)) / (17 : Int32) * (17 : Int32)), rv t, iv (1 : Int32), .unset] []))
    refine Go.pre (fun _ k => XS.iload X37.here hx rfl (hb hby at_166) rfl k) ?_
    show Go p e below _ (T37.setTop (mkF m 168 #[iv p1, rv b, iv ((p1 &&& (2147483647 : Int32)) - (p1 &&& (2147483647 : Int32)) / (17 : Int32) * (17 : Int32)), rv t, iv (1 : Int32), .unset] [(.int (1 : Int32))]))
    refine Go.pre (fun _ k => XS.ifYes X37.here hx rfl (pc0 := 168) (pc' := 178) rfl (hb hby at_168) rfl ((if0 _ _).trans (feq (by decide : ¬ ((1 : Int32) = (0 : Int32)))).2) (by decide) (by decide) k) ?_
    show Go p e below _ (T37.setTop (mkF m 178 #[iv p1, rv b, iv ((p1 &&& (2147483647 : Int32)) - (p1 &&& (2147483647 : Int32)) / (17 : Int32) * (17 : Int32)), rv t, iv (1 : Int32), .unset] []))
    refine Go.pre (fun _ k => XS.iconst X37.here hx rfl (hb hby at_178) k) ?_
    show Go p e below _ (T37.setTop (mkF m 179 #[iv p1, rv b, iv ((p1 &&& (2147483647 : Int32)) - (p1 &&& (2147483647 : Int32)) / (17 : Int32) * (17 : Int32)), rv t, iv (1 : Int32), .unset] [(.int (1 : Int32))]))
    refine Go.pre (fun _ k => XS.goto X37.here hx rfl (pc0 := 179) (pc' := 183) rfl (hb hby at_179) (by decide) (by decide) k) ?_
    show Go p e below _ (T37.setTop (mkF m 183 #[iv p1, rv b, iv ((p1 &&& (2147483647 : Int32)) - (p1 &&& (2147483647 : Int32)) / (17 : Int32) * (17 : Int32)), rv t, iv (1 : Int32), .unset] [(.int (1 : Int32))]))
    refine Go.pre (fun _ k => XS.istore X37.here hx rfl (hb hby at_183) rfl (l' := #[iv p1, rv b, iv ((p1 &&& (2147483647 : Int32)) - (p1 &&& (2147483647 : Int32)) / (17 : Int32) * (17 : Int32)), rv t, iv (1 : Int32), iv (1 : Int32)]) rfl k) ?_
    show Go p e below _ (T37.setTop (mkF m 185 #[iv p1, rv b, iv ((p1 &&& (2147483647 : Int32)) - (p1 &&& (2147483647 : Int32)) / (17 : Int32) * (17 : Int32)), rv t, iv (1 : Int32), iv (1 : Int32)] []))
    refine Go.pre (fun _ k => XS.aloadN X37.here hx rfl (hb hby at_185) rfl rfl k) ?_
    show Go p e below _ (T37.setTop (mkF m 186 #[iv p1, rv b, iv ((p1 &&& (2147483647 : Int32)) - (p1 &&& (2147483647 : Int32)) / (17 : Int32) * (17 : Int32)), rv t, iv (1 : Int32), iv (1 : Int32)] [(.ref t)]))
    obtain ⟨cq39, kq39, q39a, q39b, q39c⟩ := isOf hZ e37 (Exa.keep Et K35)
    obtain ⟨_, _, ⟨T39, L39, k39, n39⟩, -, X39, ⟨Lc39, hQ39, l39, y39, z39⟩, st39⟩ := X37.virtualBack hx (y := (⟨"com/example/latchline/latchline/Protocol$Type", "carriesDetail", "()Z"⟩ : MethodName)) (z := (⟨"com/example/latchline/latchline/Protocol$Type", "carriesDetail", "()Z"⟩ : MethodName)) hown (mvT hZ (hw _ (List.mem_of_getElem? (i := 39) rfl))) (mvT hZ (hw _ (List.mem_of_getElem? (i := 40) rfl))) (notFace_of_selects (args := #[]) (mvT hZ (hw _ (List.mem_of_getElem? (i := 42) rfl)))) (mvT hZ (hw _ (List.mem_of_getElem? (i := 42) rfl))) (mvT hZ (hw _ (List.mem_of_getElem? (i := 41) rfl))) (by decide) (backOf (W := 0) (rm_cd l Z a0 hw [] t d h35 n0 (Nat.le_trans Z0 K35.1) (Fld.keep Ft K35 nin0)) hZ (hw _ (List.mem_of_getElem? (i := 43) rfl)) (hw _ (List.mem_of_getElem? (i := 3) rfl)) (by decide) (by decide)) q39a q39c (g := (mkF m 186 #[iv p1, rv b, iv ((p1 &&& (2147483647 : Int32)) - (p1 &&& (2147483647 : Int32)) / (17 : Int32) * (17 : Int32)), rv t, iv (1 : Int32), iv (1 : Int32)] [(.ref t)])) rfl (by rw [hml]; rfl) (Steps.refl _) (argsL := []) (rest := []) (lenOf pd_0 rfl) rfl (by show 2 * 0 + _ ≤ _; exact Nat.le_of_eq rfl) (hb hby at_186) (fun _ _ => ⟨rfl, e37, (by decide : 1 + 0 ≤ _), (by decide : 17 + 0 ≤ _)⟩)
    dsimp only [Pt.U, Pt.locs, Pt.cells, Pt.slots] at X39 l39 y39 z39 st39 hQ39
    subst l39 y39 z39
    refine Go.pre (own_cut st39) ?_
    rcases hQ39 with ⟨hp39, rfl, N39q, eh39⟩ | ⟨hp39, rfl, N39q, eh39⟩
    · skip
      have N39 := Fr.app N35 N39q
      show Go p e below _ (T39.setTop (mkF m 189 #[iv p1, rv b, iv ((p1 &&& (2147483647 : Int32)) - (p1 &&& (2147483647 : Int32)) / (17 : Int32) * (17 : Int32)), rv t, iv (1 : Int32), iv (1 : Int32)] [(.int (1 : Int32))]))
      refine Go.pre (fun _ k => XS.iload X39.here hx rfl (hb hby at_189) rfl k) ?_
      show Go p e below _ (T39.setTop (mkF m 191 #[iv p1, rv b, iv ((p1 &&& (2147483647 : Int32)) - (p1 &&& (2147483647 : Int32)) / (17 : Int32) * (17 : Int32)), rv t, iv (1 : Int32), iv (1 : Int32)] [(.int (1 : Int32)), (.int (1 : Int32))]))
      refine Go.pre (fun _ k => XS.icmpNo X39.here hx rfl (hb hby at_191) rfl (teq (by decide : (1 : Int32) = (1 : Int32))).2 k) ?_
      show Go p e below _ (T39.setTop (mkF m 194 #[iv p1, rv b, iv ((p1 &&& (2147483647 : Int32)) - (p1 &&& (2147483647 : Int32)) / (17 : Int32) * (17 : Int32)), rv t, iv (1 : Int32), iv (1 : Int32)] []))
      refine Go.pre (fun _ k => XS.iconst X39.here hx rfl (hb hby at_194) k) ?_
      show Go p e below _ (T39.setTop (mkF m 195 #[iv p1, rv b, iv ((p1 &&& (2147483647 : Int32)) - (p1 &&& (2147483647 : Int32)) / (17 : Int32) * (17 : Int32)), rv t, iv (1 : Int32), iv (1 : Int32)] [(.int (1 : Int32))]))
      refine Go.pre (fun _ k => XS.goto X39.here hx rfl (pc0 := 195) (pc' := 199) rfl (hb hby at_195) (by decide) (by decide) k) ?_
      show Go p e below _ (T39.setTop (mkF m 199 #[iv p1, rv b, iv ((p1 &&& (2147483647 : Int32)) - (p1 &&& (2147483647 : Int32)) / (17 : Int32) * (17 : Int32)), rv t, iv (1 : Int32), iv (1 : Int32)] [(.int (1 : Int32))]))
      obtain ⟨fs, hr, hrun, hended, hW, hsame⟩ := X39.leave (v := some (.int (1 : Int32))) (fun h => by rw [Bd.returns] at h; cases h)
      refine Go.fin (retN X39 hx (t := .boolean) Bd.returns (by simp) (hb hby at_199) hr) ⟨hrun, hended, _, _, rfl, ?_, ⟨_, rfl⟩, hW, hsame.mono (by decide) (by decide)⟩
      exact ⟨rfl, N39⟩
    · skip
      have N39 := Fr.app N35 N39q
      show Go p e below _ (T39.setTop (mkF m 189 #[iv p1, rv b, iv ((p1 &&& (2147483647 : Int32)) - (p1 &&& (2147483647 : Int32)) / (17 : Int32) * (17 : Int32)), rv t, iv (1 : Int32), iv (1 : Int32)] [(.int (0 : Int32))]))
      refine Go.pre (fun _ k => XS.iload X39.here hx rfl (hb hby at_189) rfl k) ?_
      show Go p e below _ (T39.setTop (mkF m 191 #[iv p1, rv b, iv ((p1 &&& (2147483647 : Int32)) - (p1 &&& (2147483647 : Int32)) / (17 : Int32) * (17 : Int32)), rv t, iv (1 : Int32), iv (1 : Int32)] [(.int (1 : Int32)), (.int (0 : Int32))]))
      refine Go.pre (fun _ k => XS.icmpYes X39.here hx rfl (pc0 := 191) (pc' := 198) rfl (hb hby at_191) rfl (feq (by decide : ¬ ((0 : Int32) = (1 : Int32)))).2 (by decide) (by decide) k) ?_
      show Go p e below _ (T39.setTop (mkF m 198 #[iv p1, rv b, iv ((p1 &&& (2147483647 : Int32)) - (p1 &&& (2147483647 : Int32)) / (17 : Int32) * (17 : Int32)), rv t, iv (1 : Int32), iv (1 : Int32)] []))
      refine Go.pre (fun _ k => XS.iconst X39.here hx rfl (hb hby at_198) k) ?_
      show Go p e below _ (T39.setTop (mkF m 199 #[iv p1, rv b, iv ((p1 &&& (2147483647 : Int32)) - (p1 &&& (2147483647 : Int32)) / (17 : Int32) * (17 : Int32)), rv t, iv (1 : Int32), iv (1 : Int32)] [(.int (0 : Int32))]))
      exact absurd (hiff.mpr (Or.inl ha135_38)) hp39
  · skip
    refine Go.pre (fun _ k => Jvm.RoadKit.acmp (g := (mkF m 135 #[iv p1, rv b, iv ((p1 &&& (2147483647 : Int32)) - (p1 &&& (2147483647 : Int32)) / (17 : Int32) * (17 : Int32)), rv t, .unset, .unset] [(.ref o0), (.ref t)])) X37 hx rfl rfl rfl (pc0 := 135) (pc' := 138) (same := false) rfl (hb hby at_135) rfl (decide_eq_false fun q => ha135_38 (Value.ref.inj q)) (by decide) (by decide) k) ?_
    show Go p e below _ (T37.setTop (mkF m 138 #[iv p1, rv b, iv ((p1 &&& (2147483647 : Int32)) - (p1 &&& (2147483647 : Int32)) / (17 : Int32) * (17 : Int32)), rv t, .unset, .unset] []))
    refine Go.pre (fun _ k => XS.aloadN X37.here hx rfl (hb hby at_138) rfl rfl k) ?_
    show Go p e below _ (T37.setTop (mkF m 139 #[iv p1, rv b, iv ((p1 &&& (2147483647 : Int32)) - (p1 &&& (2147483647 : Int32)) / (17 : Int32) * (17 : Int32)), rv t, .unset, .unset] [(.ref t)]))
    obtain ⟨T40, X40, e40, st40⟩ := getS2 X37 hx hZ hown (host := "") (Or.inl (hw _ (List.mem_of_getElem? (i := 10) rfl))) Via.refl e37 (own_staK S_o3 K35) (g := (mkF m 139 #[iv p1, rv b, iv ((p1 &&& (2147483647 : Int32)) - (p1 &&& (2147483647 : Int32)) / (17 : Int32) * (17 : Int32)), rv t, .unset, .unset] [(.ref t)])) rfl (hb hby at_139)
    refine Go.pre st40 ?_
    show Go p e below _ (T40.setTop (mkF m 142 #[iv p1, rv b, iv ((p1 &&& (2147483647 : Int32)) - (p1 &&& (2147483647 : Int32)) / (17 : Int32) * (17 : Int32)), rv t, .unset, .unset] [(.ref o3), (.ref t)]))
    by_cases ha142_41 : t = o3
    · skip
      refine Go.pre (fun _ k => Jvm.RoadKit.acmp (g := (mkF m 142 #[iv p1, rv b, iv ((p1 &&& (2147483647 : Int32)) - (p1 &&& (2147483647 : Int32)) / (17 : Int32) * (17 : Int32)), rv t, .unset, .unset] [(.ref o3), (.ref t)])) X40 hx rfl rfl rfl (pc0 := 142) (pc' := 159) (same := true) rfl (hb hby at_142) rfl (decide_eq_true (congrArg Value.ref ha142_41)) (by decide) (by decide) k) ?_
      show Go p e below _ (T40.setTop (mkF m 159 #[iv p1, rv b, iv ((p1 &&& (2147483647 : Int32)) - (p1 &&& (2147483647 : Int32)) / (17 : Int32) * (17 : Int32)), rv t, .unset, .unset] []))
      refine Go.pre (fun _ k => XS.iconst X40.here hx rfl (hb hby at_159) k) ?_
      show Go p e below _ (T40.setTop (mkF m 160 #[iv p1, rv b, iv ((p1 &&& (2147483647 : Int32)) - (p1 &&& (2147483647 : Int32)) / (17 : Int32) * (17 : Int32)), rv t, .unset, .unset] [(.int (1 : Int32))]))
      refine Go.pre (fun _ k => XS.goto X40.here hx rfl (pc0 := 160) (pc' := 164) rfl (hb hby at_160) (by decide) (by decide) k) ?_
      show Go p e below _ (T40.setTop (mkF m 164 #[iv p1, rv b, iv ((p1 &&& (2147483647 : Int32)) - (p1 &&& (2147483647 : Int32)) / (17 : Int32) * (17 : Int32)), rv t, .unset, .unset] [(.int (1 : Int32))]))
      refine Go.pre (fun _ k => XS.istore X40.here hx rfl (hb hby at_164) rfl (l' := #[iv p1, rv b, iv ((p1 &&& (2147483647 : Int32)) - (p1 &&& (2147483647 : Int32)) / (17 : Int32) * (17 : Int32)), rv t, iv (1 : Int32), .unset]) rfl k) ?_
      show Go p e below _ (T40.setTop (mkF m 166 #[iv p1, rv b, iv ((p1 &&& (2147483647 : Int32)) - (p1 &&& (2147483647 : Int32)) / (17 : Int32) * (17 : Int32)), rv t, iv (1 : Int32), .unset] []))
      refine Go.pre (fun _ k => XS.iload X40.here hx rfl (hb hby at_166) rfl k) ?_
      show Go p e below _ (T40.setTop (mkF m 168 #[iv p1, rv b, iv ((p1 &&& (2147483647 : Int32)) - (p1 &&& (2147483647 : Int32)) / (17 : Int32) * (17 : Int32)), rv t, iv (1 : Int32), .unset] [(.int (1 : Int32))]))
      refine Go.pre (fun _ k => XS.ifYes X40.here hx rfl (pc0 := 168) (pc' := 178) rfl (hb hby at_168) rfl ((if0 _ _).trans (feq (by decide : ¬ ((1 : Int32) = (0 : Int32)))).2) (by decide) (by decide) k) ?_
      show Go p e below _ (T40.setTop (mkF m 178 #[iv p1, rv b, iv ((p1 &&& (2147483647 : Int32)) - (p1 &&& (2147483647 : Int32)) / (17 : Int32) * (17 : Int32)), rv t, iv (1 : Int32), .unset] []))
      refine Go.pre (fun _ k => XS.iconst X40.here hx rfl (hb hby at_178) k) ?_
      show Go p e below _ (T40.setTop (mkF m 179 #[iv p1, rv b, iv ((p1 &&& (2147483647 : Int32)) - (p1 &&& (2147483647 : Int32)) / (17 : Int32) * (17 : Int32)), rv t, iv (1 : Int32), .unset] [(.int (1 : Int32))]))
      refine Go.pre (fun _ k => XS.goto X40.here hx rfl (pc0 := 179) (pc' := 183) rfl (hb hby at_179) (by decide) (by decide) k) ?_
      show Go p e below _ (T40.setTop (mkF m 183 #[iv p1, rv b, iv ((p1 &&& (2147483647 : Int32)) - (p1 &&& (2147483647 : Int32)) / (17 : Int32) * (17 : Int32)), rv t, iv (1 : Int32), .unset] [(.int (1 : Int32))]))
      refine Go.pre (fun _ k => XS.istore X40.here hx rfl (hb hby at_183) rfl (l' := #[iv p1, rv b, iv ((p1 &&& (2147483647 : Int32)) - (p1 &&& (2147483647 : Int32)) / (17 : Int32) * (17 : Int32)), rv t, iv (1 : Int32), iv (1 : Int32)]) rfl k) ?_
      show Go p e below _ (T40.setTop (mkF m 185 #[iv p1, rv b, iv ((p1 &&& (2147483647 : Int32)) - (p1 &&& (2147483647 : Int32)) / (17 : Int32) * (17 : Int32)), rv t, iv (1 : Int32), iv (1 : Int32)] []))
      refine Go.pre (fun _ k => XS.aloadN X40.here hx rfl (hb hby at_185) rfl rfl k) ?_
      show Go p e below _ (T40.setTop (mkF m 186 #[iv p1, rv b, iv ((p1 &&& (2147483647 : Int32)) - (p1 &&& (2147483647 : Int32)) / (17 : Int32) * (17 : Int32)), rv t, iv (1 : Int32), iv (1 : Int32)] [(.ref t)]))
      obtain ⟨cq42, kq42, q42a, q42b, q42c⟩ := isOf hZ e40 (Exa.keep Et K35)
      obtain ⟨_, _, ⟨T42, L42, k42, n42⟩, -, X42, ⟨Lc42, hQ42, l42, y42, z42⟩, st42⟩ := X40.virtualBack hx (y := (⟨"com/example/latchline/latchline/Protocol$Type", "carriesDetail", "()Z"⟩ : MethodName)) (z := (⟨"com/example/latchline/latchline/Protocol$Type", "carriesDetail", "()Z"⟩ : MethodName)) hown (mvT hZ (hw _ (List.mem_of_getElem? (i := 39) rfl))) (mvT hZ (hw _ (List.mem_of_getElem? (i := 40) rfl))) (notFace_of_selects (args := #[]) (mvT hZ (hw _ (List.mem_of_getElem? (i := 42) rfl)))) (mvT hZ (hw _ (List.mem_of_getElem? (i := 42) rfl))) (mvT hZ (hw _ (List.mem_of_getElem? (i := 41) rfl))) (by decide) (backOf (W := 0) (rm_cd l Z a0 hw [] t d h35 n0 (Nat.le_trans Z0 K35.1) (Fld.keep Ft K35 nin0)) hZ (hw _ (List.mem_of_getElem? (i := 43) rfl)) (hw _ (List.mem_of_getElem? (i := 3) rfl)) (by decide) (by decide)) q42a q42c (g := (mkF m 186 #[iv p1, rv b, iv ((p1 &&& (2147483647 : Int32)) - (p1 &&& (2147483647 : Int32)) / (17 : Int32) * (17 : Int32)), rv t, iv (1 : Int32), iv (1 : Int32)] [(.ref t)])) rfl (by rw [hml]; rfl) (Steps.refl _) (argsL := []) (rest := []) (lenOf pd_0 rfl) rfl (by show 2 * 0 + _ ≤ _; exact Nat.le_of_eq rfl) (hb hby at_186) (fun _ _ => ⟨rfl, e40, (by decide : 1 + 0 ≤ _), (by decide : 17 + 0 ≤ _)⟩)
      dsimp only [Pt.U, Pt.locs, Pt.cells, Pt.slots] at X42 l42 y42 z42 st42 hQ42
      subst l42 y42 z42
      refine Go.pre (own_cut st42) ?_
      rcases hQ42 with ⟨hp42, rfl, N42q, eh42⟩ | ⟨hp42, rfl, N42q, eh42⟩
      · skip
        have N42 := Fr.app N35 N42q
        show Go p e below _ (T42.setTop (mkF m 189 #[iv p1, rv b, iv ((p1 &&& (2147483647 : Int32)) - (p1 &&& (2147483647 : Int32)) / (17 : Int32) * (17 : Int32)), rv t, iv (1 : Int32), iv (1 : Int32)] [(.int (1 : Int32))]))
        refine Go.pre (fun _ k => XS.iload X42.here hx rfl (hb hby at_189) rfl k) ?_
        show Go p e below _ (T42.setTop (mkF m 191 #[iv p1, rv b, iv ((p1 &&& (2147483647 : Int32)) - (p1 &&& (2147483647 : Int32)) / (17 : Int32) * (17 : Int32)), rv t, iv (1 : Int32), iv (1 : Int32)] [(.int (1 : Int32)), (.int (1 : Int32))]))
        refine Go.pre (fun _ k => XS.icmpNo X42.here hx rfl (hb hby at_191) rfl (teq (by decide : (1 : Int32) = (1 : Int32))).2 k) ?_
        show Go p e below _ (T42.setTop (mkF m 194 #[iv p1, rv b, iv ((p1 &&& (2147483647 : Int32)) - (p1 &&& (2147483647 : Int32)) / (17 : Int32) * (17 : Int32)), rv t, iv (1 : Int32), iv (1 : Int32)] []))
        refine Go.pre (fun _ k => XS.iconst X42.here hx rfl (hb hby at_194) k) ?_
        show Go p e below _ (T42.setTop (mkF m 195 #[iv p1, rv b, iv ((p1 &&& (2147483647 : Int32)) - (p1 &&& (2147483647 : Int32)) / (17 : Int32) * (17 : Int32)), rv t, iv (1 : Int32), iv (1 : Int32)] [(.int (1 : Int32))]))
        refine Go.pre (fun _ k => XS.goto X42.here hx rfl (pc0 := 195) (pc' := 199) rfl (hb hby at_195) (by decide) (by decide) k) ?_
        show Go p e below _ (T42.setTop (mkF m 199 #[iv p1, rv b, iv ((p1 &&& (2147483647 : Int32)) - (p1 &&& (2147483647 : Int32)) / (17 : Int32) * (17 : Int32)), rv t, iv (1 : Int32), iv (1 : Int32)] [(.int (1 : Int32))]))
        obtain ⟨fs, hr, hrun, hended, hW, hsame⟩ := X42.leave (v := some (.int (1 : Int32))) (fun h => by rw [Bd.returns] at h; cases h)
        refine Go.fin (retN X42 hx (t := .boolean) Bd.returns (by simp) (hb hby at_199) hr) ⟨hrun, hended, _, _, rfl, ?_, ⟨_, rfl⟩, hW, hsame.mono (by decide) (by decide)⟩
        exact ⟨rfl, N42⟩
      · skip
        have N42 := Fr.app N35 N42q
        show Go p e below _ (T42.setTop (mkF m 189 #[iv p1, rv b, iv ((p1 &&& (2147483647 : Int32)) - (p1 &&& (2147483647 : Int32)) / (17 : Int32) * (17 : Int32)), rv t, iv (1 : Int32), iv (1 : Int32)] [(.int (0 : Int32))]))
        refine Go.pre (fun _ k => XS.iload X42.here hx rfl (hb hby at_189) rfl k) ?_
        show Go p e below _ (T42.setTop (mkF m 191 #[iv p1, rv b, iv ((p1 &&& (2147483647 : Int32)) - (p1 &&& (2147483647 : Int32)) / (17 : Int32) * (17 : Int32)), rv t, iv (1 : Int32), iv (1 : Int32)] [(.int (1 : Int32)), (.int (0 : Int32))]))
        refine Go.pre (fun _ k => XS.icmpYes X42.here hx rfl (pc0 := 191) (pc' := 198) rfl (hb hby at_191) rfl (feq (by decide : ¬ ((0 : Int32) = (1 : Int32)))).2 (by decide) (by decide) k) ?_
        show Go p e below _ (T42.setTop (mkF m 198 #[iv p1, rv b, iv ((p1 &&& (2147483647 : Int32)) - (p1 &&& (2147483647 : Int32)) / (17 : Int32) * (17 : Int32)), rv t, iv (1 : Int32), iv (1 : Int32)] []))
        refine Go.pre (fun _ k => XS.iconst X42.here hx rfl (hb hby at_198) k) ?_
        show Go p e below _ (T42.setTop (mkF m 199 #[iv p1, rv b, iv ((p1 &&& (2147483647 : Int32)) - (p1 &&& (2147483647 : Int32)) / (17 : Int32) * (17 : Int32)), rv t, iv (1 : Int32), iv (1 : Int32)] [(.int (0 : Int32))]))
        exact absurd (hiff.mpr (Or.inr (Or.inl ha142_41))) hp42
    · skip
      refine Go.pre (fun _ k => Jvm.RoadKit.acmp (g := (mkF m 142 #[iv p1, rv b, iv ((p1 &&& (2147483647 : Int32)) - (p1 &&& (2147483647 : Int32)) / (17 : Int32) * (17 : Int32)), rv t, .unset, .unset] [(.ref o3), (.ref t)])) X40 hx rfl rfl rfl (pc0 := 142) (pc' := 145) (same := false) rfl (hb hby at_142) rfl (decide_eq_false fun q => ha142_41 (Value.ref.inj q)) (by decide) (by decide) k) ?_
      show Go p e below _ (T40.setTop (mkF m 145 #[iv p1, rv b, iv ((p1 &&& (2147483647 : Int32)) - (p1 &&& (2147483647 : Int32)) / (17 : Int32) * (17 : Int32)), rv t, .unset, .unset] []))
      refine Go.pre (fun _ k => XS.aloadN X40.here hx rfl (hb hby at_145) rfl rfl k) ?_
      show Go p e below _ (T40.setTop (mkF m 146 #[iv p1, rv b, iv ((p1 &&& (2147483647 : Int32)) - (p1 &&& (2147483647 : Int32)) / (17 : Int32) * (17 : Int32)), rv t, .unset, .unset] [(.ref t)]))
      obtain ⟨T43, X43, e43, st43⟩ := getS2 X40 hx hZ hown (host := "") (Or.inl (hw _ (List.mem_of_getElem? (i := 14) rfl))) Via.refl e40 (own_staK S_o5 K35) (g := (mkF m 146 #[iv p1, rv b, iv ((p1 &&& (2147483647 : Int32)) - (p1 &&& (2147483647 : Int32)) / (17 : Int32) * (17 : Int32)), rv t, .unset, .unset] [(.ref t)])) rfl (hb hby at_146)
      refine Go.pre st43 ?_
      show Go p e below _ (T43.setTop (mkF m 149 #[iv p1, rv b, iv ((p1 &&& (2147483647 : Int32)) - (p1 &&& (2147483647 : Int32)) / (17 : Int32) * (17 : Int32)), rv t, .unset, .unset] [(.ref o5), (.ref t)]))
      by_cases ha149_44 : t = o5
      · skip
        refine Go.pre (fun _ k => Jvm.RoadKit.acmp (g := (mkF m 149 #[iv p1, rv b, iv ((p1 &&& (2147483647 : Int32)) - (p1 &&& (2147483647 : Int32)) / (17 : Int32) * (17 : Int32)), rv t, .unset, .unset] [(.ref o5), (.ref t)])) X43 hx rfl rfl rfl (pc0 := 149) (pc' := 159) (same := true) rfl (hb hby at_149) rfl (decide_eq_true (congrArg Value.ref ha149_44)) (by decide) (by decide) k) ?_
        show Go p e below _ (T43.setTop (mkF m 159 #[iv p1, rv b, iv ((p1 &&& (2147483647 : Int32)) - (p1 &&& (2147483647 : Int32)) / (17 : Int32) * (17 : Int32)), rv t, .unset, .unset] []))
        refine Go.pre (fun _ k => XS.iconst X43.here hx rfl (hb hby at_159) k) ?_
        show Go p e below _ (T43.setTop (mkF m 160 #[iv p1, rv b, iv ((p1 &&& (2147483647 : Int32)) - (p1 &&& (2147483647 : Int32)) / (17 : Int32) * (17 : Int32)), rv t, .unset, .unset] [(.int (1 : Int32))]))
        refine Go.pre (fun _ k => XS.goto X43.here hx rfl (pc0 := 160) (pc' := 164) rfl (hb hby at_160) (by decide) (by decide) k) ?_
        show Go p e below _ (T43.setTop (mkF m 164 #[iv p1, rv b, iv ((p1 &&& (2147483647 : Int32)) - (p1 &&& (2147483647 : Int32)) / (17 : Int32) * (17 : Int32)), rv t, .unset, .unset] [(.int (1 : Int32))]))
        refine Go.pre (fun _ k => XS.istore X43.here hx rfl (hb hby at_164) rfl (l' := #[iv p1, rv b, iv ((p1 &&& (2147483647 : Int32)) - (p1 &&& (2147483647 : Int32)) / (17 : Int32) * (17 : Int32)), rv t, iv (1 : Int32), .unset]) rfl k) ?_
        show Go p e below _ (T43.setTop (mkF m 166 #[iv p1, rv b, iv ((p1 &&& (2147483647 : Int32)) - (p1 &&& (2147483647 : Int32)) / (17 : Int32) * (17 : Int32)), rv t, iv (1 : Int32), .unset] []))
        refine Go.pre (fun _ k => XS.iload X43.here hx rfl (hb hby at_166) rfl k) ?_
        show Go p e below _ (T43.setTop (mkF m 168 #[iv p1, rv b, iv ((p1 &&& (2147483647 : Int32)) - (p1 &&& (2147483647 : Int32)) / (17 : Int32) * (17 : Int32)), rv t, iv (1 : Int32), .unset] [(.int (1 : Int32))]))
        refine Go.pre (fun _ k => XS.ifYes X43.here hx rfl (pc0 := 168) (pc' := 178) rfl (hb hby at_168) rfl ((if0 _ _).trans (feq (by decide : ¬ ((1 : Int32) = (0 : Int32)))).2) (by decide) (by decide) k) ?_
        show Go p e below _ (T43.setTop (mkF m 178 #[iv p1, rv b, iv ((p1 &&& (2147483647 : Int32)) - (p1 &&& (2147483647 : Int32)) / (17 : Int32) * (17 : Int32)), rv t, iv (1 : Int32), .unset] []))
        refine Go.pre (fun _ k => XS.iconst X43.here hx rfl (hb hby at_178) k) ?_
        show Go p e below _ (T43.setTop (mkF m 179 #[iv p1, rv b, iv ((p1 &&& (2147483647 : Int32)) - (p1 &&& (2147483647 : Int32)) / (17 : Int32) * (17 : Int32)), rv t, iv (1 : Int32), .unset] [(.int (1 : Int32))]))
        refine Go.pre (fun _ k => XS.goto X43.here hx rfl (pc0 := 179) (pc' := 183) rfl (hb hby at_179) (by decide) (by decide) k) ?_
        show Go p e below _ (T43.setTop (mkF m 183 #[iv p1, rv b, iv ((p1 &&& (2147483647 : Int32)) - (p1 &&& (2147483647 : Int32)) / (17 : Int32) * (17 : Int32)), rv t, iv (1 : Int32), .unset] [(.int (1 : Int32))]))
        refine Go.pre (fun _ k => XS.istore X43.here hx rfl (hb hby at_183) rfl (l' := #[iv p1, rv b, iv ((p1 &&& (2147483647 : Int32)) - (p1 &&& (2147483647 : Int32)) / (17 : Int32) * (17 : Int32)), rv t, iv (1 : Int32), iv (1 : Int32)]) rfl k) ?_
        show Go p e below _ (T43.setTop (mkF m 185 #[iv p1, rv b, iv ((p1 &&& (2147483647 : Int32)) - (p1 &&& (2147483647 : Int32)) / (17 : Int32) * (17 : Int32)), rv t, iv (1 : Int32), iv (1 : Int32)] []))
        refine Go.pre (fun _ k => XS.aloadN X43.here hx rfl (hb hby at_185) rfl rfl k) ?_
        show Go p e below _ (T43.setTop (mkF m 186 #[iv p1, rv b, iv ((p1 &&& (2147483647 : Int32)) - (p1 &&& (2147483647 : Int32)) / (17 : Int32) * (17 : Int32)), rv t, iv (1 : Int32), iv (1 : Int32)] [(.ref t)]))
        obtain ⟨cq45, kq45, q45a, q45b, q45c⟩ := isOf hZ e43 (Exa.keep Et K35)
        obtain ⟨_, _, ⟨T45, L45, k45, n45⟩, -, X45, ⟨Lc45, hQ45, l45, y45, z45⟩, st45⟩ := X43.virtualBack hx (y := (⟨"com/example/latchline/latchline/Protocol$Type", "carriesDetail", "()Z"⟩ : MethodName)) (z := (⟨"com/example/latchline/latchline/Protocol$Type", "carriesDetail", "()Z"⟩ : MethodName)) hown (mvT hZ (hw _ (List.mem_of_getElem? (i := 39) rfl))) (mvT hZ (hw _ (List.mem_of_getElem? (i := 40) rfl))) (notFace_of_selects (args := #[]) (mvT hZ (hw _ (List.mem_of_getElem? (i := 42) rfl)))) (mvT hZ (hw _ (List.mem_of_getElem? (i := 42) rfl))) (mvT hZ (hw _ (List.mem_of_getElem? (i := 41) rfl))) (by decide) (backOf (W := 0) (rm_cd l Z a0 hw [] t d h35 n0 (Nat.le_trans Z0 K35.1) (Fld.keep Ft K35 nin0)) hZ (hw _ (List.mem_of_getElem? (i := 43) rfl)) (hw _ (List.mem_of_getElem? (i := 3) rfl)) (by decide) (by decide)) q45a q45c (g := (mkF m 186 #[iv p1, rv b, iv ((p1 &&& (2147483647 : Int32)) - (p1 &&& (2147483647 : Int32)) / (17 : Int32) * (17 : Int32)), rv t, iv (1 : Int32), iv (1 : Int32)] [(.ref t)])) rfl (by rw [hml]; rfl) (Steps.refl _) (argsL := []) (rest := []) (lenOf pd_0 rfl) rfl (by show 2 * 0 + _ ≤ _; exact Nat.le_of_eq rfl) (hb hby at_186) (fun _ _ => ⟨rfl, e43, (by decide : 1 + 0 ≤ _), (by decide : 17 + 0 ≤ _)⟩)
        dsimp only [Pt.U, Pt.locs, Pt.cells, Pt.slots] at X45 l45 y45 z45 st45 hQ45
        subst l45 y45 z45
        refine Go.pre (own_cut st45) ?_
        rcases hQ45 with ⟨hp45, rfl, N45q, eh45⟩ | ⟨hp45, rfl, N45q, eh45⟩
        · skip
          have N45 := Fr.app N35 N45q
          show Go p e below _ (T45.setTop (mkF m 189 #[iv p1, rv b, iv ((p1 &&& (2147483647 : Int32)) - (p1 &&& (2147483647 : Int32)) / (17 : Int32) * (17 : Int32)), rv t, iv (1 : Int32), iv (1 : Int32)] [(.int (1 : Int32))]))
          refine Go.pre (fun _ k => XS.iload X45.here hx rfl (hb hby at_189) rfl k) ?_
          show Go p e below _ (T45.setTop (mkF m 191 #[iv p1, rv b, iv ((p1 &&& (2147483647 : Int32)) - (p1 &&& (2147483647 : Int32)) / (17 : Int32) * (17 : Int32)), rv t, iv (1 : Int32), iv (1 : Int32)] [(.int (1 : Int32)), (.int (1 : Int32))]))
          refine Go.pre (fun _ k => XS.icmpNo X45.here hx rfl (hb hby at_191) rfl (teq (by decide : (1 : Int32) = (1 : Int32))).2 k) ?_
          show Go p e below _ (T45.setTop (mkF m 194 #[iv p1, rv b, iv ((p1 &&& (2147483647 : Int32)) - (p1 &&& (2147483647 : Int32)) / (17 : Int32) * (17 : Int32)), rv t, iv (1 : Int32), iv (1 : Int32)] []))
          refine Go.pre (fun _ k => XS.iconst X45.here hx rfl (hb hby at_194) k) ?_
          show Go p e below _ (T45.setTop (mkF m 195 #[iv p1, rv b, iv ((p1 &&& (2147483647 : Int32)) - (p1 &&& (2147483647 : Int32)) / (17 : Int32) * (17 : Int32)), rv t, iv (1 : Int32), iv (1 : Int32)] [(.int (1 : Int32))]))
          refine Go.pre (fun _ k => XS.goto X45.here hx rfl (pc0 := 195) (pc' := 199) rfl (hb hby at_195) (by decide) (by decide) k) ?_
          show Go p e below _ (T45.setTop (mkF m 199 #[iv p1, rv b, iv ((p1 &&& (2147483647 : Int32)) - (p1 &&& (2147483647 : Int32)) / (17 : Int32) * (17 : Int32)), rv t, iv (1 : Int32), iv (1 : Int32)] [(.int (1 : Int32))]))
          obtain ⟨fs, hr, hrun, hended, hW, hsame⟩ := X45.leave (v := some (.int (1 : Int32))) (fun h => by rw [Bd.returns] at h; cases h)
          refine Go.fin (retN X45 hx (t := .boolean) Bd.returns (by simp) (hb hby at_199) hr) ⟨hrun, hended, _, _, rfl, ?_, ⟨_, rfl⟩, hW, hsame.mono (by decide) (by decide)⟩
          exact ⟨rfl, N45⟩
        · skip
          have N45 := Fr.app N35 N45q
          show Go p e below _ (T45.setTop (mkF m 189 #[iv p1, rv b, iv ((p1 &&& (2147483647 : Int32)) - (p1 &&& (2147483647 : Int32)) / (17 : Int32) * (17 : Int32)), rv t, iv (1 : Int32), iv (1 : Int32)] [(.int (0 : Int32))]))
          refine Go.pre (fun _ k => XS.iload X45.here hx rfl (hb hby at_189) rfl k) ?_
          show Go p e below _ (T45.setTop (mkF m 191 #[iv p1, rv b, iv ((p1 &&& (2147483647 : Int32)) - (p1 &&& (2147483647 : Int32)) / (17 : Int32) * (17 : Int32)), rv t, iv (1 : Int32), iv (1 : Int32)] [(.int (1 : Int32)), (.int (0 : Int32))]))
          refine Go.pre (fun _ k => XS.icmpYes X45.here hx rfl (pc0 := 191) (pc' := 198) rfl (hb hby at_191) rfl (feq (by decide : ¬ ((0 : Int32) = (1 : Int32)))).2 (by decide) (by decide) k) ?_
          show Go p e below _ (T45.setTop (mkF m 198 #[iv p1, rv b, iv ((p1 &&& (2147483647 : Int32)) - (p1 &&& (2147483647 : Int32)) / (17 : Int32) * (17 : Int32)), rv t, iv (1 : Int32), iv (1 : Int32)] []))
          refine Go.pre (fun _ k => XS.iconst X45.here hx rfl (hb hby at_198) k) ?_
          show Go p e below _ (T45.setTop (mkF m 199 #[iv p1, rv b, iv ((p1 &&& (2147483647 : Int32)) - (p1 &&& (2147483647 : Int32)) / (17 : Int32) * (17 : Int32)), rv t, iv (1 : Int32), iv (1 : Int32)] [(.int (0 : Int32))]))
          exact absurd (hiff.mpr (Or.inr (Or.inr (Or.inl ha149_44)))) hp45
      · skip
        refine Go.pre (fun _ k => Jvm.RoadKit.acmp (g := (mkF m 149 #[iv p1, rv b, iv ((p1 &&& (2147483647 : Int32)) - (p1 &&& (2147483647 : Int32)) / (17 : Int32) * (17 : Int32)), rv t, .unset, .unset] [(.ref o5), (.ref t)])) X43 hx rfl rfl rfl (pc0 := 149) (pc' := 152) (same := false) rfl (hb hby at_149) rfl (decide_eq_false fun q => ha149_44 (Value.ref.inj q)) (by decide) (by decide) k) ?_
        show Go p e below _ (T43.setTop (mkF m 152 #[iv p1, rv b, iv ((p1 &&& (2147483647 : Int32)) - (p1 &&& (2147483647 : Int32)) / (17 : Int32) * (17 : Int32)), rv t, .unset, .unset] []))
        refine Go.pre (fun _ k => XS.aloadN X43.here hx rfl (hb hby at_152) rfl rfl k) ?_
        show Go p e below _ (T43.setTop (mkF m 153 #[iv p1, rv b, iv ((p1 &&& (2147483647 : Int32)) - (p1 &&& (2147483647 : Int32)) / (17 : Int32) * (17 : Int32)), rv t, .unset, .unset] [(.ref t)]))
        obtain ⟨T46, X46, e46, st46⟩ := getS2 X43 hx hZ hown (host := "") (Or.inl (hw _ (List.mem_of_getElem? (i := 16) rfl))) Via.refl e43 (own_staK S_o6 K35) (g := (mkF m 153 #[iv p1, rv b, iv ((p1 &&& (2147483647 : Int32)) - (p1 &&& (2147483647 : Int32)) / (17 : Int32) * (17 : Int32)), rv t, .unset, .unset] [(.ref t)])) rfl (hb hby at_153)
        refine Go.pre st46 ?_
        show Go p e below _ (T46.setTop (mkF m 156 #[iv p1, rv b, iv ((p1 &&& (2147483647 : Int32)) - (p1 &&& (2147483647 : Int32)) / (17 : Int32) * (17 : Int32)), rv t, .unset, .unset] [(.ref o6), (.ref t)]))
        by_cases ha156_47 : t = o6
        · skip
          refine Go.pre (fun _ k => Jvm.RoadKit.acmp (g := (mkF m 156 #[iv p1, rv b, iv ((p1 &&& (2147483647 : Int32)) - (p1 &&& (2147483647 : Int32)) / (17 : Int32) * (17 : Int32)), rv t, .unset, .unset] [(.ref o6), (.ref t)])) X46 hx rfl rfl rfl (pc0 := 156) (pc' := 159) (same := true) rfl (hb hby at_156) rfl (decide_eq_true (congrArg Value.ref ha156_47)) (by decide) (by decide) k) ?_
          show Go p e below _ (T46.setTop (mkF m 159 #[iv p1, rv b, iv ((p1 &&& (2147483647 : Int32)) - (p1 &&& (2147483647 : Int32)) / (17 : Int32) * (17 : Int32)), rv t, .unset, .unset] []))
          refine Go.pre (fun _ k => XS.iconst X46.here hx rfl (hb hby at_159) k) ?_
          show Go p e below _ (T46.setTop (mkF m 160 #[iv p1, rv b, iv ((p1 &&& (2147483647 : Int32)) - (p1 &&& (2147483647 : Int32)) / (17 : Int32) * (17 : Int32)), rv t, .unset, .unset] [(.int (1 : Int32))]))
          refine Go.pre (fun _ k => XS.goto X46.here hx rfl (pc0 := 160) (pc' := 164) rfl (hb hby at_160) (by decide) (by decide) k) ?_
          show Go p e below _ (T46.setTop (mkF m 164 #[iv p1, rv b, iv ((p1 &&& (2147483647 : Int32)) - (p1 &&& (2147483647 : Int32)) / (17 : Int32) * (17 : Int32)), rv t, .unset, .unset] [(.int (1 : Int32))]))
          refine Go.pre (fun _ k => XS.istore X46.here hx rfl (hb hby at_164) rfl (l' := #[iv p1, rv b, iv ((p1 &&& (2147483647 : Int32)) - (p1 &&& (2147483647 : Int32)) / (17 : Int32) * (17 : Int32)), rv t, iv (1 : Int32), .unset]) rfl k) ?_
          show Go p e below _ (T46.setTop (mkF m 166 #[iv p1, rv b, iv ((p1 &&& (2147483647 : Int32)) - (p1 &&& (2147483647 : Int32)) / (17 : Int32) * (17 : Int32)), rv t, iv (1 : Int32), .unset] []))
          refine Go.pre (fun _ k => XS.iload X46.here hx rfl (hb hby at_166) rfl k) ?_
          show Go p e below _ (T46.setTop (mkF m 168 #[iv p1, rv b, iv ((p1 &&& (2147483647 : Int32)) - (p1 &&& (2147483647 : Int32)) / (17 : Int32) * (17 : Int32)), rv t, iv (1 : Int32), .unset] [(.int (1 : Int32))]))
          refine Go.pre (fun _ k => XS.ifYes X46.here hx rfl (pc0 := 168) (pc' := 178) rfl (hb hby at_168) rfl ((if0 _ _).trans (feq (by decide : ¬ ((1 : Int32) = (0 : Int32)))).2) (by decide) (by decide) k) ?_
          show Go p e below _ (T46.setTop (mkF m 178 #[iv p1, rv b, iv ((p1 &&& (2147483647 : Int32)) - (p1 &&& (2147483647 : Int32)) / (17 : Int32) * (17 : Int32)), rv t, iv (1 : Int32), .unset] []))
          refine Go.pre (fun _ k => XS.iconst X46.here hx rfl (hb hby at_178) k) ?_
          show Go p e below _ (T46.setTop (mkF m 179 #[iv p1, rv b, iv ((p1 &&& (2147483647 : Int32)) - (p1 &&& (2147483647 : Int32)) / (17 : Int32) * (17 : Int32)), rv t, iv (1 : Int32), .unset] [(.int (1 : Int32))]))
          refine Go.pre (fun _ k => XS.goto X46.here hx rfl (pc0 := 179) (pc' := 183) rfl (hb hby at_179) (by decide) (by decide) k) ?_
          show Go p e below _ (T46.setTop (mkF m 183 #[iv p1, rv b, iv ((p1 &&& (2147483647 : Int32)) - (p1 &&& (2147483647 : Int32)) / (17 : Int32) * (17 : Int32)), rv t, iv (1 : Int32), .unset] [(.int (1 : Int32))]))
          refine Go.pre (fun _ k => XS.istore X46.here hx rfl (hb hby at_183) rfl (l' := #[iv p1, rv b, iv ((p1 &&& (2147483647 : Int32)) - (p1 &&& (2147483647 : Int32)) / (17 : Int32) * (17 : Int32)), rv t, iv (1 : Int32), iv (1 : Int32)]) rfl k) ?_
          show Go p e below _ (T46.setTop (mkF m 185 #[iv p1, rv b, iv ((p1 &&& (2147483647 : Int32)) - (p1 &&& (2147483647 : Int32)) / (17 : Int32) * (17 : Int32)), rv t, iv (1 : Int32), iv (1 : Int32)] []))
          refine Go.pre (fun _ k => XS.aloadN X46.here hx rfl (hb hby at_185) rfl rfl k) ?_
          show Go p e below _ (T46.setTop (mkF m 186 #[iv p1, rv b, iv ((p1 &&& (2147483647 : Int32)) - (p1 &&& (2147483647 : Int32)) / (17 : Int32) * (17 : Int32)), rv t, iv (1 : Int32), iv (1 : Int32)] [(.ref t)]))
          obtain ⟨cq48, kq48, q48a, q48b, q48c⟩ := isOf hZ e46 (Exa.keep Et K35)
          obtain ⟨_, _, ⟨T48, L48, k48, n48⟩, -, X48, ⟨Lc48, hQ48, l48, y48, z48⟩, st48⟩ := X46.virtualBack hx (y := (⟨"com/example/latchline/latchline/Protocol$Type", "carriesDetail", "()Z"⟩ : MethodName)) (z := (⟨"com/example/latchline/latchline/Protocol$Type", "carriesDetail", "()Z"⟩ : MethodName)) hown (mvT hZ (hw _ (List.mem_of_getElem? (i := 39) rfl))) (mvT hZ (hw _ (List.mem_of_getElem? (i := 40) rfl))) (notFace_of_selects (args := #[]) (mvT hZ (hw _ (List.mem_of_getElem? (i := 42) rfl)))) (mvT hZ (hw _ (List.mem_of_getElem? (i := 42) rfl))) (mvT hZ (hw _ (List.mem_of_getElem? (i := 41) rfl))) (by decide) (backOf (W := 0) (rm_cd l Z a0 hw [] t d h35 n0 (Nat.le_trans Z0 K35.1) (Fld.keep Ft K35 nin0)) hZ (hw _ (List.mem_of_getElem? (i := 43) rfl)) (hw _ (List.mem_of_getElem? (i := 3) rfl)) (by decide) (by decide)) q48a q48c (g := (mkF m 186 #[iv p1, rv b, iv ((p1 &&& (2147483647 : Int32)) - (p1 &&& (2147483647 : Int32)) / (17 : Int32) * (17 : Int32)), rv t, iv (1 : Int32), iv (1 : Int32)] [(.ref t)])) rfl (by rw [hml]; rfl) (Steps.refl _) (argsL := []) (rest := []) (lenOf pd_0 rfl) rfl (by show 2 * 0 + _ ≤ _; exact Nat.le_of_eq rfl) (hb hby at_186) (fun _ _ => ⟨rfl, e46, (by decide : 1 + 0 ≤ _), (by decide : 17 + 0 ≤ _)⟩)
          dsimp only [Pt.U, Pt.locs, Pt.cells, Pt.slots] at X48 l48 y48 z48 st48 hQ48
          subst l48 y48 z48
          refine Go.pre (own_cut st48) ?_
          rcases hQ48 with ⟨hp48, rfl, N48q, eh48⟩ | ⟨hp48, rfl, N48q, eh48⟩
          · skip
            have N48 := Fr.app N35 N48q
            show Go p e below _ (T48.setTop (mkF m 189 #[iv p1, rv b, iv ((p1 &&& (2147483647 : Int32)) - (p1 &&& (2147483647 : Int32)) / (17 : Int32) * (17 : Int32)), rv t, iv (1 : Int32), iv (1 : Int32)] [(.int (1 : Int32))]))
            refine Go.pre (fun _ k => XS.iload X48.here hx rfl (hb hby at_189) rfl k) ?_
            show Go p e below _ (T48.setTop (mkF m 191 #[iv p1, rv b, iv ((p1 &&& (2147483647 : Int32)) - (p1 &&& (2147483647 : Int32)) / (17 : Int32) * (17 : Int32)), rv t, iv (1 : Int32), iv (1 : Int32)] [(.int (1 : Int32)), (.int (1 : Int32))]))
            refine Go.pre (fun _ k => XS.icmpNo X48.here hx rfl (hb hby at_191) rfl (teq (by decide : (1 : Int32) = (1 : Int32))).2 k) ?_
            show Go p e below _ (T48.setTop (mkF m 194 #[iv p1, rv b, iv ((p1 &&& (2147483647 : Int32)) - (p1 &&& (2147483647 : Int32)) / (17 : Int32) * (17 : Int32)), rv t, iv (1 : Int32), iv (1 : Int32)] []))
            refine Go.pre (fun _ k => XS.iconst X48.here hx rfl (hb hby at_194) k) ?_
            show Go p e below _ (T48.setTop (mkF m 195 #[iv p1, rv b, iv ((p1 &&& (2147483647 : Int32)) - (p1 &&& (2147483647 : Int32)) / (17 : Int32) * (17 : Int32)), rv t, iv (1 : Int32), iv (1 : Int32)] [(.int (1 : Int32))]))
            refine Go.pre (fun _ k => XS.goto X48.here hx rfl (pc0 := 195) (pc' := 199) rfl (hb hby at_195) (by decide) (by decide) k) ?_
            show Go p e below _ (T48.setTop (mkF m 199 #[iv p1, rv b, iv ((p1 &&& (2147483647 : Int32)) - (p1 &&& (2147483647 : Int32)) / (17 : Int32) * (17 : Int32)), rv t, iv (1 : Int32), iv (1 : Int32)] [(.int (1 : Int32))]))
            obtain ⟨fs, hr, hrun, hended, hW, hsame⟩ := X48.leave (v := some (.int (1 : Int32))) (fun h => by rw [Bd.returns] at h; cases h)
            refine Go.fin (retN X48 hx (t := .boolean) Bd.returns (by simp) (hb hby at_199) hr) ⟨hrun, hended, _, _, rfl, ?_, ⟨_, rfl⟩, hW, hsame.mono (by decide) (by decide)⟩
            exact ⟨rfl, N48⟩
          · skip
            have N48 := Fr.app N35 N48q
            show Go p e below _ (T48.setTop (mkF m 189 #[iv p1, rv b, iv ((p1 &&& (2147483647 : Int32)) - (p1 &&& (2147483647 : Int32)) / (17 : Int32) * (17 : Int32)), rv t, iv (1 : Int32), iv (1 : Int32)] [(.int (0 : Int32))]))
            refine Go.pre (fun _ k => XS.iload X48.here hx rfl (hb hby at_189) rfl k) ?_
            show Go p e below _ (T48.setTop (mkF m 191 #[iv p1, rv b, iv ((p1 &&& (2147483647 : Int32)) - (p1 &&& (2147483647 : Int32)) / (17 : Int32) * (17 : Int32)), rv t, iv (1 : Int32), iv (1 : Int32)] [(.int (1 : Int32)), (.int (0 : Int32))]))
            refine Go.pre (fun _ k => XS.icmpYes X48.here hx rfl (pc0 := 191) (pc' := 198) rfl (hb hby at_191) rfl (feq (by decide : ¬ ((0 : Int32) = (1 : Int32)))).2 (by decide) (by decide) k) ?_
            show Go p e below _ (T48.setTop (mkF m 198 #[iv p1, rv b, iv ((p1 &&& (2147483647 : Int32)) - (p1 &&& (2147483647 : Int32)) / (17 : Int32) * (17 : Int32)), rv t, iv (1 : Int32), iv (1 : Int32)] []))
            refine Go.pre (fun _ k => XS.iconst X48.here hx rfl (hb hby at_198) k) ?_
            show Go p e below _ (T48.setTop (mkF m 199 #[iv p1, rv b, iv ((p1 &&& (2147483647 : Int32)) - (p1 &&& (2147483647 : Int32)) / (17 : Int32) * (17 : Int32)), rv t, iv (1 : Int32), iv (1 : Int32)] [(.int (0 : Int32))]))
            exact absurd (hiff.mpr (Or.inr (Or.inr (Or.inr (Or.inl ha156_47))))) hp48
        · skip
          refine Go.pre (fun _ k => Jvm.RoadKit.acmp (g := (mkF m 156 #[iv p1, rv b, iv ((p1 &&& (2147483647 : Int32)) - (p1 &&& (2147483647 : Int32)) / (17 : Int32) * (17 : Int32)), rv t, .unset, .unset] [(.ref o6), (.ref t)])) X46 hx rfl rfl rfl (pc0 := 156) (pc' := 163) (same := false) rfl (hb hby at_156) rfl (decide_eq_false fun q => ha156_47 (Value.ref.inj q)) (by decide) (by decide) k) ?_
          show Go p e below _ (T46.setTop (mkF m 163 #[iv p1, rv b, iv ((p1 &&& (2147483647 : Int32)) - (p1 &&& (2147483647 : Int32)) / (17 : Int32) * (17 : Int32)), rv t, .unset, .unset] []))
          refine Go.pre (fun _ k => XS.iconst X46.here hx rfl (hb hby at_163) k) ?_
          show Go p e below _ (T46.setTop (mkF m 164 #[iv p1, rv b, iv ((p1 &&& (2147483647 : Int32)) - (p1 &&& (2147483647 : Int32)) / (17 : Int32) * (17 : Int32)), rv t, .unset, .unset] [(.int (0 : Int32))]))
          refine Go.pre (fun _ k => XS.istore X46.here hx rfl (hb hby at_164) rfl (l' := #[iv p1, rv b, iv ((p1 &&& (2147483647 : Int32)) - (p1 &&& (2147483647 : Int32)) / (17 : Int32) * (17 : Int32)), rv t, iv (0 : Int32), .unset]) rfl k) ?_
          show Go p e below _ (T46.setTop (mkF m 166 #[iv p1, rv b, iv ((p1 &&& (2147483647 : Int32)) - (p1 &&& (2147483647 : Int32)) / (17 : Int32) * (17 : Int32)), rv t, iv (0 : Int32), .unset] []))
          refine Go.pre (fun _ k => XS.iload X46.here hx rfl (hb hby at_166) rfl k) ?_
          show Go p e below _ (T46.setTop (mkF m 168 #[iv p1, rv b, iv ((p1 &&& (2147483647 : Int32)) - (p1 &&& (2147483647 : Int32)) / (17 : Int32) * (17 : Int32)), rv t, iv (0 : Int32), .unset] [(.int (0 : Int32))]))
          refine Go.pre (fun _ k => XS.ifNo X46.here hx rfl (hb hby at_168) rfl ((if0 _ _).trans (teq (by decide : (0 : Int32) = (0 : Int32))).2) k) ?_
          show Go p e below _ (T46.setTop (mkF m 171 #[iv p1, rv b, iv ((p1 &&& (2147483647 : Int32)) - (p1 &&& (2147483647 : Int32)) / (17 : Int32) * (17 : Int32)), rv t, iv (0 : Int32), .unset] []))
          refine Go.pre (fun _ k => XS.aloadN X46.here hx rfl (hb hby at_171) rfl rfl k) ?_
          show Go p e below _ (T46.setTop (mkF m 172 #[iv p1, rv b, iv ((p1 &&& (2147483647 : Int32)) - (p1 &&& (2147483647 : Int32)) / (17 : Int32) * (17 : Int32)), rv t, iv (0 : Int32), .unset] [(.ref t)]))
          obtain ⟨T49, X49, e49, st49⟩ := getS2 X46 hx hZ hown (host := "") (Or.inl (hw _ (List.mem_of_getElem? (i := 34) rfl))) Via.refl e46 (own_staK S_o15 K35) (g := (mkF m 172 #[iv p1, rv b, iv ((p1 &&& (2147483647 : Int32)) - (p1 &&& (2147483647 : Int32)) / (17 : Int32) * (17 : Int32)), rv t, iv (0 : Int32), .unset] [(.ref t)])) rfl (hb hby at_172)
          refine Go.pre st49 ?_
          show Go p e below _ (T49.setTop (mkF m 175 #[iv p1, rv b, iv ((p1 &&& (2147483647 : Int32)) - (p1 &&& (2147483647 : Int32)) / (17 : Int32) * (17 : Int32)), rv t, iv (0 : Int32), .unset] [(.ref o15), (.ref t)]))
          by_cases ha175_50 : t = o15
          · skip
            refine Go.pre (fun _ k => Jvm.RoadKit.acmp (g := (mkF m 175 #[iv p1, rv b, iv ((p1 &&& (2147483647 : Int32)) - (p1 &&& (2147483647 : Int32)) / (17 : Int32) * (17 : Int32)), rv t, iv (0 : Int32), .unset] [(.ref o15), (.ref t)])) X49 hx rfl rfl rfl (pc0 := 175) (pc' := 178) (same := true) rfl (hb hby at_175) rfl (decide_eq_true (congrArg Value.ref ha175_50)) (by decide) (by decide) k) ?_
            show Go p e below _ (T49.setTop (mkF m 178 #[iv p1, rv b, iv ((p1 &&& (2147483647 : Int32)) - (p1 &&& (2147483647 : Int32)) / (17 : Int32) * (17 : Int32)), rv t, iv (0 : Int32), .unset] []))
            refine Go.pre (fun _ k => XS.iconst X49.here hx rfl (hb hby at_178) k) ?_
            show Go p e below _ (T49.setTop (mkF m 179 #[iv p1, rv b, iv ((p1 &&& (2147483647 : Int32)) - (p1 &&& (2147483647 : Int32)) / (17 : Int32) * (17 : Int32)), rv t, iv (0 : Int32), .unset] [(.int (1 : Int32))]))
            refine Go.pre (fun _ k => XS.goto X49.here hx rfl (pc0 := 179) (pc' := 183) rfl (hb hby at_179) (by decide) (by decide) k) ?_
            show Go p e below _ (T49.setTop (mkF m 183 #[iv p1, rv b, iv ((p1 &&& (2147483647 : Int32)) - (p1 &&& (2147483647 : Int32)) / (17 : Int32) * (17 : Int32)), rv t, iv (0 : Int32), .unset] [(.int (1 : Int32))]))
            refine Go.pre (fun _ k => XS.istore X49.here hx rfl (hb hby at_183) rfl (l' := #[iv p1, rv b, iv ((p1 &&& (2147483647 : Int32)) - (p1 &&& (2147483647 : Int32)) / (17 : Int32) * (17 : Int32)), rv t, iv (0 : Int32), iv (1 : Int32)]) rfl k) ?_
            show Go p e below _ (T49.setTop (mkF m 185 #[iv p1, rv b, iv ((p1 &&& (2147483647 : Int32)) - (p1 &&& (2147483647 : Int32)) / (17 : Int32) * (17 : Int32)), rv t, iv (0 : Int32), iv (1 : Int32)] []))
            refine Go.pre (fun _ k => XS.aloadN X49.here hx rfl (hb hby at_185) rfl rfl k) ?_
            show Go p e below _ (T49.setTop (mkF m 186 #[iv p1, rv b, iv ((p1 &&& (2147483647 : Int32)) - (p1 &&& (2147483647 : Int32)) / (17 : Int32) * (17 : Int32)), rv t, iv (0 : Int32), iv (1 : Int32)] [(.ref t)]))
            obtain ⟨cq51, kq51, q51a, q51b, q51c⟩ := isOf hZ e49 (Exa.keep Et K35)
            obtain ⟨_, _, ⟨T51, L51, k51, n51⟩, -, X51, ⟨Lc51, hQ51, l51, y51, z51⟩, st51⟩ := X49.virtualBack hx (y := (⟨"com/example/latchline/latchline/Protocol$Type", "carriesDetail", "()Z"⟩ : MethodName)) (z := (⟨"com/example/latchline/latchline/Protocol$Type", "carriesDetail", "()Z"⟩ : MethodName)) hown (mvT hZ (hw _ (List.mem_of_getElem? (i := 39) rfl))) (mvT hZ (hw _ (List.mem_of_getElem? (i := 40) rfl))) (notFace_of_selects (args := #[]) (mvT hZ (hw _ (List.mem_of_getElem? (i := 42) rfl)))) (mvT hZ (hw _ (List.mem_of_getElem? (i := 42) rfl))) (mvT hZ (hw _ (List.mem_of_getElem? (i := 41) rfl))) (by decide) (backOf (W := 0) (rm_cd l Z a0 hw [] t d h35 n0 (Nat.le_trans Z0 K35.1) (Fld.keep Ft K35 nin0)) hZ (hw _ (List.mem_of_getElem? (i := 43) rfl)) (hw _ (List.mem_of_getElem? (i := 3) rfl)) (by decide) (by decide)) q51a q51c (g := (mkF m 186 #[iv p1, rv b, iv ((p1 &&& (2147483647 : Int32)) - (p1 &&& (2147483647 : Int32)) / (17 : Int32) * (17 : Int32)), rv t, iv (0 : Int32), iv (1 : Int32)] [(.ref t)])) rfl (by rw [hml]; rfl) (Steps.refl _) (argsL := []) (rest := []) (lenOf pd_0 rfl) rfl (by show 2 * 0 + _ ≤ _; exact Nat.le_of_eq rfl) (hb hby at_186) (fun _ _ => ⟨rfl, e49, (by decide : 1 + 0 ≤ _), (by decide : 17 + 0 ≤ _)⟩)
            dsimp only [Pt.U, Pt.locs, Pt.cells, Pt.slots] at X51 l51 y51 z51 st51 hQ51
            subst l51 y51 z51
            refine Go.pre (own_cut st51) ?_
            rcases hQ51 with ⟨hp51, rfl, N51q, eh51⟩ | ⟨hp51, rfl, N51q, eh51⟩
            · skip
              have N51 := Fr.app N35 N51q
              show Go p e below _ (T51.setTop (mkF m 189 #[iv p1, rv b, iv ((p1 &&& (2147483647 : Int32)) - (p1 &&& (2147483647 : Int32)) / (17 : Int32) * (17 : Int32)), rv t, iv (0 : Int32), iv (1 : Int32)] [(.int (1 : Int32))]))
              refine Go.pre (fun _ k => XS.iload X51.here hx rfl (hb hby at_189) rfl k) ?_
              show Go p e below _ (T51.setTop (mkF m 191 #[iv p1, rv b, iv ((p1 &&& (2147483647 : Int32)) - (p1 &&& (2147483647 : Int32)) / (17 : Int32) * (17 : Int32)), rv t, iv (0 : Int32), iv (1 : Int32)] [(.int (1 : Int32)), (.int (1 : Int32))]))
              refine Go.pre (fun _ k => XS.icmpNo X51.here hx rfl (hb hby at_191) rfl (teq (by decide : (1 : Int32) = (1 : Int32))).2 k) ?_
              show Go p e below _ (T51.setTop (mkF m 194 #[iv p1, rv b, iv ((p1 &&& (2147483647 : Int32)) - (p1 &&& (2147483647 : Int32)) / (17 : Int32) * (17 : Int32)), rv t, iv (0 : Int32), iv (1 : Int32)] []))
              refine Go.pre (fun _ k => XS.iconst X51.here hx rfl (hb hby at_194) k) ?_
              show Go p e below _ (T51.setTop (mkF m 195 #[iv p1, rv b, iv ((p1 &&& (2147483647 : Int32)) - (p1 &&& (2147483647 : Int32)) / (17 : Int32) * (17 : Int32)), rv t, iv (0 : Int32), iv (1 : Int32)] [(.int (1 : Int32))]))
              refine Go.pre (fun _ k => XS.goto X51.here hx rfl (pc0 := 195) (pc' := 199) rfl (hb hby at_195) (by decide) (by decide) k) ?_
              show Go p e below _ (T51.setTop (mkF m 199 #[iv p1, rv b, iv ((p1 &&& (2147483647 : Int32)) - (p1 &&& (2147483647 : Int32)) / (17 : Int32) * (17 : Int32)), rv t, iv (0 : Int32), iv (1 : Int32)] [(.int (1 : Int32))]))
              obtain ⟨fs, hr, hrun, hended, hW, hsame⟩ := X51.leave (v := some (.int (1 : Int32))) (fun h => by rw [Bd.returns] at h; cases h)
              refine Go.fin (retN X51 hx (t := .boolean) Bd.returns (by simp) (hb hby at_199) hr) ⟨hrun, hended, _, _, rfl, ?_, ⟨_, rfl⟩, hW, hsame.mono (by decide) (by decide)⟩
              exact ⟨rfl, N51⟩
            · skip
              have N51 := Fr.app N35 N51q
              show Go p e below _ (T51.setTop (mkF m 189 #[iv p1, rv b, iv ((p1 &&& (2147483647 : Int32)) - (p1 &&& (2147483647 : Int32)) / (17 : Int32) * (17 : Int32)), rv t, iv (0 : Int32), iv (1 : Int32)] [(.int (0 : Int32))]))
              refine Go.pre (fun _ k => XS.iload X51.here hx rfl (hb hby at_189) rfl k) ?_
              show Go p e below _ (T51.setTop (mkF m 191 #[iv p1, rv b, iv ((p1 &&& (2147483647 : Int32)) - (p1 &&& (2147483647 : Int32)) / (17 : Int32) * (17 : Int32)), rv t, iv (0 : Int32), iv (1 : Int32)] [(.int (1 : Int32)), (.int (0 : Int32))]))
              refine Go.pre (fun _ k => XS.icmpYes X51.here hx rfl (pc0 := 191) (pc' := 198) rfl (hb hby at_191) rfl (feq (by decide : ¬ ((0 : Int32) = (1 : Int32)))).2 (by decide) (by decide) k) ?_
              show Go p e below _ (T51.setTop (mkF m 198 #[iv p1, rv b, iv ((p1 &&& (2147483647 : Int32)) - (p1 &&& (2147483647 : Int32)) / (17 : Int32) * (17 : Int32)), rv t, iv (0 : Int32), iv (1 : Int32)] []))
              refine Go.pre (fun _ k => XS.iconst X51.here hx rfl (hb hby at_198) k) ?_
              show Go p e below _ (T51.setTop (mkF m 199 #[iv p1, rv b, iv ((p1 &&& (2147483647 : Int32)) - (p1 &&& (2147483647 : Int32)) / (17 : Int32) * (17 : Int32)), rv t, iv (0 : Int32), iv (1 : Int32)] [(.int (0 : Int32))]))
              exact absurd (hiff.mpr (Or.inr (Or.inr (Or.inr (Or.inr (ha175_50)))))) hp51
          · skip
            refine Go.pre (fun _ k => Jvm.RoadKit.acmp (g := (mkF m 175 #[iv p1, rv b, iv ((p1 &&& (2147483647 : Int32)) - (p1 &&& (2147483647 : Int32)) / (17 : Int32) * (17 : Int32)), rv t, iv (0 : Int32), .unset] [(.ref o15), (.ref t)])) X49 hx rfl rfl rfl (pc0 := 175) (pc' := 182) (same := false) rfl (hb hby at_175) rfl (decide_eq_false fun q => ha175_50 (Value.ref.inj q)) (by decide) (by decide) k) ?_
            show Go p e below _ (T49.setTop (mkF m 182 #[iv p1, rv b, iv ((p1 &&& (2147483647 : Int32)) - (p1 &&& (2147483647 : Int32)) / (17 : Int32) * (17 : Int32)), rv t, iv (0 : Int32), .unset] []))
            refine Go.pre (fun _ k => XS.iconst X49.here hx rfl (hb hby at_182) k) ?_
            show Go p e below _ (T49.setTop (mkF m 183 #[iv p1, rv b, iv ((p1 &&& (2147483647 : Int32)) - (p1 &&& (2147483647 : Int32)) / (17 : Int32) * (17 : Int32)), rv t, iv (0 : Int32), .unset] [(.int (0 : Int32))]))
            refine Go.pre (fun _ k => XS.istore X49.here hx rfl (hb hby at_183) rfl (l' := #[iv p1, rv b, iv ((p1 &&& (2147483647 : Int32)) - (p1 &&& (2147483647 : Int32)) / (17 : Int32) * (17 : Int32)), rv t, iv (0 : Int32), iv (0 : Int32)]) rfl k) ?_
            show Go p e below _ (T49.setTop (mkF m 185 #[iv p1, rv b, iv ((p1 &&& (2147483647 : Int32)) - (p1 &&& (2147483647 : Int32)) / (17 : Int32) * (17 : Int32)), rv t, iv (0 : Int32), iv (0 : Int32)] []))
            refine Go.pre (fun _ k => XS.aloadN X49.here hx rfl (hb hby at_185) rfl rfl k) ?_
            show Go p e below _ (T49.setTop (mkF m 186 #[iv p1, rv b, iv ((p1 &&& (2147483647 : Int32)) - (p1 &&& (2147483647 : Int32)) / (17 : Int32) * (17 : Int32)), rv t, iv (0 : Int32), iv (0 : Int32)] [(.ref t)]))
            obtain ⟨cq52, kq52, q52a, q52b, q52c⟩ := isOf hZ e49 (Exa.keep Et K35)
            obtain ⟨_, _, ⟨T52, L52, k52, n52⟩, -, X52, ⟨Lc52, hQ52, l52, y52, z52⟩, st52⟩ := X49.virtualBack hx (y := (⟨"com/example/latchline/latchline/Protocol$Type", "carriesDetail", "()Z"⟩ : MethodName)) (z := (⟨"com/example/latchline/latchline/Protocol$Type", "carriesDetail", "()Z"⟩ : MethodName)) hown (mvT hZ (hw _ (List.mem_of_getElem? (i := 39) rfl))) (mvT hZ (hw _ (List.mem_of_getElem? (i := 40) rfl))) (notFace_of_selects (args := #[]) (mvT hZ (hw _ (List.mem_of_getElem? (i := 42) rfl)))) (mvT hZ (hw _ (List.mem_of_getElem? (i := 42) rfl))) (mvT hZ (hw _ (List.mem_of_getElem? (i := 41) rfl))) (by decide) (backOf (W := 0) (rm_cd l Z a0 hw [] t d h35 n0 (Nat.le_trans Z0 K35.1) (Fld.keep Ft K35 nin0)) hZ (hw _ (List.mem_of_getElem? (i := 43) rfl)) (hw _ (List.mem_of_getElem? (i := 3) rfl)) (by decide) (by decide)) q52a q52c (g := (mkF m 186 #[iv p1, rv b, iv ((p1 &&& (2147483647 : Int32)) - (p1 &&& (2147483647 : Int32)) / (17 : Int32) * (17 : Int32)), rv t, iv (0 : Int32), iv (0 : Int32)] [(.ref t)])) rfl (by rw [hml]; rfl) (Steps.refl _) (argsL := []) (rest := []) (lenOf pd_0 rfl) rfl (by show 2 * 0 + _ ≤ _; exact Nat.le_of_eq rfl) (hb hby at_186) (fun _ _ => ⟨rfl, e49, (by decide : 1 + 0 ≤ _), (by decide : 17 + 0 ≤ _)⟩)
            dsimp only [Pt.U, Pt.locs, Pt.cells, Pt.slots] at X52 l52 y52 z52 st52 hQ52
            subst l52 y52 z52
            refine Go.pre (own_cut st52) ?_
            rcases hQ52 with ⟨hp52, rfl, N52q, eh52⟩ | ⟨hp52, rfl, N52q, eh52⟩
            · skip
              have N52 := Fr.app N35 N52q
              show Go p e below _ (T52.setTop (mkF m 189 #[iv p1, rv b, iv ((p1 &&& (2147483647 : Int32)) - (p1 &&& (2147483647 : Int32)) / (17 : Int32) * (17 : Int32)), rv t, iv (0 : Int32), iv (0 : Int32)] [(.int (1 : Int32))]))
              refine Go.pre (fun _ k => XS.iload X52.here hx rfl (hb hby at_189) rfl k) ?_
              show Go p e below _ (T52.setTop (mkF m 191 #[iv p1, rv b, iv ((p1 &&& (2147483647 : Int32)) - (p1 &&& (2147483647 : Int32)) / (17 : Int32) * (17 : Int32)), rv t, iv (0 : Int32), iv (0 : Int32)] [(.int (0 : Int32)), (.int (1 : Int32))]))
              refine Go.pre (fun _ k => XS.icmpYes X52.here hx rfl (pc0 := 191) (pc' := 198) rfl (hb hby at_191) rfl (feq (by decide : ¬ ((1 : Int32) = (0 : Int32)))).2 (by decide) (by decide) k) ?_
              show Go p e below _ (T52.setTop (mkF m 198 #[iv p1, rv b, iv ((p1 &&& (2147483647 : Int32)) - (p1 &&& (2147483647 : Int32)) / (17 : Int32) * (17 : Int32)), rv t, iv (0 : Int32), iv (0 : Int32)] []))
              refine Go.pre (fun _ k => XS.iconst X52.here hx rfl (hb hby at_198) k) ?_
              show Go p e below _ (T52.setTop (mkF m 199 #[iv p1, rv b, iv ((p1 &&& (2147483647 : Int32)) - (p1 &&& (2147483647 : Int32)) / (17 : Int32) * (17 : Int32)), rv t, iv (0 : Int32), iv (0 : Int32)] [(.int (0 : Int32))]))
              rcases hiff.mp hp52 with q | q | q | q | q
              · exact absurd q ha135_38
              · exact absurd q ha142_41
              · exact absurd q ha149_44
              · exact absurd q ha156_47
              · exact absurd q ha175_50
            · skip
              have N52 := Fr.app N35 N52q
              show Go p e below _ (T52.setTop (mkF m 189 #[iv p1, rv b, iv ((p1 &&& (2147483647 : Int32)) - (p1 &&& (2147483647 : Int32)) / (17 : Int32) * (17 : Int32)), rv t, iv (0 : Int32), iv (0 : Int32)] [(.int (0 : Int32))]))
              refine Go.pre (fun _ k => XS.iload X52.here hx rfl (hb hby at_189) rfl k) ?_
              show Go p e below _ (T52.setTop (mkF m 191 #[iv p1, rv b, iv ((p1 &&& (2147483647 : Int32)) - (p1 &&& (2147483647 : Int32)) / (17 : Int32) * (17 : Int32)), rv t, iv (0 : Int32), iv (0 : Int32)] [(.int (0 : Int32)), (.int (0 : Int32))]))
              refine Go.pre (fun _ k => XS.icmpNo X52.here hx rfl (hb hby at_191) rfl (teq (by decide : (0 : Int32) = (0 : Int32))).2 k) ?_
              show Go p e below _ (T52.setTop (mkF m 194 #[iv p1, rv b, iv ((p1 &&& (2147483647 : Int32)) - (p1 &&& (2147483647 : Int32)) / (17 : Int32) * (17 : Int32)), rv t, iv (0 : Int32), iv (0 : Int32)] []))
              refine Go.pre (fun _ k => XS.iconst X52.here hx rfl (hb hby at_194) k) ?_
              show Go p e below _ (T52.setTop (mkF m 195 #[iv p1, rv b, iv ((p1 &&& (2147483647 : Int32)) - (p1 &&& (2147483647 : Int32)) / (17 : Int32) * (17 : Int32)), rv t, iv (0 : Int32), iv (0 : Int32)] [(.int (1 : Int32))]))
              refine Go.pre (fun _ k => XS.goto X52.here hx rfl (pc0 := 195) (pc' := 199) rfl (hb hby at_195) (by decide) (by decide) k) ?_
              show Go p e below _ (T52.setTop (mkF m 199 #[iv p1, rv b, iv ((p1 &&& (2147483647 : Int32)) - (p1 &&& (2147483647 : Int32)) / (17 : Int32) * (17 : Int32)), rv t, iv (0 : Int32), iv (0 : Int32)] [(.int (1 : Int32))]))
              obtain ⟨fs, hr, hrun, hended, hW, hsame⟩ := X52.leave (v := some (.int (1 : Int32))) (fun h => by rw [Bd.returns] at h; cases h)
              refine Go.fin (retN X52 hx (t := .boolean) Bd.returns (by simp) (hb hby at_199) hr) ⟨hrun, hended, _, _, rfl, ?_, ⟨_, rfl⟩, hW, hsame.mono (by decide) (by decide)⟩
              exact ⟨rfl, N52⟩

set_option maxRecDepth 65536 in
set_option maxHeartbeats 40000000 in
theorem comes_1 {Post : Tables → Env → Array Value → State → Outcome → State → Prop} (hpost : ∀ tb e args s v u, (limb_1_1.after args s (.returned v) u = true ∧ limb_1_2.after args s (.returned v) u = true ∧ True) → FrameEnd s (.returned v) u (Jvm.fieldLocs frame_1_writes args s ++ Jvm.arrayLocs frame_1_arrays args s ++ Jvm.staticLocs frame_1_statics s) 16 128 → Post tb e args s (.returned v) u) :
    ArmFor flags0 classFile x code maxLocals ret World_1 tables_1 room_1 Calls_1 rest_1 Pre_1 Post := by
  intro l hfl _ _ p e ha hc hk s m args below hf hA hF happ hP
  obtain ⟨hcalls, hrest, hpre⟩ := hP
  obtain ⟨-, -, -, hnamed, -, -, -, hat⟩ := (Spec.applies_iff hf).mp happ
  obtain ⟨hg, hn⟩ := and_e (Cond.before_iff.mp (show (Jvm.Cond.and given_1 narrow_1).before args s = true from hpre))
  obtain ⟨g0, r0⟩ := and_e hg
  obtain ⟨w0, rfl⟩ : ∃ w0 : Value, args = #[w0] := by
    have hs : args.size = 1 := by simpa [Cond.value, given_1] using g0
    obtain ⟨L⟩ := args
    match L, hs with
    | [w0], _ => exact ⟨w0, rfl⟩
  have hw := fun d (hd : d ∈ tables_1) => atoms_spec (ws := Jvm.Cond.code x code maxLocals ret :: tables_1) hat d (List.mem_cons_of_mem _ hd)
  obtain ⟨i0, ei0⟩ := is_v r0
  obtain rfl : w0 = (.int i0) := Option.some.inj ei0
  obtain ⟨c1, c2⟩ := and_e hn
  obtain ⟨c3, c4⟩ := and_e c2
  obtain ⟨c5, c6⟩ := and_e c4
  obtain ⟨c7, c8⟩ := and_e c6
  obtain ⟨c9, c10⟩ := and_e c8
  obtain ⟨c11, c12⟩ := and_e c10
  obtain ⟨c13, c14⟩ := and_e c12
  obtain ⟨c15, c16⟩ := and_e c14
  obtain ⟨c17, c18⟩ := and_e c16
  obtain ⟨c19, c20⟩ := and_e c18
  obtain ⟨c21, c22⟩ := and_e c20
  obtain ⟨c23, c24⟩ := and_e c22
  obtain ⟨c25, c26⟩ := and_e c24
  obtain ⟨c27, c28⟩ := and_e c26
  obtain ⟨c29, c30⟩ := and_e c28
  obtain ⟨c31, c32⟩ := and_e c30
  obtain ⟨c33, c34⟩ := and_e c32
  obtain ⟨c35, c36⟩ := and_e c34
  obtain ⟨c37, c38⟩ := and_e c36
  obtain ⟨c39, c40⟩ := and_e c38
  obtain ⟨c41, c42⟩ := and_e c40
  obtain ⟨c43, c44⟩ := and_e c42
  obtain ⟨c45, c46⟩ := and_e c44
  obtain ⟨c47, c48⟩ := and_e c46
  obtain ⟨c49, c50⟩ := and_e c48
  obtain ⟨c51, c52⟩ := and_e c50
  obtain ⟨c53, c54⟩ := and_e c52
  obtain ⟨c55, c56⟩ := and_e c54
  obtain ⟨c57, c58⟩ := and_e c56
  obtain ⟨c59, c60⟩ := and_e c58
  obtain ⟨c61, c62⟩ := and_e c60
  obtain ⟨c63, c64⟩ := and_e c62
  obtain ⟨c65, c66⟩ := and_e c64
  obtain ⟨c67, c68⟩ := and_e c66
  obtain ⟨c69, c70⟩ := and_e c68
  obtain ⟨c71, c72⟩ := and_e c70
  obtain ⟨c73, c74⟩ := and_e c72
  obtain ⟨c75, c76⟩ := and_e c74
  obtain ⟨c77, c78⟩ := and_e c76
  obtain ⟨c79, c80⟩ := and_e c78
  obtain ⟨c81, c82⟩ := and_e c80
  obtain ⟨c83, c84⟩ := and_e c82
  obtain ⟨c85, c86⟩ := and_e c84
  obtain ⟨c87, c88⟩ := and_e c86
  obtain ⟨c89, c90⟩ := and_e c88
  obtain ⟨c91, c92⟩ := and_e c90
  obtain ⟨c93, c94⟩ := and_e c92
  obtain ⟨c95, c96⟩ := and_e c94
  obtain ⟨c97, c98⟩ := and_e c96
  obtain ⟨c99, c100⟩ := and_e c98
  obtain ⟨a_ACQUIRE, ev_ACQUIRE⟩ := exa_v c1
  have E_ACQUIRE := Exa.start ev_ACQUIRE c1
  have S_ACQUIRE := Sta.start ev_ACQUIRE (Or.inr ⟨(hw _ (List.mem_of_getElem? (i := 3) rfl)), (hw _ (List.mem_of_getElem? (i := 4) rfl))⟩)
  obtain ⟨a_RELEASE, ev_RELEASE⟩ := exa_v c3
  have E_RELEASE := Exa.start ev_RELEASE c3
  have S_RELEASE := Sta.start ev_RELEASE (Or.inr ⟨(hw _ (List.mem_of_getElem? (i := 3) rfl)), (hw _ (List.mem_of_getElem? (i := 7) rfl))⟩)
  obtain ⟨a_PING, ev_PING⟩ := exa_v c5
  have E_PING := Exa.start ev_PING c5
  have S_PING := Sta.start ev_PING (Or.inr ⟨(hw _ (List.mem_of_getElem? (i := 3) rfl)), (hw _ (List.mem_of_getElem? (i := 9) rfl))⟩)
  obtain ⟨a_TRY, ev_TRY⟩ := exa_v c7
  have E_TRY := Exa.start ev_TRY c7
  have S_TRY := Sta.start ev_TRY (Or.inr ⟨(hw _ (List.mem_of_getElem? (i := 3) rfl)), (hw _ (List.mem_of_getElem? (i := 11) rfl))⟩)
  obtain ⟨a_CANCEL, ev_CANCEL⟩ := exa_v c9
  have E_CANCEL := Exa.start ev_CANCEL c9
  have S_CANCEL := Sta.start ev_CANCEL (Or.inr ⟨(hw _ (List.mem_of_getElem? (i := 3) rfl)), (hw _ (List.mem_of_getElem? (i := 13) rfl))⟩)
  obtain ⟨a_ACQUIRE_SHARED, ev_ACQUIRE_SHARED⟩ := exa_v c11
  have E_ACQUIRE_SHARED := Exa.start ev_ACQUIRE_SHARED c11
  have S_ACQUIRE_SHARED := Sta.start ev_ACQUIRE_SHARED (Or.inr ⟨(hw _ (List.mem_of_getElem? (i := 3) rfl)), (hw _ (List.mem_of_getElem? (i := 15) rfl))⟩)
  obtain ⟨a_TRY_SHARED, ev_TRY_SHARED⟩ := exa_v c13
  have E_TRY_SHARED := Exa.start ev_TRY_SHARED c13
  have S_TRY_SHARED := Sta.start ev_TRY_SHARED (Or.inr ⟨(hw _ (List.mem_of_getElem? (i := 3) rfl)), (hw _ (List.mem_of_getElem? (i := 17) rfl))⟩)
  obtain ⟨a_RELEASE_SHARED, ev_RELEASE_SHARED⟩ := exa_v c15
  have E_RELEASE_SHARED := Exa.start ev_RELEASE_SHARED c15
  have S_RELEASE_SHARED := Sta.start ev_RELEASE_SHARED (Or.inr ⟨(hw _ (List.mem_of_getElem? (i := 3) rfl)), (hw _ (List.mem_of_getElem? (i := 19) rfl))⟩)
  obtain ⟨a_GRANTED, ev_GRANTED⟩ := exa_v c17
  have E_GRANTED := Exa.start ev_GRANTED c17
  have S_GRANTED := Sta.start ev_GRANTED (Or.inr ⟨(hw _ (List.mem_of_getElem? (i := 3) rfl)), (hw _ (List.mem_of_getElem? (i := 21) rfl))⟩)
  obtain ⟨a_QUEUED, ev_QUEUED⟩ := exa_v c19
  have E_QUEUED := Exa.start ev_QUEUED c19
  have S_QUEUED := Sta.start ev_QUEUED (Or.inr ⟨(hw _ (List.mem_of_getElem? (i := 3) rfl)), (hw _ (List.mem_of_getElem? (i := 23) rfl))⟩)
  obtain ⟨a_RELEASED, ev_RELEASED⟩ := exa_v c21
  have E_RELEASED := Exa.start ev_RELEASED c21
  have S_RELEASED := Sta.start ev_RELEASED (Or.inr ⟨(hw _ (List.mem_of_getElem? (i := 3) rfl)), (hw _ (List.mem_of_getElem? (i := 25) rfl))⟩)
  obtain ⟨a_PONG, ev_PONG⟩ := exa_v c23
  have E_PONG := Exa.start ev_PONG c23
  have S_PONG := Sta.start ev_PONG (Or.inr ⟨(hw _ (List.mem_of_getElem? (i := 3) rfl)), (hw _ (List.mem_of_getElem? (i := 27) rfl))⟩)
  obtain ⟨a_EXPIRED, ev_EXPIRED⟩ := exa_v c25
  have E_EXPIRED := Exa.start ev_EXPIRED c25
  have S_EXPIRED := Sta.start ev_EXPIRED (Or.inr ⟨(hw _ (List.mem_of_getElem? (i := 3) rfl)), (hw _ (List.mem_of_getElem? (i := 29) rfl))⟩)
  obtain ⟨a_BUSY, ev_BUSY⟩ := exa_v c27
  have E_BUSY := Exa.start ev_BUSY c27
  have S_BUSY := Sta.start ev_BUSY (Or.inr ⟨(hw _ (List.mem_of_getElem? (i := 3) rfl)), (hw _ (List.mem_of_getElem? (i := 31) rfl))⟩)
  obtain ⟨a_CANCELLED, ev_CANCELLED⟩ := exa_v c29
  have E_CANCELLED := Exa.start ev_CANCELLED c29
  have S_CANCELLED := Sta.start ev_CANCELLED (Or.inr ⟨(hw _ (List.mem_of_getElem? (i := 3) rfl)), (hw _ (List.mem_of_getElem? (i := 33) rfl))⟩)
  obtain ⟨a_DEADLOCK, ev_DEADLOCK⟩ := exa_v c31
  have E_DEADLOCK := Exa.start ev_DEADLOCK c31
  have S_DEADLOCK := Sta.start ev_DEADLOCK (Or.inr ⟨(hw _ (List.mem_of_getElem? (i := 3) rfl)), (hw _ (List.mem_of_getElem? (i := 35) rfl))⟩)
  obtain ⟨a_ERROR, ev_ERROR⟩ := exa_v c33
  have E_ERROR := Exa.start ev_ERROR c33
  have S_ERROR := Sta.start ev_ERROR (Or.inr ⟨(hw _ (List.mem_of_getElem? (i := 3) rfl)), (hw _ (List.mem_of_getElem? (i := 37) rfl))⟩)
  have F_ACQUIRE_maxDetailBytes := own_fldI ev_ACQUIRE c35
  have F_TRY_ordinal := own_fldI ev_TRY c37
  have F_ACQUIRE_ordinal := own_fldI ev_ACQUIRE c39
  have F_TRY_maxDetailBytes := own_fldI ev_TRY c41
  have F_GRANTED_ordinal := own_fldI ev_GRANTED c43
  have F_ACQUIRE_SHARED_ordinal := own_fldI ev_ACQUIRE_SHARED c45
  have F_TRY_SHARED_ordinal := own_fldI ev_TRY_SHARED c47
  have F_DEADLOCK_ordinal := own_fldI ev_DEADLOCK c49
  have F_GRANTED_maxDetailBytes := own_fldI ev_GRANTED c51
  have F_QUEUED_ordinal := own_fldI ev_QUEUED c53
  have F_QUEUED_maxDetailBytes := own_fldI ev_QUEUED c55
  have F_TRY_SHARED_maxDetailBytes := own_fldI ev_TRY_SHARED c57
  have F_RELEASE_SHARED_ordinal := own_fldI ev_RELEASE_SHARED c59
  have F_RELEASE_SHARED_maxDetailBytes := own_fldI ev_RELEASE_SHARED c61
  have F_PING_ordinal := own_fldI ev_PING c63
  have F_PING_maxDetailBytes := own_fldI ev_PING c65
  have F_PONG_ordinal := own_fldI ev_PONG c67
  have F_PONG_maxDetailBytes := own_fldI ev_PONG c69
  have F_RELEASE_ordinal := own_fldI ev_RELEASE c71
  have F_RELEASE_maxDetailBytes := own_fldI ev_RELEASE c73
  have F_BUSY_ordinal := own_fldI ev_BUSY c75
  have F_BUSY_maxDetailBytes := own_fldI ev_BUSY c77
  have F_CANCEL_ordinal := own_fldI ev_CANCEL c79
  have F_CANCEL_maxDetailBytes := own_fldI ev_CANCEL c81
  have F_RELEASED_ordinal := own_fldI ev_RELEASED c83
  have F_RELEASED_maxDetailBytes := own_fldI ev_RELEASED c85
  have F_ERROR_ordinal := own_fldI ev_ERROR c87
  have F_ERROR_maxDetailBytes := own_fldI ev_ERROR c89
  have F_DEADLOCK_maxDetailBytes := own_fldI ev_DEADLOCK c91
  have F_ACQUIRE_SHARED_maxDetailBytes := own_fldI ev_ACQUIRE_SHARED c93
  have F_CANCELLED_ordinal := own_fldI ev_CANCELLED c95
  have F_CANCELLED_maxDetailBytes := own_fldI ev_CANCELLED c97
  have F_EXPIRED_ordinal := own_fldI ev_EXPIRED c99
  have F_EXPIRED_maxDetailBytes := own_fldI ev_EXPIRED c100
  have hall : ∀ t ∈ [a_ACQUIRE, a_RELEASE, a_PING, a_TRY, a_CANCEL, a_ACQUIRE_SHARED, a_TRY_SHARED, a_RELEASE_SHARED, a_GRANTED, a_QUEUED, a_RELEASED, a_PONG, a_EXPIRED, a_BUSY, a_CANCELLED, a_DEADLOCK, a_ERROR], Exa s s.heap t "com/example/latchline/latchline/Protocol$Type" ∧ ∃ d : Int32, Fld s s.heap t "com/example/latchline/latchline/Protocol$Type" "maxDetailBytes" "I" (.int d) ∧ ((0 : Int32) < d ↔ t = a_ACQUIRE ∨ t = a_TRY ∨ t = a_ACQUIRE_SHARED ∨ t = a_TRY_SHARED ∨ t = a_DEADLOCK) := by
    intro t ht
    simp only [List.mem_cons, List.not_mem_nil, or_false] at ht
    rcases ht with rfl | rfl | rfl | rfl | rfl | rfl | rfl | rfl | rfl | rfl | rfl | rfl | rfl | rfl | rfl | rfl | rfl
    · exact ⟨E_ACQUIRE, _, F_ACQUIRE_maxDetailBytes, ⟨fun _ => Or.inl rfl, fun _ => by decide⟩⟩
    · exact ⟨E_RELEASE, _, F_RELEASE_maxDetailBytes, ⟨fun q => absurd q (by decide), fun q => by
        rcases q with q | q | q | q | q
        · exact absurd q (Fld.ne F_RELEASE_ordinal F_ACQUIRE_ordinal (by decide))
        · exact absurd q (Fld.ne F_RELEASE_ordinal F_TRY_ordinal (by decide))
        · exact absurd q (Fld.ne F_RELEASE_ordinal F_ACQUIRE_SHARED_ordinal (by decide))
        · exact absurd q (Fld.ne F_RELEASE_ordinal F_TRY_SHARED_ordinal (by decide))
        · exact absurd q (Fld.ne F_RELEASE_ordinal F_DEADLOCK_ordinal (by decide))⟩⟩
    · exact ⟨E_PING, _, F_PING_maxDetailBytes, ⟨fun q => absurd q (by decide), fun q => by
        rcases q with q | q | q | q | q
        · exact absurd q (Fld.ne F_PING_ordinal F_ACQUIRE_ordinal (by decide))
        · exact absurd q (Fld.ne F_PING_ordinal F_TRY_ordinal (by decide))
        · exact absurd q (Fld.ne F_PING_ordinal F_ACQUIRE_SHARED_ordinal (by decide))
        · exact absurd q (Fld.ne F_PING_ordinal F_TRY_SHARED_ordinal (by decide))
        · exact absurd q (Fld.ne F_PING_ordinal F_DEADLOCK_ordinal (by decide))⟩⟩
    · exact ⟨E_TRY, _, F_TRY_maxDetailBytes, ⟨fun _ => Or.inr (Or.inl rfl), fun _ => by decide⟩⟩
    · exact ⟨E_CANCEL, _, F_CANCEL_maxDetailBytes, ⟨fun q => absurd q (by decide), fun q => by
        rcases q with q | q | q | q | q
        · exact absurd q (Fld.ne F_CANCEL_ordinal F_ACQUIRE_ordinal (by decide))
        · exact absurd q (Fld.ne F_CANCEL_ordinal F_TRY_ordinal (by decide))
        · exact absurd q (Fld.ne F_CANCEL_ordinal F_ACQUIRE_SHARED_ordinal (by decide))
        · exact absurd q (Fld.ne F_CANCEL_ordinal F_TRY_SHARED_ordinal (by decide))
        · exact absurd q (Fld.ne F_CANCEL_ordinal F_DEADLOCK_ordinal (by decide))⟩⟩
    · exact ⟨E_ACQUIRE_SHARED, _, F_ACQUIRE_SHARED_maxDetailBytes, ⟨fun _ => Or.inr (Or.inr (Or.inl rfl)), fun _ => by decide⟩⟩
    · exact ⟨E_TRY_SHARED, _, F_TRY_SHARED_maxDetailBytes, ⟨fun _ => Or.inr (Or.inr (Or.inr (Or.inl rfl))), fun _ => by decide⟩⟩
    · exact ⟨E_RELEASE_SHARED, _, F_RELEASE_SHARED_maxDetailBytes, ⟨fun q => absurd q (by decide), fun q => by
        rcases q with q | q | q | q | q
        · exact absurd q (Fld.ne F_RELEASE_SHARED_ordinal F_ACQUIRE_ordinal (by decide))
        · exact absurd q (Fld.ne F_RELEASE_SHARED_ordinal F_TRY_ordinal (by decide))
        · exact absurd q (Fld.ne F_RELEASE_SHARED_ordinal F_ACQUIRE_SHARED_ordinal (by decide))
        · exact absurd q (Fld.ne F_RELEASE_SHARED_ordinal F_TRY_SHARED_ordinal (by decide))
        · exact absurd q (Fld.ne F_RELEASE_SHARED_ordinal F_DEADLOCK_ordinal (by decide))⟩⟩
    · exact ⟨E_GRANTED, _, F_GRANTED_maxDetailBytes, ⟨fun q => absurd q (by decide), fun q => by
        rcases q with q | q | q | q | q
        · exact absurd q (Fld.ne F_GRANTED_ordinal F_ACQUIRE_ordinal (by decide))
        · exact absurd q (Fld.ne F_GRANTED_ordinal F_TRY_ordinal (by decide))
        · exact absurd q (Fld.ne F_GRANTED_ordinal F_ACQUIRE_SHARED_ordinal (by decide))
        · exact absurd q (Fld.ne F_GRANTED_ordinal F_TRY_SHARED_ordinal (by decide))
        · exact absurd q (Fld.ne F_GRANTED_ordinal F_DEADLOCK_ordinal (by decide))⟩⟩
    · exact ⟨E_QUEUED, _, F_QUEUED_maxDetailBytes, ⟨fun q => absurd q (by decide), fun q => by
        rcases q with q | q | q | q | q
        · exact absurd q (Fld.ne F_QUEUED_ordinal F_ACQUIRE_ordinal (by decide))
        · exact absurd q (Fld.ne F_QUEUED_ordinal F_TRY_ordinal (by decide))
        · exact absurd q (Fld.ne F_QUEUED_ordinal F_ACQUIRE_SHARED_ordinal (by decide))
        · exact absurd q (Fld.ne F_QUEUED_ordinal F_TRY_SHARED_ordinal (by decide))
        · exact absurd q (Fld.ne F_QUEUED_ordinal F_DEADLOCK_ordinal (by decide))⟩⟩
    · exact ⟨E_RELEASED, _, F_RELEASED_maxDetailBytes, ⟨fun q => absurd q (by decide), fun q => by
        rcases q with q | q | q | q | q
        · exact absurd q (Fld.ne F_RELEASED_ordinal F_ACQUIRE_ordinal (by decide))
        · exact absurd q (Fld.ne F_RELEASED_ordinal F_TRY_ordinal (by decide))
        · exact absurd q (Fld.ne F_RELEASED_ordinal F_ACQUIRE_SHARED_ordinal (by decide))
        · exact absurd q (Fld.ne F_RELEASED_ordinal F_TRY_SHARED_ordinal (by decide))
        · exact absurd q (Fld.ne F_RELEASED_ordinal F_DEADLOCK_ordinal (by decide))⟩⟩
    · exact ⟨E_PONG, _, F_PONG_maxDetailBytes, ⟨fun q => absurd q (by decide), fun q => by
        rcases q with q | q | q | q | q
        · exact absurd q (Fld.ne F_PONG_ordinal F_ACQUIRE_ordinal (by decide))
        · exact absurd q (Fld.ne F_PONG_ordinal F_TRY_ordinal (by decide))
        · exact absurd q (Fld.ne F_PONG_ordinal F_ACQUIRE_SHARED_ordinal (by decide))
        · exact absurd q (Fld.ne F_PONG_ordinal F_TRY_SHARED_ordinal (by decide))
        · exact absurd q (Fld.ne F_PONG_ordinal F_DEADLOCK_ordinal (by decide))⟩⟩
    · exact ⟨E_EXPIRED, _, F_EXPIRED_maxDetailBytes, ⟨fun q => absurd q (by decide), fun q => by
        rcases q with q | q | q | q | q
        · exact absurd q (Fld.ne F_EXPIRED_ordinal F_ACQUIRE_ordinal (by decide))
        · exact absurd q (Fld.ne F_EXPIRED_ordinal F_TRY_ordinal (by decide))
        · exact absurd q (Fld.ne F_EXPIRED_ordinal F_ACQUIRE_SHARED_ordinal (by decide))
        · exact absurd q (Fld.ne F_EXPIRED_ordinal F_TRY_SHARED_ordinal (by decide))
        · exact absurd q (Fld.ne F_EXPIRED_ordinal F_DEADLOCK_ordinal (by decide))⟩⟩
    · exact ⟨E_BUSY, _, F_BUSY_maxDetailBytes, ⟨fun q => absurd q (by decide), fun q => by
        rcases q with q | q | q | q | q
        · exact absurd q (Fld.ne F_BUSY_ordinal F_ACQUIRE_ordinal (by decide))
        · exact absurd q (Fld.ne F_BUSY_ordinal F_TRY_ordinal (by decide))
        · exact absurd q (Fld.ne F_BUSY_ordinal F_ACQUIRE_SHARED_ordinal (by decide))
        · exact absurd q (Fld.ne F_BUSY_ordinal F_TRY_SHARED_ordinal (by decide))
        · exact absurd q (Fld.ne F_BUSY_ordinal F_DEADLOCK_ordinal (by decide))⟩⟩
    · exact ⟨E_CANCELLED, _, F_CANCELLED_maxDetailBytes, ⟨fun q => absurd q (by decide), fun q => by
        rcases q with q | q | q | q | q
        · exact absurd q (Fld.ne F_CANCELLED_ordinal F_ACQUIRE_ordinal (by decide))
        · exact absurd q (Fld.ne F_CANCELLED_ordinal F_TRY_ordinal (by decide))
        · exact absurd q (Fld.ne F_CANCELLED_ordinal F_ACQUIRE_SHARED_ordinal (by decide))
        · exact absurd q (Fld.ne F_CANCELLED_ordinal F_TRY_SHARED_ordinal (by decide))
        · exact absurd q (Fld.ne F_CANCELLED_ordinal F_DEADLOCK_ordinal (by decide))⟩⟩
    · exact ⟨E_DEADLOCK, _, F_DEADLOCK_maxDetailBytes, ⟨fun _ => Or.inr (Or.inr (Or.inr (Or.inr (rfl)))), fun _ => by decide⟩⟩
    · exact ⟨E_ERROR, _, F_ERROR_maxDetailBytes, ⟨fun q => absurd q (by decide), fun q => by
        rcases q with q | q | q | q | q
        · exact absurd q (Fld.ne F_ERROR_ordinal F_ACQUIRE_ordinal (by decide))
        · exact absurd q (Fld.ne F_ERROR_ordinal F_TRY_ordinal (by decide))
        · exact absurd q (Fld.ne F_ERROR_ordinal F_ACQUIRE_SHARED_ordinal (by decide))
        · exact absurd q (Fld.ne F_ERROR_ordinal F_TRY_SHARED_ordinal (by decide))
        · exact absurd q (Fld.ne F_ERROR_ordinal F_DEADLOCK_ordinal (by decide))⟩⟩
  obtain ⟨n, o, h1, h2, h3, _, L, rfl, ⟨rfl, N⟩, hq⟩ := rm_law l s _ hw tables_1 i0 a_ACQUIRE a_RELEASE a_PING a_TRY a_CANCEL a_ACQUIRE_SHARED a_TRY_SHARED a_RELEASE_SHARED a_GRANTED a_QUEUED a_RELEASED a_PONG a_EXPIRED a_BUSY a_CANCELLED a_DEADLOCK a_ERROR s.heap s.heap.size (Nat.le_refl _) S_ACQUIRE S_RELEASE S_PING S_TRY S_CANCEL S_ACQUIRE_SHARED S_TRY_SHARED S_RELEASE_SHARED S_GRANTED S_QUEUED S_RELEASED S_PONG S_EXPIRED S_BUSY S_CANCELLED S_DEADLOCK S_ERROR E_ACQUIRE E_RELEASE E_PING E_TRY E_CANCEL E_ACQUIRE_SHARED E_TRY_SHARED E_RELEASE_SHARED E_GRANTED E_QUEUED E_RELEASED E_PONG E_EXPIRED E_BUSY E_CANCELLED E_DEADLOCK E_ERROR hall p e ha hc hk s m _ below hf ((Spec.applies_iff_loose hf).mp happ).1 ⟨rfl, State.Warmed39.refl s, rfl⟩ trivial
  refine ⟨n, _, h1, h2, h3, hpost _ _ _ _ _ _ ⟨Cond.after_iff.mpr rfl, Cond.after_iff.mpr (eq_i res_at (Term.int_eval (1)) rfl), trivial⟩ ⟨hq.1, hq.2.1, (hq.2.2.sift fun y hy => Or.inr (N y hy)).mono (by decide) (by decide)⟩⟩
theorem main_1_1 : Claimed_1_1 := comes_1 fun _ _ _ _ _ _ h hF => ⟨h.1, hF⟩
theorem main_1_2 : Claimed_1_2 := comes_1 fun _ _ _ _ _ _ h hF => ⟨h.2.1, hF⟩
end Jvm.Pilot.@@N@@
namespace Jvm.Pilot.@@N@@
open Jvm Jvm.ClassFile Sem Op Lib Jvm.Free Jvm.Stand Jvm.Pilot.@@N@@.Jvm.D
/-! MADE BY PROGRAM (witnessworld.py) out of the Statement's table words and the real class files: 13 classes; the members and pool entries that the words name. The judged class is class 1, her method 1. -/
namespace start1
open Jvm.ClassFile
def u (s : String) : CpInfo := .utf8 (stringToUtf16 s)
/-- a pool by its gaps: so many unusable entries, then the entry; so many at the end -/
def gap : Nat → List CpInfo → List CpInfo
  | 0, r => r
  | n + 1, r => .unusable :: gap n r
def poolList (es : List (Nat × CpInfo)) (last : Nat) : List CpInfo := es.foldr (fun e r => gap e.1 (e.2 :: r)) (gap last [])
def pool (es : List (Nat × CpInfo)) (last : Nat) : Array CpInfo := ⟨poolList es last⟩
def fileOf (pool : Array CpInfo) (this : Nat) (attrs : Array Attribute := #[]) (ms : Array MethodInfo := #[]) (fl : Nat := 33) (sup : Nat := 0) (ifs : Array Nat := #[]) (fds : Array FieldInfo := #[]) : ClassFile where
  minorVersion := 0
  majorVersion := 65
  constantPool := pool
  accessFlags := fl
  thisClass := this
  superClass := sup
  interfaces := ifs
  fields := fds
  methods := ms
  attributes := attrs
def plain (name : String) (sup : Option ClassId) : Class where
  name := name
  kind := .ordinary
  loader := none
  accessFlags := 33
  super := sup
  interfaces := #[]
  cf := none
  fields := #[]
  methods := #[]
  instanceTypes := #[]
  staticTypes := #[]
  resolved := #[]
  callSites := []
  init := .initialized
  statics := none
  mirror := none

def pool0 : Array CpInfo := pool [(5, u "<init>"), (0, u "()V"), (1, .class_ 10), (1, u "java/lang/Object")] 113

def k0m0 : Method := { name := "<init>", desc := "()V", sig := { parameters := [], returnType := none }, accessFlags := 1, code := none }
/-- java/lang/Object -/
def k0 : Class := { plain "java/lang/Object" none with
  accessFlags := 33
  interfaces := #[]
  cf := some (fileOf pool0 8 #[] #[{ accessFlags := 1, nameIndex := 5, descriptorIndex := 6, attributes := #[] }] 33 0 #[] #[])
  fields := #[]
  methods := #[k0m0]
  instanceTypes := #[]
  staticTypes := #[]
  resolved := Array.replicate 124 none
  statics := none }

def pool1 : Array CpInfo := pool [(2, .class_ 4), (1, u "java/lang/Object"), (0, u "<init>"), (0, u "()V"), (0, .class_ 8), (0, u "com/example/latchline/latchline/Protocol$Type"), (0, .fieldref 7 10), (0, .nameAndType 11 12), (0, u "ACQUIRE"), (0, u "Lcom/example/latchline/latchline/Protocol$Type;"), (0, .fieldref 7 14), (0, .nameAndType 15 12), (0, u "RELEASE"), (0, .fieldref 7 17), (0, .nameAndType 18 12), (0, u "PING"), (0, .fieldref 7 20), (0, .nameAndType 21 12), (0, u "TRY"), (0, .fieldref 7 23), (0, .nameAndType 24 12), (0, u "CANCEL"), (0, .fieldref 7 26), (0, .nameAndType 27 12), (0, u "ACQUIRE_SHARED"), (0, .fieldref 7 29), (0, .nameAndType 30 12), (0, u "TRY_SHARED"), (0, .fieldref 7 32), (0, .nameAndType 33 12), (0, u "RELEASE_SHARED"), (0, .fieldref 7 35), (0, .nameAndType 36 12), (0, u "GRANTED"), (0, .fieldref 7 38), (0, .nameAndType 39 12), (0, u "QUEUED"), (0, .fieldref 7 41), (0, .nameAndType 42 12), (0, u "RELEASED"), (0, .fieldref 7 44), (0, .nameAndType 45 12), (0, u "PONG"), (0, .fieldref 7 47), (0, .nameAndType 48 12), (0, u "EXPIRED"), (0, .fieldref 7 50), (0, .nameAndType 51 12), (0, u "BUSY"), (0, .fieldref 7 53), (0, .nameAndType 54 12), (0, u "CANCELLED"), (0, .fieldref 7 56), (0, .nameAndType 57 12), (0, u "DEADLOCK"), (0, .fieldref 7 59), (0, .nameAndType 60 12), (0, u "ERROR"), (0, .integer 2147483647), (0, .methodref 7 63), (0, .nameAndType 64 65), (0, u "carriesDetail"), (0, u "()Z"), (0, .class_ 67), (0, u "com/example/latchline/latchline/TypeCarriesDetailPinLaw"), (2, u "law"), (0, u "(I)Z")] 9

def k1m0 : Method := { name := "<init>", desc := "()V", sig := { parameters := [], returnType := none }, accessFlags := 1, code := none }
def k1c1 : Code := { maxStack := 4, maxLocals := 6, code := code, exceptionTable := #[], attributes := #[] }
def k1m1 : Method := { name := "law", desc := "(I)Z", sig := { parameters := [.int], returnType := some .boolean }, accessFlags := 9, code := some k1c1 }
/-- com/example/latchline/latchline/TypeCarriesDetailPinLaw -/
def k1 : Class := { plain "com/example/latchline/latchline/TypeCarriesDetailPinLaw" (some 0) with
  accessFlags := 49
  interfaces := #[]
  cf := some (fileOf pool1 66 #[] #[{ accessFlags := 1, nameIndex := 5, descriptorIndex := 6, attributes := #[] }, { accessFlags := 9, nameIndex := 70, descriptorIndex := 71, attributes := #[] }] 49 2 #[] #[])
  fields := #[]
  methods := #[k1m0, k1m1]
  instanceTypes := #[]
  staticTypes := #[]
  resolved := Array.replicate 81 none
  statics := none }

def pool2 : Array CpInfo := pool [(1, .class_ 2), (0, u "java/lang/constant/Constable"), (0, .class_ 4), (0, u "java/lang/Object")] 6

/-- java/lang/constant/Constable -/
def k2 : Class := { plain "java/lang/constant/Constable" (some 0) with
  accessFlags := 1537
  interfaces := #[]
  cf := some (fileOf pool2 1 #[] #[] 1537 3 #[] #[])
  fields := #[]
  methods := #[]
  instanceTypes := #[]
  staticTypes := #[]
  resolved := Array.replicate 11 none
  statics := none }

def pool3 : Array CpInfo := pool [(1, .class_ 2), (0, u "java/lang/Comparable"), (0, .class_ 4), (0, u "java/lang/Object")] 7

/-- java/lang/Comparable -/
def k3 : Class := { plain "java/lang/Comparable" (some 0) with
  accessFlags := 1537
  interfaces := #[]
  cf := some (fileOf pool3 1 #[] #[] 1537 3 #[] #[])
  fields := #[]
  methods := #[]
  instanceTypes := #[]
  staticTypes := #[]
  resolved := Array.replicate 12 none
  statics := none }

def pool4 : Array CpInfo := pool [(1, .class_ 2), (0, u "java/io/Serializable"), (0, .class_ 4), (0, u "java/lang/Object")] 2

/-- java/io/Serializable -/
def k4 : Class := { plain "java/io/Serializable" (some 0) with
  accessFlags := 1537
  interfaces := #[]
  cf := some (fileOf pool4 1 #[] #[] 1537 3 #[] #[])
  fields := #[]
  methods := #[]
  instanceTypes := #[]
  staticTypes := #[]
  resolved := Array.replicate 7 none
  statics := none }

def pool5 : Array CpInfo := pool [(2, .class_ 4), (1, u "java/lang/Enum"), (0, u "name"), (0, u "Ljava/lang/String;"), (2, u "ordinal"), (0, u "I"), (1, .class_ 14), (1, u "java/lang/Object"), (4, u "hash"), (86, .class_ 108), (1, u "java/lang/Enum$EnumDesc"), (2, .class_ 112), (0, u "java/lang/constant/Constable"), (0, .class_ 114), (0, u "java/lang/Comparable"), (0, .class_ 116), (0, u "java/io/Serializable")] 87

/-- java/lang/Enum -/
def k5 : Class := { plain "java/lang/Enum" (some 0) with
  accessFlags := 1057
  interfaces := #[2, 3, 4]
  cf := some (fileOf pool5 2 #[.nestMembers #[106]] #[] 1057 12 #[111, 113, 115] #[{ accessFlags := 18, nameIndex := 5, descriptorIndex := 6, attributes := #[] }, { accessFlags := 18, nameIndex := 9, descriptorIndex := 10, attributes := #[] }, { accessFlags := 2, nameIndex := 19, descriptorIndex := 10, attributes := #[] }])
  fields := #[{ name := "name", type := (.object "java/lang/String"), accessFlags := 18, slot := 0, constantValue := 0 }, { name := "ordinal", type := .int, accessFlags := 18, slot := 1, constantValue := 0 }, { name := "hash", type := .int, accessFlags := 2, slot := 2, constantValue := 0 }]
  methods := #[]
  instanceTypes := #[(.object "java/lang/String"), .int, .int]
  staticTypes := #[]
  resolved := Array.replicate 204 none
  statics := none }

def pool6 : Array CpInfo := pool [(1, .class_ 2), (0, u "com/example/latchline/latchline/Protocol"), (0, .class_ 4), (0, u "com/example/latchline/latchline/Protocol$Type"), (2, u "ACQUIRE"), (0, u "Lcom/example/latchline/latchline/Protocol$Type;"), (2, u "RELEASE"), (2, u "PING"), (2, u "TRY"), (2, u "CANCEL"), (2, u "ACQUIRE_SHARED"), (2, u "TRY_SHARED"), (2, u "RELEASE_SHARED"), (2, u "GRANTED"), (2, u "QUEUED"), (2, u "RELEASED"), (2, u "PONG"), (2, u "EXPIRED"), (2, u "BUSY"), (2, u "CANCELLED"), (2, u "DEADLOCK"), (2, u "ERROR"), (2, u "$VALUES"), (0, u "[Lcom/example/latchline/latchline/Protocol$Type;"), (6, .class_ 69), (1, u "java/lang/Enum"), (11, u "code"), (0, u "I"), (2, u "carriesLockName"), (0, u "Z"), (0, .fieldref 3 88), (0, .nameAndType 89 82), (0, u "maxDetailBytes"), (2, u "sharedFormOf"), (11, u "ALL"), (59, u "()Z"), (1, u "carriesDetail")] 24

def k6c0 : Code := { maxStack := 1, maxLocals := 1, code := prog_43_method_11_code, exceptionTable := #[], attributes := #[] }
def k6m0 : Method := { name := "carriesDetail", desc := "()Z", sig := { parameters := [], returnType := some .boolean }, accessFlags := 0, code := some k6c0 }
/-- com/example/latchline/latchline/Protocol$Type -/
def k6 : Class := { plain "com/example/latchline/latchline/Protocol$Type" (some 5) with
  accessFlags := 16432
  interfaces := #[]
  cf := some (fileOf pool6 3 #[.nestHost 1] #[{ accessFlags := 0, nameIndex := 166, descriptorIndex := 164, attributes := #[] }] 16432 67 #[] #[{ accessFlags := 16409, nameIndex := 7, descriptorIndex := 8, attributes := #[] }, { accessFlags := 16409, nameIndex := 11, descriptorIndex := 8, attributes := #[] }, { accessFlags := 16409, nameIndex := 14, descriptorIndex := 8, attributes := #[] }, { accessFlags := 16409, nameIndex := 17, descriptorIndex := 8, attributes := #[] }, { accessFlags := 16409, nameIndex := 20, descriptorIndex := 8, attributes := #[] }, { accessFlags := 16409, nameIndex := 23, descriptorIndex := 8, attributes := #[] }, { accessFlags := 16409, nameIndex := 26, descriptorIndex := 8, attributes := #[] }, { accessFlags := 16409, nameIndex := 29, descriptorIndex := 8, attributes := #[] }, { accessFlags := 16409, nameIndex := 32, descriptorIndex := 8, attributes := #[] }, { accessFlags := 16409, nameIndex := 35, descriptorIndex := 8, attributes := #[] }, { accessFlags := 16409, nameIndex := 38, descriptorIndex := 8, attributes := #[] }, { accessFlags := 16409, nameIndex := 41, descriptorIndex := 8, attributes := #[] }, { accessFlags := 16409, nameIndex := 44, descriptorIndex := 8, attributes := #[] }, { accessFlags := 16409, nameIndex := 47, descriptorIndex := 8, attributes := #[] }, { accessFlags := 16409, nameIndex := 50, descriptorIndex := 8, attributes := #[] }, { accessFlags := 16409, nameIndex := 53, descriptorIndex := 8, attributes := #[] }, { accessFlags := 16409, nameIndex := 56, descriptorIndex := 8, attributes := #[] }, { accessFlags := 18, nameIndex := 81, descriptorIndex := 82, attributes := #[] }, { accessFlags := 18, nameIndex := 85, descriptorIndex := 86, attributes := #[] }, { accessFlags := 18, nameIndex := 89, descriptorIndex := 82, attributes := #[] }, { accessFlags := 18, nameIndex := 92, descriptorIndex := 8, attributes := #[] }, { accessFlags := 26, nameIndex := 104, descriptorIndex := 60, attributes := #[] }, { accessFlags := 4122, nameIndex := 59, descriptorIndex := 60, attributes := #[] }])
  fields := #[{ name := "ACQUIRE", type := (.object "com/example/latchline/latchline/Protocol$Type"), accessFlags := 16409, slot := 0, constantValue := 0 }, { name := "RELEASE", type := (.object "com/example/latchline/latchline/Protocol$Type"), accessFlags := 16409, slot := 1, constantValue := 0 }, { name := "PING", type := (.object "com/example/latchline/latchline/Protocol$Type"), accessFlags := 16409, slot := 2, constantValue := 0 }, { name := "TRY", type := (.object "com/example/latchline/latchline/Protocol$Type"), accessFlags := 16409, slot := 3, constantValue := 0 }, { name := "CANCEL", type := (.object "com/example/latchline/latchline/Protocol$Type"), accessFlags := 16409, slot := 4, constantValue := 0 }, { name := "ACQUIRE_SHARED", type := (.object "com/example/latchline/latchline/Protocol$Type"), accessFlags := 16409, slot := 5, constantValue := 0 }, { name := "TRY_SHARED", type := (.object "com/example/latchline/latchline/Protocol$Type"), accessFlags := 16409, slot := 6, constantValue := 0 }, { name := "RELEASE_SHARED", type := (.object "com/example/latchline/latchline/Protocol$Type"), accessFlags := 16409, slot := 7, constantValue := 0 }, { name := "GRANTED", type := (.object "com/example/latchline/latchline/Protocol$Type"), accessFlags := 16409, slot := 8, constantValue := 0 }, { name := "QUEUED", type := (.object "com/example/latchline/latchline/Protocol$Type"), accessFlags := 16409, slot := 9, constantValue := 0 }, { name := "RELEASED", type := (.object "com/example/latchline/latchline/Protocol$Type"), accessFlags := 16409, slot := 10, constantValue := 0 }, { name := "PONG", type := (.object "com/example/latchline/latchline/Protocol$Type"), accessFlags := 16409, slot := 11, constantValue := 0 }, { name := "EXPIRED", type := (.object "com/example/latchline/latchline/Protocol$Type"), accessFlags := 16409, slot := 12, constantValue := 0 }, { name := "BUSY", type := (.object "com/example/latchline/latchline/Protocol$Type"), accessFlags := 16409, slot := 13, constantValue := 0 }, { name := "CANCELLED", type := (.object "com/example/latchline/latchline/Protocol$Type"), accessFlags := 16409, slot := 14, constantValue := 0 }, { name := "DEADLOCK", type := (.object "com/example/latchline/latchline/Protocol$Type"), accessFlags := 16409, slot := 15, constantValue := 0 }, { name := "ERROR", type := (.object "com/example/latchline/latchline/Protocol$Type"), accessFlags := 16409, slot := 16, constantValue := 0 }, { name := "code", type := .int, accessFlags := 18, slot := 3, constantValue := 0 }, { name := "carriesLockName", type := .boolean, accessFlags := 18, slot := 4, constantValue := 0 }, { name := "maxDetailBytes", type := .int, accessFlags := 18, slot := 5, constantValue := 0 }, { name := "sharedFormOf", type := (.object "com/example/latchline/latchline/Protocol$Type"), accessFlags := 18, slot := 6, constantValue := 0 }, { name := "ALL", type := (.array (.object "com/example/latchline/latchline/Protocol$Type")), accessFlags := 26, slot := 17, constantValue := 0 }, { name := "$VALUES", type := (.array (.object "com/example/latchline/latchline/Protocol$Type")), accessFlags := 4122, slot := 18, constantValue := 0 }]
  methods := #[k6m0]
  instanceTypes := #[(.object "java/lang/String"), .int, .int, .int, .boolean, .int, (.object "com/example/latchline/latchline/Protocol$Type")]
  staticTypes := #[(.object "com/example/latchline/latchline/Protocol$Type"), (.object "com/example/latchline/latchline/Protocol$Type"), (.object "com/example/latchline/latchline/Protocol$Type"), (.object "com/example/latchline/latchline/Protocol$Type"), (.object "com/example/latchline/latchline/Protocol$Type"), (.object "com/example/latchline/latchline/Protocol$Type"), (.object "com/example/latchline/latchline/Protocol$Type"), (.object "com/example/latchline/latchline/Protocol$Type"), (.object "com/example/latchline/latchline/Protocol$Type"), (.object "com/example/latchline/latchline/Protocol$Type"), (.object "com/example/latchline/latchline/Protocol$Type"), (.object "com/example/latchline/latchline/Protocol$Type"), (.object "com/example/latchline/latchline/Protocol$Type"), (.object "com/example/latchline/latchline/Protocol$Type"), (.object "com/example/latchline/latchline/Protocol$Type"), (.object "com/example/latchline/latchline/Protocol$Type"), (.object "com/example/latchline/latchline/Protocol$Type"), (.array (.object "com/example/latchline/latchline/Protocol$Type")), (.array (.object "com/example/latchline/latchline/Protocol$Type"))]
  resolved := Array.replicate 191 none
  statics := some 0 }

def pool7 : Array CpInfo := pool [(1, u "java/lang/Cloneable"), (0, .class_ 1), (0, u "java/lang/Object"), (0, .class_ 3)] 3

/-- java/lang/Cloneable -/
def k7 : Class := { plain "java/lang/Cloneable" (some 0) with
  accessFlags := 1537
  interfaces := #[]
  cf := some (fileOf pool7 2 #[] #[] 1537 4 #[] #[])
  fields := #[]
  methods := #[]
  instanceTypes := #[]
  staticTypes := #[]
  resolved := Array.replicate 8 none
  statics := none }

/-- the primitive byte -/
def k8 : Class := { plain "byte" none with kind := .primitive 'B', accessFlags := 0x411 }
/-- [B -/
def k9 : Class := { plain "[B" (some 0) with kind := .array 8 .byte, interfaces := #[7, 4], accessFlags := 1041 }

/-- the primitive int -/
def k10 : Class := { plain "int" none with kind := .primitive 'I', accessFlags := 0x411 }
/-- [I -/
def k11 : Class := { plain "[I" (some 0) with kind := .array 10 .int, interfaces := #[7, 4], accessFlags := 1041 }

/-- [Lcom/example/latchline/latchline/Protocol$Type; -/
def k12 : Class := { plain "[Lcom/example/latchline/latchline/Protocol$Type;" (some 0) with kind := .array 6 (.object "com/example/latchline/latchline/Protocol$Type"), interfaces := #[7, 4], accessFlags := 1041 }

def heap : Heap := #[{ cls := 6, slots := #[.ref 1, .ref 2, .ref 3, .ref 4, .ref 5, .ref 6, .ref 7, .ref 8, .ref 9, .ref 10, .ref 11, .ref 12, .ref 13, .ref 14, .ref 15, .ref 16, .ref 17, .null, .null], vm := .statics 6 },
  { cls := 6, slots := #[.null, .int 0, .int 0, .int 0, .int 0, .int 255, .null], vm := .none },
  { cls := 6, slots := #[.null, .int 1, .int 0, .int 1, .int 0, .int 0, .null], vm := .none },
  { cls := 6, slots := #[.null, .int 2, .int 0, .int 2, .int 0, .int 0, .null], vm := .none },
  { cls := 6, slots := #[.null, .int 3, .int 0, .int 3, .int 0, .int 255, .null], vm := .none },
  { cls := 6, slots := #[.null, .int 4, .int 0, .int 4, .int 0, .int 0, .null], vm := .none },
  { cls := 6, slots := #[.null, .int 5, .int 0, .int 5, .int 0, .int 255, .null], vm := .none },
  { cls := 6, slots := #[.null, .int 6, .int 0, .int 6, .int 0, .int 255, .null], vm := .none },
  { cls := 6, slots := #[.null, .int 7, .int 0, .int 7, .int 0, .int 0, .null], vm := .none },
  { cls := 6, slots := #[.null, .int 8, .int 0, .int 8, .int 0, .int 0, .null], vm := .none },
  { cls := 6, slots := #[.null, .int 9, .int 0, .int 9, .int 0, .int 0, .null], vm := .none },
  { cls := 6, slots := #[.null, .int 10, .int 0, .int 10, .int 0, .int 0, .null], vm := .none },
  { cls := 6, slots := #[.null, .int 11, .int 0, .int 11, .int 0, .int 0, .null], vm := .none },
  { cls := 6, slots := #[.null, .int 12, .int 0, .int 12, .int 0, .int 0, .null], vm := .none },
  { cls := 6, slots := #[.null, .int 13, .int 0, .int 13, .int 0, .int 0, .null], vm := .none },
  { cls := 6, slots := #[.null, .int 14, .int 0, .int 14, .int 0, .int 0, .null], vm := .none },
  { cls := 6, slots := #[.null, .int 15, .int 0, .int 15, .int 0, .int 4096, .null], vm := .none },
  { cls := 6, slots := #[.null, .int 16, .int 0, .int 16, .int 0, .int 0, .null], vm := .none }]
def classes : Array Class := #[k0, k1, k2, k3, k4, k5, k6, k7, k8, k9, k10, k11, k12]
def interned : List (Array UInt16 × Addr) := []
def slotsUsed : Nat := 138
def theMethod : MethodId := ⟨1, 1⟩
def args0 : Array Value := #[.int 5]
def aboutOver (below : List Frame) : State where
  vm := { classes := classes, interned := interned.toArray }
  heap := heap
  slotsUsed := slotsUsed
  threads := #[{ frames := .invoking theMethod args0 :: below }]
def below0 : List Frame := [.native { method := ⟨0, 0⟩, args := #[] }]
def about1 : State := aboutOver below0
def p0 : Program := .bare "" "" ""
def e0 : Env := launch0.env 0 0 0
theorem w_frames : about1.frames = Frame.invoking theMethod args0 :: below0 := rfl
set_option maxRecDepth 65536 in
theorem w_args : argsFit about1.vm theMethod args0 = true := by decide +kernel
set_option maxRecDepth 65536 in
theorem w_heap : heapFits about1 = true := by decide +kernel
set_option maxRecDepth 65536 in
theorem w_runnable : about1.curStatus? = some .runnable := by decide +kernel
set_option maxRecDepth 65536 in
theorem w_alone : about1.alone = true := by decide +kernel
set_option maxRecDepth 65536 in
theorem w_named : about1.methodNamed? x = some theMethod := by decide +kernel
set_option maxRecDepth 65536 in
theorem w_hears : about1.hears theMethod below0 = true := by decide +kernel
set_option maxRecDepth 65536 in
theorem w_ripe : about1.ripe theMethod args0 below0 = true := by decide +kernel
theorem w_running : about1.status = .running := rfl
set_option maxRecDepth 65536 in
theorem w_room : about1.hasRoom e0.platform room_1 = true :=
  launch0.hasRoom_least _ room_1 (by decide +kernel) (by decide +kernel) (by decide +kernel) (by decide +kernel) (by decide +kernel) (by decide +kernel)
theorem allAtoms_all (ts : List Jvm.Cond) (a : Array Jvm.Value) (st : Jvm.State) : (allAtoms ts).before a st = ts.all (fun c => c.before a st) := by
  induction ts with
  | nil => rfl
  | cons c t ih =>
    show (Jvm.Cond.and c (allAtoms t)).before a st = _
    rw [Jvm.Cond.before_and, ih, List.all_cons]
def words1 : List Jvm.Cond := Jvm.Cond.code x code maxLocals ret :: tables_1
/-- a 'code' word, met by the world's own term for the bytes: nothing is compared byte by byte -/
theorem code_word {y : MethodName} {bytes : ByteArray} {mx : Nat} {rt : Option FieldType} {a : Array Value} {s : State} {m : MethodId} {meth : Method} {c : Code} (h1 : s.methodNamed? y = some m) (h2 : s.vm.method? m = some meth) (h3 : meth.code = some c) (h4 : c.code = bytes)
    (h5 : (c.maxLocals == mx && c.exceptionTable.isEmpty && decide (c.maxStack ≤ mostOperands) && decide (meth.sig.returnType = rt) && !meth.locks && decide (parseMethodDescriptor y.desc = some meth.sig)) = true) : (Jvm.Cond.code y bytes mx rt).before a s = true := by
  simp only [Bool.and_eq_true, beq_iff_eq, Bool.not_eq_true', decide_eq_true_eq] at h5
  obtain ⟨⟨⟨⟨⟨g1, g2⟩, g3⟩, g4⟩, g5⟩, g6⟩ := h5
  simp [Cond.before, Cond.holds, Cond.value, h1, h2, h3, h4, g1, g2, g3, g4, g5, g6]
def isCode : Jvm.Cond → Bool
  | .code _ _ _ _ => true
  | _ => false
theorem all_split {L : List Jvm.Cond} {P : Jvm.Cond → Bool} (h1 : L.all (fun c => isCode c || P c) = true) (h2 : ∀ c ∈ L.filter isCode, P c = true) : L.all P = true := by
  refine List.all_eq_true.mpr fun c hc => ?_
  have h := List.all_eq_true.mp h1 c hc
  rcases Bool.eq_false_or_eq_true (isCode c) with hi | hi
  · exact h2 c (List.mem_filter.mpr ⟨hc, hi⟩)
  · simpa [hi] using h
set_option maxRecDepth 65536 in
theorem w_c0 : (Jvm.Cond.code x code maxLocals ret).before args0 about1 = true := code_word (m := ⟨1, 1⟩) (meth := k1m1) (c := k1c1) (by decide +kernel) rfl rfl rfl (by decide +kernel)
set_option maxRecDepth 65536 in
theorem w_c1 : (Jvm.Cond.code ({ cls := "com/example/latchline/latchline/Protocol$Type", name := "carriesDetail", desc := "()Z" } : Jvm.MethodName) prog_43_method_11_code (1 : Nat) (Option.some Jvm.ClassFile.FieldType.boolean)).before args0 about1 = true := code_word (m := ⟨6, 0⟩) (meth := k6m0) (c := k6c0) (by decide +kernel) rfl rfl rfl (by decide +kernel)
def codes1 : List Jvm.Cond := [Jvm.Cond.code x code maxLocals ret, Jvm.Cond.code ({ cls := "com/example/latchline/latchline/Protocol$Type", name := "carriesDetail", desc := "()Z" } : Jvm.MethodName) prog_43_method_11_code (1 : Nat) (Option.some Jvm.ClassFile.FieldType.boolean)]
set_option maxRecDepth 65536 in
theorem codes_eq : words1.filter isCode = codes1 := rfl
theorem w_codes : ∀ c ∈ words1.filter isCode, c.before args0 about1 = true := by
  rw [codes_eq]
  intro c hc
  simp only [codes1, List.mem_cons, List.not_mem_nil, or_false] at hc
  rcases hc with rfl | rfl
  · exact w_c0
  · exact w_c1
set_option maxRecDepth 65536 in
theorem w_t1 : (words1.take 24).all (fun c => isCode c || c.before args0 about1) = true := by decide +kernel
set_option maxRecDepth 65536 in
theorem w_t2 : (words1.drop 24).all (fun c => isCode c || c.before args0 about1) = true := by decide +kernel
theorem w_tables : (allAtoms (Jvm.Cond.code x code maxLocals ret :: tables_1)).before args0 about1 = true := by
  rw [allAtoms_all]
  show words1.all (fun c => c.before args0 about1) = true
  refine all_split ?_ w_codes
  rw [← List.take_append_drop 24 words1, List.all_append, w_t1, w_t2]
  rfl
set_option maxRecDepth 65536 in
theorem w_case : (Jvm.Cond.and given_1 narrow_1).before args0 about1 = true := by decide +kernel
theorem w_applies : (headSpec (Jvm.Cond.code x code maxLocals ret :: tables_1) room_1).applies x e0.platform about1 = true :=
  (Spec.applies_iff w_frames).mpr ⟨w_running, w_runnable, w_alone, w_named, w_hears, w_ripe, w_room, w_tables⟩
theorem atStart : AtStart classFile x code maxLocals ret World_1 tables_1 room_1 Calls_1 rest_1 Pre_1 launch0 p0 e0 about1 theMethod args0 below0 :=
  ⟨lists_1, trivial, launch0.admits_env _ _ _, launch0.least_env, fairChoices_fair.cas, fairChoices_fair.clock, w_frames, w_args, w_heap, w_applies, trivial, trivial, w_case⟩
end start1
theorem witness_1 : WitnessClaimed_1 := ⟨start1.p0, start1.e0, start1.about1, start1.theMethod, start1.args0, start1.below0, start1.atStart⟩
end Jvm.Pilot.@@N@@
