import JvmDerived
import JvmDerived.Pilot.@@N@@Statement
import JvmDerived.Pilot.@@N@@Code
set_option linter.unusedVariables false
set_option linter.unusedSimpArgs false
namespace Jvm.RoadKit
open Sem ClassFile Op Lib Jvm.Stand Jvm.Free Jvm.LawKit
section New
variable {p : Program} {l : Launch} {e : Env} {R : Room} {s : State} {m : MethodId} {args : Array Value} {below : List Frame} {meth : Method} {c : Code} {T : State} {locs : List Loc} {cells slots : Nat}
theorem retI (X : Stand p l e R s m args below meth c T locs cells slots) (hx : p.tables.exec = Jvm.exec) {pc : Nat} {Ls : Array Slot} {z : Int32} {rest : List Value} (hret : meth.sig.returnType = some .int) (hd : decode c.code pc = .ok (.ireturn, 1)) {fs : List Frame}
    (hl : ∀ (f : JFrame) (acts : List Action), f.method = m → f.locked = none → f.entered = [] → (doReturn e (T.setTop f) acts (some (.int z))).1 = T.setFrames fs) : Steps p.tables e below (T.setTop (mkF m pc Ls (.int z :: rest))) (T.setFrames fs) := by
  have hm' : T.vm.method? m = some meth := X.method'
  have hn : narrow .int (.int z) = .int z := rfl
  show Steps p.tables e below (T.setTop { method := m, pc := pc, locals := Ls, stack := _ :: rest, locked := none }) _
  jvm_step X.here [X.here.top, hx, hd, hm', hret, hn]
  first | (intro acts; rw [hl _ acts rfl rfl rfl]) | rw [hl _ _ rfl rfl rfl]
  exact Steps.refl _
end New
end Jvm.RoadKit
namespace Jvm.Pilot.@@N@@
open Jvm Jvm.ClassFile Sem Op Lib Jvm.Free Jvm.Stand Jvm.LawKit Jvm.RoadKit Bundle Jvm.Pilot.@@N@@.Jvm.D
/-- a run from U comes to an end at which P holds -/
def Go (p : Program) (e : Env) (below : List Frame) (P : State → Outcome → Prop) (U : State) : Prop := ∃ s₂ o, Steps p.tables e below U s₂ ∧ P s₂ o
theorem Go.out {p : Program} {e : Env} {below : List Frame} {P : State → Outcome → Prop} {U : State} (h : Go p e below P U) : ∃ s₂ o, Steps p.tables e below U s₂ ∧ P s₂ o := h
theorem Go.pre {p : Program} {e : Env} {below : List Frame} {P : State → Outcome → Prop} {U U' : State} (st : ∀ t, Steps p.tables e below U' t → Steps p.tables e below U t) (h : Go p e below P U') : Go p e below P U := by
  obtain ⟨t, o, h1, h2⟩ := h
  exact ⟨t, o, st _ h1, h2⟩
theorem Go.named {p : Program} {e : Env} {below : List Frame} {P : State → Outcome → Prop} {U : State} (h : ∀ P', P' = P → Go p e below P' U) : Go p e below P U := h P rfl
theorem Go.fin {p : Program} {e : Env} {below : List Frame} {P : State → Outcome → Prop} {U t : State} {o : Outcome} (st : Steps p.tables e below U t) (h : P t o) : Go p e below P U := ⟨t, o, st, h⟩
theorem own_cut {p : Program} {e : Env} {below : List Frame} {U U' : State} (st : Steps p.tables e below U U') : ∀ t, Steps p.tables e below U' t → Steps p.tables e below U t := fun _ k => st.trans k
theorem own_ltT {x y : Int64} (h : x < y) : lcmpW x y < 0 := by rw [lcW]; exact (lc_lt x y).mpr h
theorem own_ltF {x y : Int64} (h : ¬ x < y) : ¬ lcmpW x y < 0 := by rw [lcW]; exact fun q => h ((lc_lt x y).mp q)
theorem own_gtT {x y : Int64} (h : y < x) : 0 < lcmpW x y := by rw [lcW]; exact (lc_gt x y).mpr h
theorem own_gtF {x y : Int64} (h : ¬ y < x) : ¬ 0 < lcmpW x y := by rw [lcW]; exact fun q => h ((lc_gt x y).mp q)
theorem own_eqT {x y : Int64} (h : x = y) : lcmpW x y = 0 := by rw [lcW]; exact (lc_eq x y).mpr h
theorem own_eqF {x y : Int64} (h : ¬ x = y) : ¬ lcmpW x y = 0 := by rw [lcW]; exact fun q => h ((lc_eq x y).mp q)

theorem own_staK {Z : State} {h h' : Heap} {C n d : String} {v : Value} (F : Sta Z h C n d v) (K : Keep h h' []) : Sta Z h' C n d v := by
  obtain ⟨cf, i, k, f, st, cell, h1, h2, h3, h4, h5, r⟩ := F
  exact ⟨cf, i, k, f, st, cell, h1, h2, h3, h4, K.2.1 _ _ h5 nin0, r⟩
theorem own_fldI {args : Array Value} {s : State} {t : Term} {C n d : String} {a : Addr} {k : Int32} (ht : t.eval args s none [] s = some (.ref a)) (h : (Cond.eq (Term.field t C n d) (Term.int k)).value args s none s [] = some true) : Fld s s.heap a C n d (.int k) := by
  apply Fld.start
  have e := fld_at (C := C) (n := n) (dd := d) ht
  have ek : (Term.int k).eval args s none [] s = some (.int k) := Term.int_eval k
  cases hf : s.fieldOf? a C n d with
  | none => rw [hf] at e; simp [Cond.value, e] at h
  | some v =>
    rw [hf] at e
    cases v <;> simp [Cond.value, e, ek] at h
    subst h; rfl
theorem own_fldJ {args : Array Value} {s : State} {t : Term} {C n d : String} {a : Addr} {k : Int64} (ht : t.eval args s none [] s = some (.ref a)) (h : (Cond.eq (Term.field t C n d) (Term.long k)).value args s none s [] = some true) : Fld s s.heap a C n d (.long k) := by
  apply Fld.start
  have e := fld_at (C := C) (n := n) (dd := d) ht
  have ek : (Term.long k).eval args s none [] s = some (.long k) := by simp [Term.eval]
  cases hf : s.fieldOf? a C n d with
  | none => rw [hf] at e; simp [Cond.value, e] at h
  | some v =>
    rw [hf] at e
    cases v <;> simp [Cond.value, e, ek] at h
    subst h; rfl
theorem d_jdk_29_method_49_0 : decode jdk_29_method_49_code 0 = .ok (.lload_n 0, 1) := by decide +kernel
theorem d_jdk_29_method_49_1 : decode jdk_29_method_49_code 1 = .ok (.lload_n 2, 1) := by decide +kernel
theorem d_jdk_29_method_49_2 : decode jdk_29_method_49_code 2 = .ok (.ldiv, 1) := by decide +kernel
theorem d_jdk_29_method_49_3 : decode jdk_29_method_49_code 3 = .ok (.lstore 4, 2) := by decide +kernel
theorem d_jdk_29_method_49_5 : decode jdk_29_method_49_code 5 = .ok (.lload_n 0, 1) := by decide +kernel
theorem d_jdk_29_method_49_6 : decode jdk_29_method_49_code 6 = .ok (.lload_n 2, 1) := by decide +kernel
theorem d_jdk_29_method_49_7 : decode jdk_29_method_49_code 7 = .ok (.lxor, 1) := by decide +kernel
theorem d_jdk_29_method_49_8 : decode jdk_29_method_49_code 8 = .ok (.lconst 0, 1) := by decide +kernel
theorem d_jdk_29_method_49_9 : decode jdk_29_method_49_code 9 = .ok (.lcmp, 1) := by decide +kernel
theorem d_jdk_29_method_49_10 : decode jdk_29_method_49_code 10 = .ok (.ifCond .ge 17, 3) := by decide +kernel
theorem d_jdk_29_method_49_13 : decode jdk_29_method_49_code 13 = .ok (.lload 4, 2) := by decide +kernel
theorem d_jdk_29_method_49_15 : decode jdk_29_method_49_code 15 = .ok (.lload_n 2, 1) := by decide +kernel
theorem d_jdk_29_method_49_16 : decode jdk_29_method_49_code 16 = .ok (.lmul, 1) := by decide +kernel
theorem d_jdk_29_method_49_17 : decode jdk_29_method_49_code 17 = .ok (.lload_n 0, 1) := by decide +kernel
theorem d_jdk_29_method_49_18 : decode jdk_29_method_49_code 18 = .ok (.lcmp, 1) := by decide +kernel
theorem d_jdk_29_method_49_19 : decode jdk_29_method_49_code 19 = .ok (.ifCond .eq 8, 3) := by decide +kernel
theorem d_jdk_29_method_49_27 : decode jdk_29_method_49_code 27 = .ok (.lload 4, 2) := by decide +kernel
theorem d_jdk_29_method_49_29 : decode jdk_29_method_49_code 29 = .ok (.lreturn, 1) := by decide +kernel
theorem d_jdk_29_method_49_22 : decode jdk_29_method_49_code 22 = .ok (.lload 4, 2) := by decide +kernel
theorem d_jdk_29_method_49_24 : decode jdk_29_method_49_code 24 = .ok (.lconst 1, 1) := by decide +kernel
theorem d_jdk_29_method_49_25 : decode jdk_29_method_49_code 25 = .ok (.lsub, 1) := by decide +kernel
theorem d_jdk_29_method_49_26 : decode jdk_29_method_49_code 26 = .ok (.lreturn, 1) := by decide +kernel
theorem d_prog_16_method_5_0 : decode prog_16_method_5_code 0 = .ok (.lload_n 1, 1) := by decide +kernel
theorem d_prog_16_method_5_1 : decode prog_16_method_5_code 1 = .ok (.aload_n 0, 1) := by decide +kernel
theorem d_prog_16_method_5_2 : decode prog_16_method_5_code 2 = .ok (.getfield 36, 3) := by decide +kernel
theorem d_prog_16_method_5_5 : decode prog_16_method_5_code 5 = .ok (.invokestatic 40, 3) := by decide +kernel
theorem d_prog_16_method_5_8 : decode prog_16_method_5_code 8 = .ok (.aload_n 0, 1) := by decide +kernel
theorem d_prog_16_method_5_9 : decode prog_16_method_5_code 9 = .ok (.getfield 36, 3) := by decide +kernel
theorem d_prog_16_method_5_12 : decode prog_16_method_5_code 12 = .ok (.lmul, 1) := by decide +kernel
theorem d_prog_16_method_5_13 : decode prog_16_method_5_code 13 = .ok (.lreturn, 1) := by decide +kernel
theorem pd_0 : parseMethodDescriptor "(JJ)J" = some ⟨[.long, .long], some .long⟩ := by decide +kernel
theorem pd_1 : parseMethodDescriptor "(J)J" = some ⟨[.long], some .long⟩ := by decide +kernel
def own_fd (x y : Int64) : Int64 := if (x ^^^ y) < 0 then (if x / y * y = x then x / y else x / y - 1) else x / y
theorem own_neg (x : Int64) : x < 0 ↔ x.toInt < 0 := by rw [Int64.lt_iff_toInt_lt]; exact Iff.rfl
theorem own_slt0 (x : Int64) : x < 0 ↔ x.toBitVec.msb = true := by
  rw [Int64.lt_iff_toBitVec_slt, show (0 : Int64).toBitVec = 0#64 from rfl, BitVec.slt_zero_iff_msb_cond]
theorem own_xorneg {x y : Int64} (hy : 0 < y.toInt) : (x ^^^ y) < 0 ↔ x.toInt < 0 := by
  have h1 : ¬ y.toBitVec.msb = true := fun h => by
    have := (own_neg y).mp ((own_slt0 y).mpr h); omega
  rw [own_slt0, Int64.toBitVec_xor, BitVec.msb_xor, ← own_neg, own_slt0]
  simp only [Bool.not_eq_true] at h1
  rw [h1]; simp
theorem own_emod_le {a b : Int} (ha : 0 ≤ a) (hb : 0 < b) : a % b ≤ a := by
  have h1 := Int.emod_add_mul_ediv a b
  have h2 := Int.mul_nonneg (Int.le_of_lt hb) (Int.ediv_nonneg ha (Int.le_of_lt hb))
  omega
theorem own_fd_toInt {x y : Int64} (hy : 0 < y.toInt) : (own_fd x y).toInt = x.toInt / y.toInt := by
  have hx1 := Int64.toInt_lt x
  have hx2 := Int64.le_toInt x
  have hd : (x / y).toInt = x.toInt.tdiv y.toInt := Int64.toInt_div_of_ne_right x y (fun h => by subst h; revert hy; decide)
  have hm : (x / y * y).toInt = x.toInt.tdiv y.toInt * y.toInt := by
    rw [Int64.toInt_mul, hd]
    have e1 := Int.tdiv_mul_add_tmod x.toInt y.toInt
    have h2 : x.toInt.tdiv y.toInt * y.toInt = x.toInt - x.toInt.tmod y.toInt := by omega
    rw [h2]
    have a1 : 0 ≤ x.toInt → 0 ≤ x.toInt.tmod y.toInt := fun h => Int.tmod_nonneg _ h
    have a2 : 0 ≤ x.toInt → x.toInt.tmod y.toInt ≤ x.toInt := fun h => by rw [Int.tmod_eq_emod_of_nonneg h]; exact own_emod_le h hy 
    have a3 : x.toInt < 0 → x.toInt.tmod y.toInt ≤ 0 ∧ x.toInt ≤ x.toInt.tmod y.toInt := fun h => by
      have e := Int.neg_tmod (a := -x.toInt) (b := y.toInt)
      rw [Int.neg_neg] at e
      rw [e, Int.tmod_eq_emod_of_nonneg (by omega)]
      have b1 := Int.emod_nonneg (-x.toInt) (b := y.toInt) (by omega)
      have b2 := own_emod_le (a := -x.toInt) (b := y.toInt) (by omega) hy
      omega
    apply Int.bmod_eq_of_le
    · rcases Int.lt_or_le x.toInt 0 with h | h
      · have := a3 h; omega
      · have := a1 h; have := a2 h; omega
    · rcases Int.lt_or_le x.toInt 0 with h | h
      · have := a3 h; omega
      · have := a1 h; have := a2 h; omega
  unfold own_fd
  split
  · rename_i h; have h := (own_xorneg hy).mp h
    split
    · rename_i h3
      have h4 : y.toInt ∣ x.toInt := ⟨x.toInt.tdiv y.toInt, by rw [Int.mul_comm, ← hm, h3]⟩
      rw [hd, Int.tdiv_eq_ediv, if_pos (Or.inr h4)]; omega
    · rename_i h3
      have h4 : ¬ y.toInt ∣ x.toInt := fun ⟨k, hk⟩ => h3 (Int64.toInt_inj.mp (by rw [hm, hk, Int.mul_tdiv_cancel_left _ (by omega), Int.mul_comm]))
      have e : x.toInt.tdiv y.toInt = x.toInt / y.toInt + 1 := by
        rw [Int.tdiv_eq_ediv, if_neg (by rintro (q | q); omega; exact h4 q), Int.sign_eq_one_of_pos hy]
      have f1 : x.toInt / y.toInt < 0 := Int.ediv_neg_of_neg_of_pos h hy
      have f2 : -2 ^ 63 ≤ x.toInt / y.toInt := by
        have := Int.ediv_le_ediv (c := y.toInt) hy hx2
        refine Int.le_trans ?_ this
        rw [Int.le_ediv_iff_mul_le hy]
        have : (2 : Int) ^ 63 * 1 ≤ 2 ^ 63 * y.toInt := Int.mul_le_mul_of_nonneg_left (by omega) (by decide)
        omega
      rw [Int64.toInt_sub, hd, e, show (1 : Int64).toInt = 1 from rfl]
      rw [Int.bmod_eq_of_le (by omega) (by omega)]; omega
  · rename_i h; have h : ¬ x.toInt < 0 := fun q => h ((own_xorneg hy).mpr q)
    rw [hd, Int.tdiv_eq_ediv, if_pos (Or.inl (by omega))]; omega

/-- the multiple of y at or below x, where it is a long -/
theorem own_fm {x y : Int64} (hy : 0 < y.toInt) (hx : -2 ^ 63 + y.toInt ≤ x.toInt) : (own_fd x y * y).toInt = x.toInt - x.toInt % y.toInt := by
  have h1 := Int.emod_add_mul_ediv x.toInt y.toInt
  have h2 := Int.emod_nonneg x.toInt (b := y.toInt) (by omega)
  have h3 := Int.emod_lt_of_pos x.toInt hy
  have hx1 := Int64.toInt_lt x
  rw [Int64.toInt_mul, own_fd_toInt hy, Int.mul_comm]
  rw [Int.bmod_eq_of_le (by omega) (by omega)]; omega
theorem own_c1 {x y : Int64} (hy : 0 < y.toInt) (hx : -2 ^ 63 + y.toInt ≤ x.toInt) : ¬ x < own_fd x y * y := by
  rw [Int64.lt_iff_toInt_lt, own_fm hy hx]
  have h2 := Int.emod_nonneg x.toInt (b := y.toInt) (by omega)
  omega
theorem own_dd {x y : Int64} (hy : 0 < y.toInt) (hx : -2 ^ 63 + y.toInt ≤ x.toInt) : (x - own_fd x y * y).toInt = x.toInt % y.toInt := by
  have h2 := Int.emod_nonneg x.toInt (b := y.toInt) (by omega)
  have h3 := Int.emod_lt_of_pos x.toInt hy
  have hy1 := Int64.toInt_lt y
  rw [Int64.toInt_sub, own_fm hy hx, Int.bmod_eq_of_le (by omega) (by omega)]; omega
theorem own_c2 {x y : Int64} (hy : 0 < y.toInt) (hx : -2 ^ 63 + y.toInt ≤ x.toInt) : ¬ (x - own_fd x y * y) < 0 := by
  rw [own_neg, own_dd hy hx]
  have h2 := Int.emod_nonneg x.toInt (b := y.toInt) (by omega)
  omega
theorem own_c3 {x y : Int64} (hy : 0 < y.toInt) (hx : -2 ^ 63 + y.toInt ≤ x.toInt) : (x - own_fd x y * y) < y := by
  rw [Int64.lt_iff_toInt_lt, own_dd hy hx]
  exact Int.emod_lt_of_pos x.toInt hy
theorem own_c4 {x y : Int64} (hy : 0 < y.toInt) (hx : -2 ^ 63 + y.toInt ≤ x.toInt) : own_fd x y * y - own_fd x y * y / y * y = 0 := by
  have hr : (own_fd x y * y).toInt = y.toInt * (x.toInt / y.toInt) := by
    have h1 := Int.emod_add_mul_ediv x.toInt y.toInt
    rw [own_fm hy hx]; omega
  generalize own_fd x y * y = r at hr
  have hd : (r / y).toInt = r.toInt.tdiv y.toInt := Int64.toInt_div_of_ne_right r y (fun h => by subst h; revert hy; decide)
  have hm : r / y * y = r := by
    apply Int64.toInt_inj.mp
    rw [Int64.toInt_mul, hd, hr, Int.mul_tdiv_cancel_left _ (by omega), Int.mul_comm, ← hr]
    have := Int64.toInt_lt r
    have := Int64.le_toInt r
    exact Int.bmod_eq_of_le (by omega) (by omega)
  rw [hm]; exact Int64.sub_self r
theorem own_lim {x : Int64} {k : Int64} (hk : (-9223372036854775808 + k).toInt = -2 ^ 63 + k.toInt) (h : ¬ x < -9223372036854775808 + k) : -2 ^ 63 + k.toInt ≤ x.toInt := by
  rw [Int64.lt_iff_toInt_lt, hk] at h; omega

theorem ef_fd (m : MethodId) (x0 : Int64) (x1 : Int64) : entryFrame m #[(.long x0), (.long x1)] 6 = mkF m 0 #[.val (.long x0), .second, .val (.long x1), .second, .unset, .unset] [] := by first | (simp [entryFrame, mkF, argsToLocals, Value.category]; done) | rfl
def Q_fd (Z : State) (x : Int64) (y : Int64) (h0 : Heap) (n0 : Nat) (v : Option Value) (h : Heap) (L : List Loc) : Prop := v = some (.long (own_fd x y)) ∧ Fr n0 L ∧ h = h0
set_option maxRecDepth 65536 in
set_option maxHeartbeats 40000000 in
theorem rm_fd (l : Launch) (Z : State) (a0 : Array Value) (hw : ∀ d ∈ tables_1, d.before a0 Z = true) (ws : List Jvm.Cond) (x : Int64) (y : Int64) (h0 : Heap) (n0 : Nat) (Z0 : n0 ≤ h0.size) (hy : ¬ y = 0) :
    MetFree l (⟨"java/lang/Math", "floorDiv", "(JJ)J"⟩ : MethodName) (head1 (Jvm.Cond.code (⟨"java/lang/Math", "floorDiv", "(JJ)J"⟩ : MethodName) jdk_29_method_49_code 6 (some .long) :: ws) ({ frames := 0, cells := 0, slots := 0, locals := 0 } : Room)) (fun a U => a = #[(.long x), (.long y)] ∧ Z.Warmed39 U.vm ∧ U.heap = h0) (fun _ _ _ _ _ => True) (fun _ U o U' => ∃ v L, o = .returned v ∧ Q_fd Z x y h0 n0 v U'.heap L ∧ FrameEnd U o U' L ({ frames := 0, cells := 0, slots := 0, locals := 0 } : Room).cells ({ frames := 0, cells := 0, slots := 0, locals := 0 } : Room).slots) := by
  refine MetFree.of_bodySF (Jvm.Free.JP.mathPlain rfl (by decide +kernel)) hisR ?_
  intro p e s m args below meth c s₁ Bd hml0 hP hK
  obtain ⟨rfl, hZ, hh⟩ := hP
  have hx := Bd.exec
  have hby := Bd.bytes
  have hml : c.maxLocals = 6 := hml0
  have hown : s.vm.findClass "java/lang/Math" = some m.cls := findClass_of_methodNamed Bd.named
  have hnm := (name_of_methodNamed Bd.named Bd.method).1
  have X0 : Stand p l e ({ frames := 0, cells := 0, slots := 0, locals := 0 } : Room) s m #[(.long x), (.long y)] below meth c s₁ [] 0 0 := Stand.of_body Bd
  have e0 : s₁.heap = h0 := by rw [← hh, Bd.state]; rfl
  have N0 := Fr.nil n0
  refine Go.out ?_
  refine Go.pre (fun t k => castTop (ef_fd m x y) k) ?_
  show Go p e below _ (s₁.setTop (mkF m 0 #[.val (.long x), .second, .val (.long y), .second, .unset, .unset] []))
  refine Go.pre (fun _ k => XS.lloadN X0.here hx rfl (hb hby d_jdk_29_method_49_0) rfl k) ?_
  show Go p e below _ (s₁.setTop (mkF m 1 #[.val (.long x), .second, .val (.long y), .second, .unset, .unset] [(.long x)]))
  refine Go.pre (fun _ k => XS.lloadN X0.here hx rfl (hb hby d_jdk_29_method_49_1) rfl k) ?_
  show Go p e below _ (s₁.setTop (mkF m 2 #[.val (.long x), .second, .val (.long y), .second, .unset, .unset] [(.long y), (.long x)]))
  refine Go.pre (fun _ k => XS.ldiv X0.here hx rfl (hb hby d_jdk_29_method_49_2) rfl hy k) ?_
  show Go p e below _ (s₁.setTop (mkF m 3 #[.val (.long x), .second, .val (.long y), .second, .unset, .unset] [(.long (x / y))]))
  refine Go.pre (fun _ k => XS.lstore X0.here hx rfl (hb hby d_jdk_29_method_49_3) rfl (l' := #[.val (.long x), .second, .val (.long y), .second, .val (.long (x / y)), .second]) rfl k) ?_
  show Go p e below _ (s₁.setTop (mkF m 5 #[.val (.long x), .second, .val (.long y), .second, .val (.long (x / y)), .second] []))
  refine Go.pre (fun _ k => XS.lloadN X0.here hx rfl (hb hby d_jdk_29_method_49_5) rfl k) ?_
  show Go p e below _ (s₁.setTop (mkF m 6 #[.val (.long x), .second, .val (.long y), .second, .val (.long (x / y)), .second] [(.long x)]))
  refine Go.pre (fun _ k => XS.lloadN X0.here hx rfl (hb hby d_jdk_29_method_49_6) rfl k) ?_
  show Go p e below _ (s₁.setTop (mkF m 7 #[.val (.long x), .second, .val (.long y), .second, .val (.long (x / y)), .second] [(.long y), (.long x)]))
  refine Go.pre (fun _ k => XS.lxor X0.here hx rfl (hb hby d_jdk_29_method_49_7) rfl k) ?_
  show Go p e below _ (s₁.setTop (mkF m 8 #[.val (.long x), .second, .val (.long y), .second, .val (.long (x / y)), .second] [(.long (x ^^^ y))]))
  refine Go.pre (fun _ k => XS.lconst X0.here hx rfl (hb hby d_jdk_29_method_49_8) k) ?_
  show Go p e below _ (s₁.setTop (mkF m 9 #[.val (.long x), .second, .val (.long y), .second, .val (.long (x / y)), .second] [(.long (0 : Int64)), (.long (x ^^^ y))]))
  refine Go.pre (fun _ k => XS.lcmp X0.here hx rfl (hb hby d_jdk_29_method_49_9) rfl k) ?_
  show Go p e below _ (s₁.setTop (mkF m 10 #[.val (.long x), .second, .val (.long y), .second, .val (.long (x / y)), .second] [(.int (lcmpW (x ^^^ y) (0 : Int64)))]))
  by_cases hc10_1 : (x ^^^ y) < (0 : Int64)
  · skip
    refine Go.pre (fun _ k => XS.ifNo X0.here hx rfl (hb hby d_jdk_29_method_49_10) rfl ((if0 _ _).trans (tlt (own_ltT hc10_1)).2.1) k) ?_
    show Go p e below _ (s₁.setTop (mkF m 13 #[.val (.long x), .second, .val (.long y), .second, .val (.long (x / y)), .second] []))
    refine Go.pre (fun _ k => XS.lload X0.here hx rfl (hb hby d_jdk_29_method_49_13) rfl k) ?_
    show Go p e below _ (s₁.setTop (mkF m 15 #[.val (.long x), .second, .val (.long y), .second, .val (.long (x / y)), .second] [(.long (x / y))]))
    refine Go.pre (fun _ k => XS.lloadN X0.here hx rfl (hb hby d_jdk_29_method_49_15) rfl k) ?_
    show Go p e below _ (s₁.setTop (mkF m 16 #[.val (.long x), .second, .val (.long y), .second, .val (.long (x / y)), .second] [(.long y), (.long (x / y))]))
    refine Go.pre (fun _ k => XS.lmul X0.here hx rfl (hb hby d_jdk_29_method_49_16) rfl k) ?_
    show Go p e below _ (s₁.setTop (mkF m 17 #[.val (.long x), .second, .val (.long y), .second, .val (.long (x / y)), .second] [(.long ((x / y) * y))]))
    refine Go.pre (fun _ k => XS.lloadN X0.here hx rfl (hb hby d_jdk_29_method_49_17) rfl k) ?_
    show Go p e below _ (s₁.setTop (mkF m 18 #[.val (.long x), .second, .val (.long y), .second, .val (.long (x / y)), .second] [(.long x), (.long ((x / y) * y))]))
    refine Go.pre (fun _ k => XS.lcmp X0.here hx rfl (hb hby d_jdk_29_method_49_18) rfl k) ?_
    show Go p e below _ (s₁.setTop (mkF m 19 #[.val (.long x), .second, .val (.long y), .second, .val (.long (x / y)), .second] [(.int (lcmpW ((x / y) * y) x))]))
    by_cases hc19_2 : ((x / y) * y) = x
    · skip
      refine Go.pre (fun _ k => XS.ifYes X0.here hx rfl (pc0 := 19) (pc' := 27) rfl (hb hby d_jdk_29_method_49_19) rfl ((if0 _ _).trans (teq (own_eqT hc19_2)).1) (by decide) (by decide) k) ?_
      show Go p e below _ (s₁.setTop (mkF m 27 #[.val (.long x), .second, .val (.long y), .second, .val (.long (x / y)), .second] []))
      refine Go.pre (fun _ k => XS.lload X0.here hx rfl (hb hby d_jdk_29_method_49_27) rfl k) ?_
      show Go p e below _ (s₁.setTop (mkF m 29 #[.val (.long x), .second, .val (.long y), .second, .val (.long (x / y)), .second] [(.long (x / y))]))
      obtain ⟨fs, hr, hrun, hended, hW, hsame⟩ := X0.leave (v := some (.long (x / y))) (fun h => by rw [Bd.returns] at h; cases h)
      refine Go.fin (retOut X0 hx Bd.returns rfl (Or.inr (Or.inl ⟨rfl, rfl, _, rfl⟩)) (hb hby d_jdk_29_method_49_29) hr) ⟨hrun, hended, _, _, rfl, ?_, ⟨_, rfl⟩, hW, hsame.mono (by decide) (by decide)⟩
      show Q_fd Z x y h0 n0 _ s₁.heap _
      rw [e0]
      exact ⟨congrArg (fun z => some (Value.long z)) (by simp [own_fd, hc10_1, hc19_2]), N0, rfl⟩
    · skip
      refine Go.pre (fun _ k => XS.ifNo X0.here hx rfl (hb hby d_jdk_29_method_49_19) rfl ((if0 _ _).trans (feq (own_eqF hc19_2)).1) k) ?_
      show Go p e below _ (s₁.setTop (mkF m 22 #[.val (.long x), .second, .val (.long y), .second, .val (.long (x / y)), .second] []))
      refine Go.pre (fun _ k => XS.lload X0.here hx rfl (hb hby d_jdk_29_method_49_22) rfl k) ?_
      show Go p e below _ (s₁.setTop (mkF m 24 #[.val (.long x), .second, .val (.long y), .second, .val (.long (x / y)), .second] [(.long (x / y))]))
      refine Go.pre (fun _ k => XS.lconst X0.here hx rfl (hb hby d_jdk_29_method_49_24) k) ?_
      show Go p e below _ (s₁.setTop (mkF m 25 #[.val (.long x), .second, .val (.long y), .second, .val (.long (x / y)), .second] [(.long (1 : Int64)), (.long (x / y))]))
      refine Go.pre (fun _ k => XS.lsub X0.here hx rfl (hb hby d_jdk_29_method_49_25) rfl k) ?_
      show Go p e below _ (s₁.setTop (mkF m 26 #[.val (.long x), .second, .val (.long y), .second, .val (.long (x / y)), .second] [(.long ((x / y) - (1 : Int64)))]))
      obtain ⟨fs, hr, hrun, hended, hW, hsame⟩ := X0.leave (v := some (.long ((x / y) - (1 : Int64)))) (fun h => by rw [Bd.returns] at h; cases h)
      refine Go.fin (retOut X0 hx Bd.returns rfl (Or.inr (Or.inl ⟨rfl, rfl, _, rfl⟩)) (hb hby d_jdk_29_method_49_26) hr) ⟨hrun, hended, _, _, rfl, ?_, ⟨_, rfl⟩, hW, hsame.mono (by decide) (by decide)⟩
      show Q_fd Z x y h0 n0 _ s₁.heap _
      rw [e0]
      exact ⟨congrArg (fun z => some (Value.long z)) (by simp [own_fd, hc10_1, hc19_2]), N0, rfl⟩
  · skip
    refine Go.pre (fun _ k => XS.ifYes X0.here hx rfl (pc0 := 10) (pc' := 27) rfl (hb hby d_jdk_29_method_49_10) rfl ((if0 _ _).trans (flt (own_ltF hc10_1)).2.1) (by decide) (by decide) k) ?_
    show Go p e below _ (s₁.setTop (mkF m 27 #[.val (.long x), .second, .val (.long y), .second, .val (.long (x / y)), .second] []))
    refine Go.pre (fun _ k => XS.lload X0.here hx rfl (hb hby d_jdk_29_method_49_27) rfl k) ?_
    show Go p e below _ (s₁.setTop (mkF m 29 #[.val (.long x), .second, .val (.long y), .second, .val (.long (x / y)), .second] [(.long (x / y))]))
    obtain ⟨fs, hr, hrun, hended, hW, hsame⟩ := X0.leave (v := some (.long (x / y))) (fun h => by rw [Bd.returns] at h; cases h)
    refine Go.fin (retOut X0 hx Bd.returns rfl (Or.inr (Or.inl ⟨rfl, rfl, _, rfl⟩)) (hb hby d_jdk_29_method_49_29) hr) ⟨hrun, hended, _, _, rfl, ?_, ⟨_, rfl⟩, hW, hsame.mono (by decide) (by decide)⟩
    show Q_fd Z x y h0 n0 _ s₁.heap _
    rw [e0]
    exact ⟨congrArg (fun z => some (Value.long z)) (by simp [own_fd, hc10_1]), N0, rfl⟩

theorem ef_st (m : MethodId) (x0 : Addr) (x1 : Int64) : entryFrame m #[(.ref x0), (.long x1)] 3 = mkF m 0 #[rv x0, .val (.long x1), .second] [] := by first | (simp [entryFrame, mkF, argsToLocals, Value.category]; done) | rfl
theorem pn_st : plainName "com/example/sluice/sluice/Interval" = true := by first | (simp [plainName, overriddenIn]; done) | decide +kernel
def Q_st (Z : State) (a1 : Addr) (q1 : Int64) (k : Int64) (h0 : Heap) (n0 : Nat) (v : Option Value) (h : Heap) (L : List Loc) : Prop := v = some (.long (own_fd q1 k * k)) ∧ Fr n0 L ∧ h = h0
set_option maxRecDepth 65536 in
set_option maxHeartbeats 40000000 in
theorem rm_st (l : Launch) (Z : State) (a0 : Array Value) (hw : ∀ d ∈ tables_1, d.before a0 Z = true) (ws : List Jvm.Cond) (a1 : Addr) (q1 : Int64) (k : Int64) (h0 : Heap) (n0 : Nat) (Z0 : n0 ≤ h0.size) (F_s : Fld Z h0 a1 "com/example/sluice/sluice/Interval" "seconds" "J" (.long k)) (hk : ¬ k = 0) :
    MetFree l (⟨"com/example/sluice/sluice/Interval", "start", "(J)J"⟩ : MethodName) (head1 (Jvm.Cond.code (⟨"com/example/sluice/sluice/Interval", "start", "(J)J"⟩ : MethodName) prog_16_method_5_code 3 (some .long) :: ws) ({ frames := 1, cells := 0, slots := 0, locals := 17 } : Room)) (fun a U => a = #[(.ref a1), (.long q1)] ∧ Z.Warmed39 U.vm ∧ U.heap = h0) (fun _ _ _ _ _ => True) (fun _ U o U' => ∃ v L, o = .returned v ∧ Q_st Z a1 q1 k h0 n0 v U'.heap L ∧ FrameEnd U o U' L ({ frames := 1, cells := 0, slots := 0, locals := 17 } : Room).cells ({ frames := 1, cells := 0, slots := 0, locals := 17 } : Room).slots) := by
  refine MetFree.of_bodySF (plainFor_of_name pn_st) hisR ?_
  intro p e s m args below meth c s₁ Bd hml0 hP hK
  obtain ⟨rfl, hZ, hh⟩ := hP
  have hx := Bd.exec
  have hby := Bd.bytes
  have hml : c.maxLocals = 3 := hml0
  have hown : s.vm.findClass "com/example/sluice/sluice/Interval" = some m.cls := findClass_of_methodNamed Bd.named
  have hnm := (name_of_methodNamed Bd.named Bd.method).1
  have X0 : Stand p l e ({ frames := 1, cells := 0, slots := 0, locals := 17 } : Room) s m #[(.ref a1), (.long q1)] below meth c s₁ [] 0 0 := Stand.of_body Bd
  have e0 : s₁.heap = h0 := by rw [← hh, Bd.state]; rfl
  have N0 := Fr.nil n0
  refine Go.out ?_
  refine Go.pre (fun t k => castTop (ef_st m a1 q1) k) ?_
  show Go p e below _ (s₁.setTop (mkF m 0 #[rv a1, .val (.long q1), .second] []))
  refine Go.pre (fun _ k => XS.lloadN X0.here hx rfl (hb hby d_prog_16_method_5_0) rfl k) ?_
  show Go p e below _ (s₁.setTop (mkF m 1 #[rv a1, .val (.long q1), .second] [(.long q1)]))
  refine Go.pre (fun _ k => XS.aloadN X0.here hx rfl (hb hby d_prog_16_method_5_1) rfl rfl k) ?_
  show Go p e below _ (s₁.setTop (mkF m 2 #[rv a1, .val (.long q1), .second] [(.ref a1), (.long q1)]))
  obtain ⟨T1, X1, e1, st1⟩ := getF X0 hx hZ hown (host := "") (Or.inl (hw _ (List.mem_of_getElem? (i := 11) rfl))) Via.refl e0 F_s (g := (mkF m 2 #[rv a1, .val (.long q1), .second] [(.ref a1), (.long q1)])) rfl rfl (hb hby d_prog_16_method_5_2)
  refine Go.pre st1 ?_
  show Go p e below _ (T1.setTop (mkF m 5 #[rv a1, .val (.long q1), .second] [(.long k), (.long q1)]))
  obtain ⟨_, _, ⟨T2, L2, k2, n2⟩, -, X2, ⟨Lc2, hQ2, l2, y2, z2⟩, st2⟩ := Jvm.LawKit.callS X1 hx (y := (⟨"java/lang/Math", "floorDiv", "(JJ)J"⟩ : MethodName)) hown (mvT hZ (hw _ (List.mem_of_getElem? (i := 13) rfl))) (mvT hZ (hw _ (List.mem_of_getElem? (i := 14) rfl))) (mvT hZ (hw _ (List.mem_of_getElem? (i := 15) rfl))) (mvT hZ (hw _ (List.mem_of_getElem? (i := 16) rfl))) (by decide) (backOf (W := 0) (rm_fd l Z a0 hw [] q1 k h0 n0 Z0 hk) hZ (hw _ (List.mem_of_getElem? (i := 16) rfl)) (hw _ (List.mem_of_getElem? (i := 15) rfl)) (by decide) (by decide)) (g := (mkF m 5 #[rv a1, .val (.long q1), .second] [(.long k), (.long q1)])) rfl (by rw [hml]; rfl) (argsL := [(.long q1), (.long k)]) (rest := []) (lenOf pd_0 rfl) rfl (by show 2 * 0 + _ ≤ _; exact Nat.le_of_eq rfl) (hb hby d_prog_16_method_5_5) (fun _ _ => ⟨rfl, e1, (by decide : 0 + 0 ≤ _), (by decide : 0 + 0 ≤ _)⟩)
  dsimp only [Pt.U, Pt.locs, Pt.cells, Pt.slots] at X2 l2 y2 z2 st2 hQ2
  subst l2 y2 z2
  refine Go.pre st2 ?_
  obtain ⟨rfl, N2q, eh2⟩ := hQ2
  have N2 := Fr.app N0 N2q
  show Go p e below _ (T2.setTop (mkF m 8 #[rv a1, .val (.long q1), .second] [(.long (own_fd q1 k))]))
  refine Go.pre (fun _ k => XS.aloadN X2.here hx rfl (hb hby d_prog_16_method_5_8) rfl rfl k) ?_
  show Go p e below _ (T2.setTop (mkF m 9 #[rv a1, .val (.long q1), .second] [(.ref a1), (.long (own_fd q1 k))]))
  obtain ⟨T3, X3, e3, st3⟩ := getF X2 hx hZ hown (host := "") (Or.inl (hw _ (List.mem_of_getElem? (i := 11) rfl))) Via.refl eh2 F_s (g := (mkF m 9 #[rv a1, .val (.long q1), .second] [(.ref a1), (.long (own_fd q1 k))])) rfl rfl (hb hby d_prog_16_method_5_9)
  refine Go.pre st3 ?_
  show Go p e below _ (T3.setTop (mkF m 12 #[rv a1, .val (.long q1), .second] [(.long k), (.long (own_fd q1 k))]))
  refine Go.pre (fun _ k => XS.lmul X3.here hx rfl (hb hby d_prog_16_method_5_12) rfl k) ?_
  show Go p e below _ (T3.setTop (mkF m 13 #[rv a1, .val (.long q1), .second] [(.long ((own_fd q1 k) * k))]))
  obtain ⟨fs, hr, hrun, hended, hW, hsame⟩ := X3.leave (v := some (.long ((own_fd q1 k) * k))) (fun h => by rw [Bd.returns] at h; cases h)
  refine Go.fin (retOut X3 hx Bd.returns rfl (Or.inr (Or.inl ⟨rfl, rfl, _, rfl⟩)) (hb hby d_prog_16_method_5_13) hr) ⟨hrun, hended, _, _, rfl, ?_, ⟨_, rfl⟩, hW, hsame.mono (by decide) (by decide)⟩
  show Q_st Z a1 q1 k h0 n0 _ T3.heap _
  rw [e3]
  exact ⟨rfl, N2, rfl⟩

theorem ef_law (m : MethodId) (x0 : Int32) (x1 : Int64) : entryFrame m #[(.int x0), (.long x1)] maxLocals = mkF m 0 #[iv x0, .val (.long x1), .second, .unset, .unset, .unset, .unset, .unset, .unset, .unset, .unset] [] := by first | (simp [entryFrame, mkF, argsToLocals, Value.category, maxLocals]; done) | rfl
theorem pn_law : plainName "com/example/sluice/sluice/IntervalStartPinLaw" = true := by first | (simp [plainName, overriddenIn]; done) | decide +kernel
def Q_law (Z : State) (p1 : Int32) (q2 : Int64) (aM : Addr) (aH : Addr) (aD : Addr) (h0 : Heap) (n0 : Nat) (v : Option Value) (h : Heap) (L : List Loc) : Prop := v = some (.int 1) ∧ Fr n0 L
set_option maxRecDepth 65536 in
set_option maxHeartbeats 40000000 in
theorem rm_law (l : Launch) (Z : State) (a0 : Array Value) (hw : ∀ d ∈ tables_1, d.before a0 Z = true) (ws : List Jvm.Cond) (p1 : Int32) (q2 : Int64) (aM : Addr) (aH : Addr) (aD : Addr) (h0 : Heap) (n0 : Nat) (Z0 : n0 ≤ h0.size) (S_aM : Sta Z h0 "com/example/sluice/sluice/Interval" "MINUTE" "Lcom/example/sluice/sluice/Interval;" (.ref aM)) (S_aH : Sta Z h0 "com/example/sluice/sluice/Interval" "HOUR" "Lcom/example/sluice/sluice/Interval;" (.ref aH)) (S_aD : Sta Z h0 "com/example/sluice/sluice/Interval" "DAY" "Lcom/example/sluice/sluice/Interval;" (.ref aD)) (E_aM : Exa Z h0 aM "com/example/sluice/sluice/Interval") (E_aH : Exa Z h0 aH "com/example/sluice/sluice/Interval") (E_aD : Exa Z h0 aD "com/example/sluice/sluice/Interval") (F_aM : Fld Z h0 aM "com/example/sluice/sluice/Interval" "seconds" "J" (.long (60 : Int64))) (F_aH : Fld Z h0 aH "com/example/sluice/sluice/Interval" "seconds" "J" (.long (3600 : Int64))) (F_aD : Fld Z h0 aD "com/example/sluice/sluice/Interval" "seconds" "J" (.long (86400 : Int64))) :
    MetFree l x (head1 (Jvm.Cond.code x code maxLocals ret :: ws) room_1) (fun a U => a = #[(.int p1), (.long q2)] ∧ Z.Warmed39 U.vm ∧ U.heap = h0) (fun _ _ _ _ _ => True) (fun _ U o U' => ∃ v L, o = .returned v ∧ Q_law Z p1 q2 aM aH aD h0 n0 v U'.heap L ∧ FrameEnd U o U' L room_1.cells room_1.slots) := by
  refine MetFree.of_bodySF (plainFor_of_name pn_law) hisR ?_
  intro p e s m args below meth c s₁ Bd hml0 hP hK
  obtain ⟨rfl, hZ, hh⟩ := hP
  have hx := Bd.exec
  have hby := Bd.bytes
  have hml : c.maxLocals = 11 := hml0
  have hown : s.vm.findClass "com/example/sluice/sluice/IntervalStartPinLaw" = some m.cls := findClass_of_methodNamed Bd.named
  have hnm := (name_of_methodNamed Bd.named Bd.method).1
  have X0 : Stand p l e room_1 s m #[(.int p1), (.long q2)] below meth c s₁ [] 0 0 := Stand.of_body Bd
  have e0 : s₁.heap = h0 := by rw [← hh, Bd.state]; rfl
  have N0 := Fr.nil n0
  refine Go.out ?_
  refine Go.pre (fun t k => castTop (ef_law m p1 q2) k) ?_
  show Go p e below _ (s₁.setTop (mkF m 0 #[iv p1, .val (.long q2), .second, .unset, .unset, .unset, .unset, .unset, .unset, .unset, .unset] []))
  refine Go.pre (fun _ k => XS.iloadN X0.here hx rfl (hb hby at_0) rfl k) ?_
  show Go p e below _ (s₁.setTop (mkF m 1 #[iv p1, .val (.long q2), .second, .unset, .unset, .unset, .unset, .unset, .unset, .unset, .unset] [(.int p1)]))
  refine Go.pre (X0.ldcInt hx hown (mvT hZ (hw _ (List.mem_of_getElem? (i := 0) rfl))) (g := (mkF m 1 #[iv p1, .val (.long q2), .second, .unset, .unset, .unset, .unset, .unset, .unset, .unset, .unset] [(.int p1)])) rfl (hb hby at_1)) ?_
  show Go p e below _ (s₁.setTop (mkF m 3 #[iv p1, .val (.long q2), .second, .unset, .unset, .unset, .unset, .unset, .unset, .unset, .unset] [(.int (2147483647 : Int32)), (.int p1)]))
  refine Go.pre (fun _ k => XS.iand X0.here hx rfl (hb hby at_3) rfl k) ?_
  show Go p e below _ (s₁.setTop (mkF m 4 #[iv p1, .val (.long q2), .second, .unset, .unset, .unset, .unset, .unset, .unset, .unset, .unset] [(.int (p1 &&& (2147483647 : Int32)))]))
  refine Go.pre (fun _ k => XS.iconst X0.here hx rfl (hb hby at_4) k) ?_
  show Go p e below _ (s₁.setTop (mkF m 5 #[iv p1, .val (.long q2), .second, .unset, .unset, .unset, .unset, .unset, .unset, .unset, .unset] [(.int (3 : Int32)), (.int (p1 &&& (2147483647 : Int32)))]))
  refine Go.pre (fun _ k => XS.irem X0.here hx rfl (hb hby at_5) rfl (by decide) k) ?_
  show Go p e below _ (s₁.setTop (mkF m 6 #[iv p1, .val (.long q2), .second, .unset, .unset, .unset, .unset, .unset, .unset, .unset, .unset] [(.int ((p1 &&& (2147483647 : Int32)) - (p1 &&& (2147483647 : Int32)) / (3 : Int32) * (3 : Int32)))]))
  refine Go.pre (fun _ k => XS.istoreN X0.here hx rfl (hb hby at_6) rfl (l' := #[iv p1, .val (.long q2), .second, iv ((p1 &&& (2147483647 : Int32)) - (p1 &&& (2147483647 : Int32)) / (3 : Int32) * (3 : Int32)), .unset, .unset, .unset, .unset, .unset, .unset, .unset]) rfl k) ?_
  show Go p e below _ (s₁.setTop (mkF m 7 #[iv p1, .val (.long q2), .second, iv ((p1 &&& (2147483647 : Int32)) - (p1 &&& (2147483647 : Int32)) / (3 : Int32) * (3 : Int32)), .unset, .unset, .unset, .unset, .unset, .unset, .unset] []))
  refine Go.pre (fun _ k => XS.iloadN X0.here hx rfl (hb hby at_7) rfl k) ?_
  show Go p e below _ (s₁.setTop (mkF m 8 #[iv p1, .val (.long q2), .second, iv ((p1 &&& (2147483647 : Int32)) - (p1 &&& (2147483647 : Int32)) / (3 : Int32) * (3 : Int32)), .unset, .unset, .unset, .unset, .unset, .unset, .unset] [(.int ((p1 &&& (2147483647 : Int32)) - (p1 &&& (2147483647 : Int32)) / (3 : Int32) * (3 : Int32)))]))
  by_cases hc8_1 : ((p1 &&& (2147483647 : Int32)) - (p1 &&& (2147483647 : Int32)) / (3 : Int32) * (3 : Int32)) = (0 : Int32)
  · skip
    refine Go.pre (fun _ k => XS.ifNo X0.here hx rfl (hb hby at_8) rfl ((if0 _ _).trans (teq hc8_1).2) k) ?_
    show Go p e below _ (s₁.setTop (mkF m 11 #[iv p1, .val (.long q2), .second, iv ((p1 &&& (2147483647 : Int32)) - (p1 &&& (2147483647 : Int32)) / (3 : Int32) * (3 : Int32)), .unset, .unset, .unset, .unset, .unset, .unset, .unset] []))
    obtain ⟨T2, X2, e2, st2⟩ := getS2 X0 hx hZ hown (host := "") (Or.inl (hw _ (List.mem_of_getElem? (i := 1) rfl))) Via.refl e0 S_aM (g := (mkF m 11 #[iv p1, .val (.long q2), .second, iv ((p1 &&& (2147483647 : Int32)) - (p1 &&& (2147483647 : Int32)) / (3 : Int32) * (3 : Int32)), .unset, .unset, .unset, .unset, .unset, .unset, .unset] [])) rfl (hb hby at_11)
    refine Go.pre st2 ?_
    show Go p e below _ (T2.setTop (mkF m 14 #[iv p1, .val (.long q2), .second, iv ((p1 &&& (2147483647 : Int32)) - (p1 &&& (2147483647 : Int32)) / (3 : Int32) * (3 : Int32)), .unset, .unset, .unset, .unset, .unset, .unset, .unset] [(.ref aM)]))
    refine Go.pre (fun _ k => XS.astore X2.here hx rfl (hb hby at_14) rfl rfl (l' := #[iv p1, .val (.long q2), .second, iv ((p1 &&& (2147483647 : Int32)) - (p1 &&& (2147483647 : Int32)) / (3 : Int32) * (3 : Int32)), rv aM, .unset, .unset, .unset, .unset, .unset, .unset]) rfl k) ?_
    show Go p e below _ (T2.setTop (mkF m 16 #[iv p1, .val (.long q2), .second, iv ((p1 &&& (2147483647 : Int32)) - (p1 &&& (2147483647 : Int32)) / (3 : Int32) * (3 : Int32)), rv aM, .unset, .unset, .unset, .unset, .unset, .unset] []))
    refine Go.pre (X2.ldc2Long hx hown (mvT hZ (hw _ (List.mem_of_getElem? (i := 4) rfl))) (g := (mkF m 16 #[iv p1, .val (.long q2), .second, iv ((p1 &&& (2147483647 : Int32)) - (p1 &&& (2147483647 : Int32)) / (3 : Int32) * (3 : Int32)), rv aM, .unset, .unset, .unset, .unset, .unset, .unset] [])) rfl (hb hby at_16)) ?_
    show Go p e below _ (T2.setTop (mkF m 19 #[iv p1, .val (.long q2), .second, iv ((p1 &&& (2147483647 : Int32)) - (p1 &&& (2147483647 : Int32)) / (3 : Int32) * (3 : Int32)), rv aM, .unset, .unset, .unset, .unset, .unset, .unset] [(.long (60 : Int64))]))
    refine Go.pre (fun _ k => XS.lstore X2.here hx rfl (hb hby at_19) rfl (l' := #[iv p1, .val (.long q2), .second, iv ((p1 &&& (2147483647 : Int32)) - (p1 &&& (2147483647 : Int32)) / (3 : Int32) * (3 : Int32)), rv aM, .val (.long (60 : Int64)), .second, .unset, .unset, .unset, .unset]) rfl k) ?_
    show Go p e below _ (T2.setTop (mkF m 21 #[iv p1, .val (.long q2), .second, iv ((p1 &&& (2147483647 : Int32)) - (p1 &&& (2147483647 : Int32)) / (3 : Int32) * (3 : Int32)), rv aM, .val (.long (60 : Int64)), .second, .unset, .unset, .unset, .unset] []))
    refine Go.pre (fun _ k => XS.goto X2.here hx rfl (pc0 := 21) (pc' := 52) rfl (hb hby at_21) (by decide) (by decide) k) ?_
    show Go p e below _ (T2.setTop (mkF m 52 #[iv p1, .val (.long q2), .second, iv ((p1 &&& (2147483647 : Int32)) - (p1 &&& (2147483647 : Int32)) / (3 : Int32) * (3 : Int32)), rv aM, .val (.long (60 : Int64)), .second, .unset, .unset, .unset, .unset] []))
    refine Go.pre (fun _ k => XS.lloadN X2.here hx rfl (hb hby at_52) rfl k) ?_
    show Go p e below _ (T2.setTop (mkF m 53 #[iv p1, .val (.long q2), .second, iv ((p1 &&& (2147483647 : Int32)) - (p1 &&& (2147483647 : Int32)) / (3 : Int32) * (3 : Int32)), rv aM, .val (.long (60 : Int64)), .second, .unset, .unset, .unset, .unset] [(.long q2)]))
    refine Go.pre (X2.ldc2Long hx hown (mvT hZ (hw _ (List.mem_of_getElem? (i := 5) rfl))) (g := (mkF m 53 #[iv p1, .val (.long q2), .second, iv ((p1 &&& (2147483647 : Int32)) - (p1 &&& (2147483647 : Int32)) / (3 : Int32) * (3 : Int32)), rv aM, .val (.long (60 : Int64)), .second, .unset, .unset, .unset, .unset] [(.long q2)])) rfl (hb hby at_53)) ?_
    show Go p e below _ (T2.setTop (mkF m 56 #[iv p1, .val (.long q2), .second, iv ((p1 &&& (2147483647 : Int32)) - (p1 &&& (2147483647 : Int32)) / (3 : Int32) * (3 : Int32)), rv aM, .val (.long (60 : Int64)), .second, .unset, .unset, .unset, .unset] [(.long (-9223372036854775808 : Int64)), (.long q2)]))
    refine Go.pre (fun _ k => XS.lload X2.here hx rfl (hb hby at_56) rfl k) ?_
    show Go p e below _ (T2.setTop (mkF m 58 #[iv p1, .val (.long q2), .second, iv ((p1 &&& (2147483647 : Int32)) - (p1 &&& (2147483647 : Int32)) / (3 : Int32) * (3 : Int32)), rv aM, .val (.long (60 : Int64)), .second, .unset, .unset, .unset, .unset] [(.long (60 : Int64)), (.long (-9223372036854775808 : Int64)), (.long q2)]))
    refine Go.pre (fun _ k => XS.ladd X2.here hx rfl (hb hby at_58) rfl k) ?_
    show Go p e below _ (T2.setTop (mkF m 59 #[iv p1, .val (.long q2), .second, iv ((p1 &&& (2147483647 : Int32)) - (p1 &&& (2147483647 : Int32)) / (3 : Int32) * (3 : Int32)), rv aM, .val (.long (60 : Int64)), .second, .unset, .unset, .unset, .unset] [(.long ((-9223372036854775808 : Int64) + (60 : Int64))), (.long q2)]))
    refine Go.pre (fun _ k => XS.lcmp X2.here hx rfl (hb hby at_59) rfl k) ?_
    show Go p e below _ (T2.setTop (mkF m 60 #[iv p1, .val (.long q2), .second, iv ((p1 &&& (2147483647 : Int32)) - (p1 &&& (2147483647 : Int32)) / (3 : Int32) * (3 : Int32)), rv aM, .val (.long (60 : Int64)), .second, .unset, .unset, .unset, .unset] [(.int (lcmpW q2 ((-9223372036854775808 : Int64) + (60 : Int64))))]))
    by_cases hc60_3 : q2 < ((-9223372036854775808 : Int64) + (60 : Int64))
    · skip
      refine Go.pre (fun _ k => XS.ifNo X2.here hx rfl (hb hby at_60) rfl ((if0 _ _).trans (tlt (own_ltT hc60_3)).2.1) k) ?_
      show Go p e below _ (T2.setTop (mkF m 63 #[iv p1, .val (.long q2), .second, iv ((p1 &&& (2147483647 : Int32)) - (p1 &&& (2147483647 : Int32)) / (3 : Int32) * (3 : Int32)), rv aM, .val (.long (60 : Int64)), .second, .unset, .unset, .unset, .unset] []))
      refine Go.pre (fun _ k => XS.iconst X2.here hx rfl (hb hby at_63) k) ?_
      show Go p e below _ (T2.setTop (mkF m 64 #[iv p1, .val (.long q2), .second, iv ((p1 &&& (2147483647 : Int32)) - (p1 &&& (2147483647 : Int32)) / (3 : Int32) * (3 : Int32)), rv aM, .val (.long (60 : Int64)), .second, .unset, .unset, .unset, .unset] [(.int (1 : Int32))]))
      obtain ⟨fs, hr, hrun, hended, hW, hsame⟩ := X2.leave (v := some (.int (1 : Int32))) (fun h => by rw [Bd.returns] at h; cases h)
      refine Go.fin (retN X2 hx (t := .boolean) Bd.returns (by simp) (hb hby at_64) hr) ⟨hrun, hended, _, _, rfl, ?_, ⟨_, rfl⟩, hW, hsame.mono (by decide) (by decide)⟩
      exact ⟨rfl, N0⟩
    · skip
      refine Go.pre (fun _ k => XS.ifYes X2.here hx rfl (pc0 := 60) (pc' := 65) rfl (hb hby at_60) rfl ((if0 _ _).trans (flt (own_ltF hc60_3)).2.1) (by decide) (by decide) k) ?_
      show Go p e below _ (T2.setTop (mkF m 65 #[iv p1, .val (.long q2), .second, iv ((p1 &&& (2147483647 : Int32)) - (p1 &&& (2147483647 : Int32)) / (3 : Int32) * (3 : Int32)), rv aM, .val (.long (60 : Int64)), .second, .unset, .unset, .unset, .unset] []))
      refine Go.pre (fun _ k => XS.aload X2.here hx rfl (hb hby at_65) rfl rfl k) ?_
      show Go p e below _ (T2.setTop (mkF m 67 #[iv p1, .val (.long q2), .second, iv ((p1 &&& (2147483647 : Int32)) - (p1 &&& (2147483647 : Int32)) / (3 : Int32) * (3 : Int32)), rv aM, .val (.long (60 : Int64)), .second, .unset, .unset, .unset, .unset] [(.ref aM)]))
      refine Go.pre (fun _ k => XS.lloadN X2.here hx rfl (hb hby at_67) rfl k) ?_
      show Go p e below _ (T2.setTop (mkF m 68 #[iv p1, .val (.long q2), .second, iv ((p1 &&& (2147483647 : Int32)) - (p1 &&& (2147483647 : Int32)) / (3 : Int32) * (3 : Int32)), rv aM, .val (.long (60 : Int64)), .second, .unset, .unset, .unset, .unset] [(.long q2), (.ref aM)]))
      obtain ⟨cq4, kq4, q4a, q4b, q4c⟩ := isOf hZ e2 E_aM
      obtain ⟨_, _, ⟨T4, L4, k4, n4⟩, -, X4, ⟨Lc4, hQ4, l4, y4, z4⟩, st4⟩ := X2.virtualBack hx (y := (⟨"com/example/sluice/sluice/Interval", "start", "(J)J"⟩ : MethodName)) (z := (⟨"com/example/sluice/sluice/Interval", "start", "(J)J"⟩ : MethodName)) hown (mvT hZ (hw _ (List.mem_of_getElem? (i := 6) rfl))) (mvT hZ (hw _ (List.mem_of_getElem? (i := 7) rfl))) (notFace_of_selects (args := #[]) (mvT hZ (hw _ (List.mem_of_getElem? (i := 9) rfl)))) (mvT hZ (hw _ (List.mem_of_getElem? (i := 9) rfl))) (mvT hZ (hw _ (List.mem_of_getElem? (i := 8) rfl))) (by decide) (backOf (W := 0) (rm_st l Z a0 hw [] aM q2 (60 : Int64) h0 n0 Z0 F_aM (by decide)) hZ (hw _ (List.mem_of_getElem? (i := 10) rfl)) (hw _ (List.mem_of_getElem? (i := 2) rfl)) (by decide) (by decide)) q4a q4c (g := (mkF m 68 #[iv p1, .val (.long q2), .second, iv ((p1 &&& (2147483647 : Int32)) - (p1 &&& (2147483647 : Int32)) / (3 : Int32) * (3 : Int32)), rv aM, .val (.long (60 : Int64)), .second, .unset, .unset, .unset, .unset] [(.long q2), (.ref aM)])) rfl (by rw [hml]; rfl) (Steps.refl _) (argsL := [(.long q2)]) (rest := []) (lenOf pd_1 rfl) rfl (by show 2 * 0 + _ ≤ _; exact Nat.le_of_eq rfl) (hb hby at_68) (fun _ _ => ⟨rfl, e2, (by decide : 0 + 0 ≤ _), (by decide : 0 + 0 ≤ _)⟩)
      dsimp only [Pt.U, Pt.locs, Pt.cells, Pt.slots] at X4 l4 y4 z4 st4 hQ4
      subst l4 y4 z4
      refine Go.pre (own_cut st4) ?_
      obtain ⟨rfl, N4q, eh4⟩ := hQ4
      have N4 := Fr.app N0 N4q
      show Go p e below _ (T4.setTop (mkF m 71 #[iv p1, .val (.long q2), .second, iv ((p1 &&& (2147483647 : Int32)) - (p1 &&& (2147483647 : Int32)) / (3 : Int32) * (3 : Int32)), rv aM, .val (.long (60 : Int64)), .second, .unset, .unset, .unset, .unset] [(.long (own_fd q2 (60 : Int64) * (60 : Int64)))]))
      refine Go.pre (fun _ k => XS.lstore X4.here hx rfl (hb hby at_71) rfl (l' := #[iv p1, .val (.long q2), .second, iv ((p1 &&& (2147483647 : Int32)) - (p1 &&& (2147483647 : Int32)) / (3 : Int32) * (3 : Int32)), rv aM, .val (.long (60 : Int64)), .second, .val (.long (own_fd q2 (60 : Int64) * (60 : Int64))), .second, .unset, .unset]) rfl k) ?_
      show Go p e below _ (T4.setTop (mkF m 73 #[iv p1, .val (.long q2), .second, iv ((p1 &&& (2147483647 : Int32)) - (p1 &&& (2147483647 : Int32)) / (3 : Int32) * (3 : Int32)), rv aM, .val (.long (60 : Int64)), .second, .val (.long (own_fd q2 (60 : Int64) * (60 : Int64))), .second, .unset, .unset] []))
      refine Go.pre (fun _ k => XS.lload X4.here hx rfl (hb hby at_73) rfl k) ?_
      show Go p e below _ (T4.setTop (mkF m 75 #[iv p1, .val (.long q2), .second, iv ((p1 &&& (2147483647 : Int32)) - (p1 &&& (2147483647 : Int32)) / (3 : Int32) * (3 : Int32)), rv aM, .val (.long (60 : Int64)), .second, .val (.long (own_fd q2 (60 : Int64) * (60 : Int64))), .second, .unset, .unset] [(.long (own_fd q2 (60 : Int64) * (60 : Int64)))]))
      refine Go.pre (fun _ k => XS.lloadN X4.here hx rfl (hb hby at_75) rfl k) ?_
      show Go p e below _ (T4.setTop (mkF m 76 #[iv p1, .val (.long q2), .second, iv ((p1 &&& (2147483647 : Int32)) - (p1 &&& (2147483647 : Int32)) / (3 : Int32) * (3 : Int32)), rv aM, .val (.long (60 : Int64)), .second, .val (.long (own_fd q2 (60 : Int64) * (60 : Int64))), .second, .unset, .unset] [(.long q2), (.long (own_fd q2 (60 : Int64) * (60 : Int64)))]))
      refine Go.pre (fun _ k => XS.lcmp X4.here hx rfl (hb hby at_76) rfl k) ?_
      show Go p e below _ (T4.setTop (mkF m 77 #[iv p1, .val (.long q2), .second, iv ((p1 &&& (2147483647 : Int32)) - (p1 &&& (2147483647 : Int32)) / (3 : Int32) * (3 : Int32)), rv aM, .val (.long (60 : Int64)), .second, .val (.long (own_fd q2 (60 : Int64) * (60 : Int64))), .second, .unset, .unset] [(.int (lcmpW (own_fd q2 (60 : Int64) * (60 : Int64)) q2))]))
      refine Go.pre (fun _ k => XS.ifYes X4.here hx rfl (pc0 := 77) (pc' := 82) rfl (hb hby at_77) rfl ((if0 _ _).trans (flt (own_gtF (own_c1 (by decide) (own_lim (x := q2) (k := (60 : Int64)) (by decide) hc60_3)))).2.2.2) (by decide) (by decide) k) ?_
      show Go p e below _ (T4.setTop (mkF m 82 #[iv p1, .val (.long q2), .second, iv ((p1 &&& (2147483647 : Int32)) - (p1 &&& (2147483647 : Int32)) / (3 : Int32) * (3 : Int32)), rv aM, .val (.long (60 : Int64)), .second, .val (.long (own_fd q2 (60 : Int64) * (60 : Int64))), .second, .unset, .unset] []))
      refine Go.pre (fun _ k => XS.lloadN X4.here hx rfl (hb hby at_82) rfl k) ?_
      show Go p e below _ (T4.setTop (mkF m 83 #[iv p1, .val (.long q2), .second, iv ((p1 &&& (2147483647 : Int32)) - (p1 &&& (2147483647 : Int32)) / (3 : Int32) * (3 : Int32)), rv aM, .val (.long (60 : Int64)), .second, .val (.long (own_fd q2 (60 : Int64) * (60 : Int64))), .second, .unset, .unset] [(.long q2)]))
      refine Go.pre (fun _ k => XS.lload X4.here hx rfl (hb hby at_83) rfl k) ?_
      show Go p e below _ (T4.setTop (mkF m 85 #[iv p1, .val (.long q2), .second, iv ((p1 &&& (2147483647 : Int32)) - (p1 &&& (2147483647 : Int32)) / (3 : Int32) * (3 : Int32)), rv aM, .val (.long (60 : Int64)), .second, .val (.long (own_fd q2 (60 : Int64) * (60 : Int64))), .second, .unset, .unset] [(.long (own_fd q2 (60 : Int64) * (60 : Int64))), (.long q2)]))
      refine Go.pre (fun _ k => XS.lsub X4.here hx rfl (hb hby at_85) rfl k) ?_
      show Go p e below _ (T4.setTop (mkF m 86 #[iv p1, .val (.long q2), .second, iv ((p1 &&& (2147483647 : Int32)) - (p1 &&& (2147483647 : Int32)) / (3 : Int32) * (3 : Int32)), rv aM, .val (.long (60 : Int64)), .second, .val (.long (own_fd q2 (60 : Int64) * (60 : Int64))), .second, .unset, .unset] [(.long (q2 - (own_fd q2 (60 : Int64) * (60 : Int64))))]))
      refine Go.pre (fun _ k => XS.lstore X4.here hx rfl (hb hby at_86) rfl (l' := #[iv p1, .val (.long q2), .second, iv ((p1 &&& (2147483647 : Int32)) - (p1 &&& (2147483647 : Int32)) / (3 : Int32) * (3 : Int32)), rv aM, .val (.long (60 : Int64)), .second, .val (.long (own_fd q2 (60 : Int64) * (60 : Int64))), .second, .val (.long (q2 - (own_fd q2 (60 : Int64) * (60 : Int64)))), .second]) rfl k) ?_
      show Go p e below _ (T4.setTop (mkF m 88 #[iv p1, .val (.long q2), .second, iv ((p1 &&& (2147483647 : Int32)) - (p1 &&& (2147483647 : Int32)) / (3 : Int32) * (3 : Int32)), rv aM, .val (.long (60 : Int64)), .second, .val (.long (own_fd q2 (60 : Int64) * (60 : Int64))), .second, .val (.long (q2 - (own_fd q2 (60 : Int64) * (60 : Int64)))), .second] []))
      refine Go.pre (fun _ k => XS.lload X4.here hx rfl (hb hby at_88) rfl k) ?_
      show Go p e below _ (T4.setTop (mkF m 90 #[iv p1, .val (.long q2), .second, iv ((p1 &&& (2147483647 : Int32)) - (p1 &&& (2147483647 : Int32)) / (3 : Int32) * (3 : Int32)), rv aM, .val (.long (60 : Int64)), .second, .val (.long (own_fd q2 (60 : Int64) * (60 : Int64))), .second, .val (.long (q2 - (own_fd q2 (60 : Int64) * (60 : Int64)))), .second] [(.long (q2 - (own_fd q2 (60 : Int64) * (60 : Int64))))]))
      refine Go.pre (fun _ k => XS.lconst X4.here hx rfl (hb hby at_90) k) ?_
      show Go p e below _ (T4.setTop (mkF m 91 #[iv p1, .val (.long q2), .second, iv ((p1 &&& (2147483647 : Int32)) - (p1 &&& (2147483647 : Int32)) / (3 : Int32) * (3 : Int32)), rv aM, .val (.long (60 : Int64)), .second, .val (.long (own_fd q2 (60 : Int64) * (60 : Int64))), .second, .val (.long (q2 - (own_fd q2 (60 : Int64) * (60 : Int64)))), .second] [(.long (0 : Int64)), (.long (q2 - (own_fd q2 (60 : Int64) * (60 : Int64))))]))
      refine Go.pre (fun _ k => XS.lcmp X4.here hx rfl (hb hby at_91) rfl k) ?_
      show Go p e below _ (T4.setTop (mkF m 92 #[iv p1, .val (.long q2), .second, iv ((p1 &&& (2147483647 : Int32)) - (p1 &&& (2147483647 : Int32)) / (3 : Int32) * (3 : Int32)), rv aM, .val (.long (60 : Int64)), .second, .val (.long (own_fd q2 (60 : Int64) * (60 : Int64))), .second, .val (.long (q2 - (own_fd q2 (60 : Int64) * (60 : Int64)))), .second] [(.int (lcmpW (q2 - (own_fd q2 (60 : Int64) * (60 : Int64))) (0 : Int64)))]))
      refine Go.pre (fun _ k => XS.ifNo X4.here hx rfl (hb hby at_92) rfl ((if0 _ _).trans (flt (own_ltF (own_c2 (by decide) (own_lim (x := q2) (k := (60 : Int64)) (by decide) hc60_3)))).1) k) ?_
      show Go p e below _ (T4.setTop (mkF m 95 #[iv p1, .val (.long q2), .second, iv ((p1 &&& (2147483647 : Int32)) - (p1 &&& (2147483647 : Int32)) / (3 : Int32) * (3 : Int32)), rv aM, .val (.long (60 : Int64)), .second, .val (.long (own_fd q2 (60 : Int64) * (60 : Int64))), .second, .val (.long (q2 - (own_fd q2 (60 : Int64) * (60 : Int64)))), .second] []))
      refine Go.pre (fun _ k => XS.lload X4.here hx rfl (hb hby at_95) rfl k) ?_
      show Go p e below _ (T4.setTop (mkF m 97 #[iv p1, .val (.long q2), .second, iv ((p1 &&& (2147483647 : Int32)) - (p1 &&& (2147483647 : Int32)) / (3 : Int32) * (3 : Int32)), rv aM, .val (.long (60 : Int64)), .second, .val (.long (own_fd q2 (60 : Int64) * (60 : Int64))), .second, .val (.long (q2 - (own_fd q2 (60 : Int64) * (60 : Int64)))), .second] [(.long (q2 - (own_fd q2 (60 : Int64) * (60 : Int64))))]))
      refine Go.pre (fun _ k => XS.lload X4.here hx rfl (hb hby at_97) rfl k) ?_
      show Go p e below _ (T4.setTop (mkF m 99 #[iv p1, .val (.long q2), .second, iv ((p1 &&& (2147483647 : Int32)) - (p1 &&& (2147483647 : Int32)) / (3 : Int32) * (3 : Int32)), rv aM, .val (.long (60 : Int64)), .second, .val (.long (own_fd q2 (60 : Int64) * (60 : Int64))), .second, .val (.long (q2 - (own_fd q2 (60 : Int64) * (60 : Int64)))), .second] [(.long (60 : Int64)), (.long (q2 - (own_fd q2 (60 : Int64) * (60 : Int64))))]))
      refine Go.pre (fun _ k => XS.lcmp X4.here hx rfl (hb hby at_99) rfl k) ?_
      show Go p e below _ (T4.setTop (mkF m 100 #[iv p1, .val (.long q2), .second, iv ((p1 &&& (2147483647 : Int32)) - (p1 &&& (2147483647 : Int32)) / (3 : Int32) * (3 : Int32)), rv aM, .val (.long (60 : Int64)), .second, .val (.long (own_fd q2 (60 : Int64) * (60 : Int64))), .second, .val (.long (q2 - (own_fd q2 (60 : Int64) * (60 : Int64)))), .second] [(.int (lcmpW (q2 - (own_fd q2 (60 : Int64) * (60 : Int64))) (60 : Int64)))]))
      refine Go.pre (fun _ k => XS.ifYes X4.here hx rfl (pc0 := 100) (pc' := 105) rfl (hb hby at_100) rfl ((if0 _ _).trans (tlt (own_ltT (own_c3 (by decide) (own_lim (x := q2) (k := (60 : Int64)) (by decide) hc60_3)))).1) (by decide) (by decide) k) ?_
      show Go p e below _ (T4.setTop (mkF m 105 #[iv p1, .val (.long q2), .second, iv ((p1 &&& (2147483647 : Int32)) - (p1 &&& (2147483647 : Int32)) / (3 : Int32) * (3 : Int32)), rv aM, .val (.long (60 : Int64)), .second, .val (.long (own_fd q2 (60 : Int64) * (60 : Int64))), .second, .val (.long (q2 - (own_fd q2 (60 : Int64) * (60 : Int64)))), .second] []))
      refine Go.pre (fun _ k => XS.lload X4.here hx rfl (hb hby at_105) rfl k) ?_
      show Go p e below _ (T4.setTop (mkF m 107 #[iv p1, .val (.long q2), .second, iv ((p1 &&& (2147483647 : Int32)) - (p1 &&& (2147483647 : Int32)) / (3 : Int32) * (3 : Int32)), rv aM, .val (.long (60 : Int64)), .second, .val (.long (own_fd q2 (60 : Int64) * (60 : Int64))), .second, .val (.long (q2 - (own_fd q2 (60 : Int64) * (60 : Int64)))), .second] [(.long (own_fd q2 (60 : Int64) * (60 : Int64)))]))
      refine Go.pre (fun _ k => XS.lload X4.here hx rfl (hb hby at_107) rfl k) ?_
      show Go p e below _ (T4.setTop (mkF m 109 #[iv p1, .val (.long q2), .second, iv ((p1 &&& (2147483647 : Int32)) - (p1 &&& (2147483647 : Int32)) / (3 : Int32) * (3 : Int32)), rv aM, .val (.long (60 : Int64)), .second, .val (.long (own_fd q2 (60 : Int64) * (60 : Int64))), .second, .val (.long (q2 - (own_fd q2 (60 : Int64) * (60 : Int64)))), .second] [(.long (60 : Int64)), (.long (own_fd q2 (60 : Int64) * (60 : Int64)))]))
      refine Go.pre (fun _ k => XS.lrem X4.here hx rfl (hb hby at_109) rfl (by decide) k) ?_
      show Go p e below _ (T4.setTop (mkF m 110 #[iv p1, .val (.long q2), .second, iv ((p1 &&& (2147483647 : Int32)) - (p1 &&& (2147483647 : Int32)) / (3 : Int32) * (3 : Int32)), rv aM, .val (.long (60 : Int64)), .second, .val (.long (own_fd q2 (60 : Int64) * (60 : Int64))), .second, .val (.long (q2 - (own_fd q2 (60 : Int64) * (60 : Int64)))), .second] [(.long ((own_fd q2 (60 : Int64) * (60 : Int64)) - (own_fd q2 (60 : Int64) * (60 : Int64)) / (60 : Int64) * (60 : Int64)))]))
      refine Go.pre (fun _ k => XS.lconst X4.here hx rfl (hb hby at_110) k) ?_
      show Go p e below _ (T4.setTop (mkF m 111 #[iv p1, .val (.long q2), .second, iv ((p1 &&& (2147483647 : Int32)) - (p1 &&& (2147483647 : Int32)) / (3 : Int32) * (3 : Int32)), rv aM, .val (.long (60 : Int64)), .second, .val (.long (own_fd q2 (60 : Int64) * (60 : Int64))), .second, .val (.long (q2 - (own_fd q2 (60 : Int64) * (60 : Int64)))), .second] [(.long (0 : Int64)), (.long ((own_fd q2 (60 : Int64) * (60 : Int64)) - (own_fd q2 (60 : Int64) * (60 : Int64)) / (60 : Int64) * (60 : Int64)))]))
      refine Go.pre (fun _ k => XS.lcmp X4.here hx rfl (hb hby at_111) rfl k) ?_
      show Go p e below _ (T4.setTop (mkF m 112 #[iv p1, .val (.long q2), .second, iv ((p1 &&& (2147483647 : Int32)) - (p1 &&& (2147483647 : Int32)) / (3 : Int32) * (3 : Int32)), rv aM, .val (.long (60 : Int64)), .second, .val (.long (own_fd q2 (60 : Int64) * (60 : Int64))), .second, .val (.long (q2 - (own_fd q2 (60 : Int64) * (60 : Int64)))), .second] [(.int (lcmpW ((own_fd q2 (60 : Int64) * (60 : Int64)) - (own_fd q2 (60 : Int64) * (60 : Int64)) / (60 : Int64) * (60 : Int64)) (0 : Int64)))]))
      refine Go.pre (fun _ k => XS.ifNo X4.here hx rfl (hb hby at_112) rfl ((if0 _ _).trans (teq (own_eqT (own_c4 (by decide) (own_lim (x := q2) (k := (60 : Int64)) (by decide) hc60_3)))).2) k) ?_
      show Go p e below _ (T4.setTop (mkF m 115 #[iv p1, .val (.long q2), .second, iv ((p1 &&& (2147483647 : Int32)) - (p1 &&& (2147483647 : Int32)) / (3 : Int32) * (3 : Int32)), rv aM, .val (.long (60 : Int64)), .second, .val (.long (own_fd q2 (60 : Int64) * (60 : Int64))), .second, .val (.long (q2 - (own_fd q2 (60 : Int64) * (60 : Int64)))), .second] []))
      refine Go.pre (fun _ k => XS.iconst X4.here hx rfl (hb hby at_115) k) ?_
      show Go p e below _ (T4.setTop (mkF m 116 #[iv p1, .val (.long q2), .second, iv ((p1 &&& (2147483647 : Int32)) - (p1 &&& (2147483647 : Int32)) / (3 : Int32) * (3 : Int32)), rv aM, .val (.long (60 : Int64)), .second, .val (.long (own_fd q2 (60 : Int64) * (60 : Int64))), .second, .val (.long (q2 - (own_fd q2 (60 : Int64) * (60 : Int64)))), .second] [(.int (1 : Int32))]))
      refine Go.pre (fun _ k => XS.goto X4.here hx rfl (pc0 := 116) (pc' := 120) rfl (hb hby at_116) (by decide) (by decide) k) ?_
      show Go p e below _ (T4.setTop (mkF m 120 #[iv p1, .val (.long q2), .second, iv ((p1 &&& (2147483647 : Int32)) - (p1 &&& (2147483647 : Int32)) / (3 : Int32) * (3 : Int32)), rv aM, .val (.long (60 : Int64)), .second, .val (.long (own_fd q2 (60 : Int64) * (60 : Int64))), .second, .val (.long (q2 - (own_fd q2 (60 : Int64) * (60 : Int64)))), .second] [(.int (1 : Int32))]))
      obtain ⟨fs, hr, hrun, hended, hW, hsame⟩ := X4.leave (v := some (.int (1 : Int32))) (fun h => by rw [Bd.returns] at h; cases h)
      refine Go.fin (retN X4 hx (t := .boolean) Bd.returns (by simp) (hb hby at_120) hr) ⟨hrun, hended, _, _, rfl, ?_, ⟨_, rfl⟩, hW, hsame.mono (by decide) (by decide)⟩
      exact ⟨rfl, N4⟩
  · skip
    refine Go.pre (fun _ k => XS.ifYes X0.here hx rfl (pc0 := 8) (pc' := 24) rfl (hb hby at_8) rfl ((if0 _ _).trans (feq hc8_1).2) (by decide) (by decide) k) ?_
    show Go p e below _ (s₁.setTop (mkF m 24 #[iv p1, .val (.long q2), .second, iv ((p1 &&& (2147483647 : Int32)) - (p1 &&& (2147483647 : Int32)) / (3 : Int32) * (3 : Int32)), .unset, .unset, .unset, .unset, .unset, .unset, .unset] []))
    refine Go.pre (fun _ k => XS.iloadN X0.here hx rfl (hb hby at_24) rfl k) ?_
    show Go p e below _ (s₁.setTop (mkF m 25 #[iv p1, .val (.long q2), .second, iv ((p1 &&& (2147483647 : Int32)) - (p1 &&& (2147483647 : Int32)) / (3 : Int32) * (3 : Int32)), .unset, .unset, .unset, .unset, .unset, .unset, .unset] [(.int ((p1 &&& (2147483647 : Int32)) - (p1 &&& (2147483647 : Int32)) / (3 : Int32) * (3 : Int32)))]))
    refine Go.pre (fun _ k => XS.iconst X0.here hx rfl (hb hby at_25) k) ?_
    show Go p e below _ (s₁.setTop (mkF m 26 #[iv p1, .val (.long q2), .second, iv ((p1 &&& (2147483647 : Int32)) - (p1 &&& (2147483647 : Int32)) / (3 : Int32) * (3 : Int32)), .unset, .unset, .unset, .unset, .unset, .unset, .unset] [(.int (1 : Int32)), (.int ((p1 &&& (2147483647 : Int32)) - (p1 &&& (2147483647 : Int32)) / (3 : Int32) * (3 : Int32)))]))
    by_cases hc26_5 : ((p1 &&& (2147483647 : Int32)) - (p1 &&& (2147483647 : Int32)) / (3 : Int32) * (3 : Int32)) = (1 : Int32)
    · skip
      refine Go.pre (fun _ k => XS.icmpNo X0.here hx rfl (hb hby at_26) rfl (teq hc26_5).2 k) ?_
      show Go p e below _ (s₁.setTop (mkF m 29 #[iv p1, .val (.long q2), .second, iv ((p1 &&& (2147483647 : Int32)) - (p1 &&& (2147483647 : Int32)) / (3 : Int32) * (3 : Int32)), .unset, .unset, .unset, .unset, .unset, .unset, .unset] []))
      obtain ⟨T6, X6, e6, st6⟩ := getS2 X0 hx hZ hown (host := "") (Or.inl (hw _ (List.mem_of_getElem? (i := 17) rfl))) Via.refl e0 S_aH (g := (mkF m 29 #[iv p1, .val (.long q2), .second, iv ((p1 &&& (2147483647 : Int32)) - (p1 &&& (2147483647 : Int32)) / (3 : Int32) * (3 : Int32)), .unset, .unset, .unset, .unset, .unset, .unset, .unset] [])) rfl (hb hby at_29)
      refine Go.pre st6 ?_
      show Go p e below _ (T6.setTop (mkF m 32 #[iv p1, .val (.long q2), .second, iv ((p1 &&& (2147483647 : Int32)) - (p1 &&& (2147483647 : Int32)) / (3 : Int32) * (3 : Int32)), .unset, .unset, .unset, .unset, .unset, .unset, .unset] [(.ref aH)]))
      refine Go.pre (fun _ k => XS.astore X6.here hx rfl (hb hby at_32) rfl rfl (l' := #[iv p1, .val (.long q2), .second, iv ((p1 &&& (2147483647 : Int32)) - (p1 &&& (2147483647 : Int32)) / (3 : Int32) * (3 : Int32)), rv aH, .unset, .unset, .unset, .unset, .unset, .unset]) rfl k) ?_
      show Go p e below _ (T6.setTop (mkF m 34 #[iv p1, .val (.long q2), .second, iv ((p1 &&& (2147483647 : Int32)) - (p1 &&& (2147483647 : Int32)) / (3 : Int32) * (3 : Int32)), rv aH, .unset, .unset, .unset, .unset, .unset, .unset] []))
      refine Go.pre (X6.ldc2Long hx hown (mvT hZ (hw _ (List.mem_of_getElem? (i := 19) rfl))) (g := (mkF m 34 #[iv p1, .val (.long q2), .second, iv ((p1 &&& (2147483647 : Int32)) - (p1 &&& (2147483647 : Int32)) / (3 : Int32) * (3 : Int32)), rv aH, .unset, .unset, .unset, .unset, .unset, .unset] [])) rfl (hb hby at_34)) ?_
      show Go p e below _ (T6.setTop (mkF m 37 #[iv p1, .val (.long q2), .second, iv ((p1 &&& (2147483647 : Int32)) - (p1 &&& (2147483647 : Int32)) / (3 : Int32) * (3 : Int32)), rv aH, .unset, .unset, .unset, .unset, .unset, .unset] [(.long (3600 : Int64))]))
      refine Go.pre (fun _ k => XS.lstore X6.here hx rfl (hb hby at_37) rfl (l' := #[iv p1, .val (.long q2), .second, iv ((p1 &&& (2147483647 : Int32)) - (p1 &&& (2147483647 : Int32)) / (3 : Int32) * (3 : Int32)), rv aH, .val (.long (3600 : Int64)), .second, .unset, .unset, .unset, .unset]) rfl k) ?_
      show Go p e below _ (T6.setTop (mkF m 39 #[iv p1, .val (.long q2), .second, iv ((p1 &&& (2147483647 : Int32)) - (p1 &&& (2147483647 : Int32)) / (3 : Int32) * (3 : Int32)), rv aH, .val (.long (3600 : Int64)), .second, .unset, .unset, .unset, .unset] []))
      refine Go.pre (fun _ k => XS.goto X6.here hx rfl (pc0 := 39) (pc' := 52) rfl (hb hby at_39) (by decide) (by decide) k) ?_
      show Go p e below _ (T6.setTop (mkF m 52 #[iv p1, .val (.long q2), .second, iv ((p1 &&& (2147483647 : Int32)) - (p1 &&& (2147483647 : Int32)) / (3 : Int32) * (3 : Int32)), rv aH, .val (.long (3600 : Int64)), .second, .unset, .unset, .unset, .unset] []))
      refine Go.pre (fun _ k => XS.lloadN X6.here hx rfl (hb hby at_52) rfl k) ?_
      show Go p e below _ (T6.setTop (mkF m 53 #[iv p1, .val (.long q2), .second, iv ((p1 &&& (2147483647 : Int32)) - (p1 &&& (2147483647 : Int32)) / (3 : Int32) * (3 : Int32)), rv aH, .val (.long (3600 : Int64)), .second, .unset, .unset, .unset, .unset] [(.long q2)]))
      refine Go.pre (X6.ldc2Long hx hown (mvT hZ (hw _ (List.mem_of_getElem? (i := 5) rfl))) (g := (mkF m 53 #[iv p1, .val (.long q2), .second, iv ((p1 &&& (2147483647 : Int32)) - (p1 &&& (2147483647 : Int32)) / (3 : Int32) * (3 : Int32)), rv aH, .val (.long (3600 : Int64)), .second, .unset, .unset, .unset, .unset] [(.long q2)])) rfl (hb hby at_53)) ?_
      show Go p e below _ (T6.setTop (mkF m 56 #[iv p1, .val (.long q2), .second, iv ((p1 &&& (2147483647 : Int32)) - (p1 &&& (2147483647 : Int32)) / (3 : Int32) * (3 : Int32)), rv aH, .val (.long (3600 : Int64)), .second, .unset, .unset, .unset, .unset] [(.long (-9223372036854775808 : Int64)), (.long q2)]))
      refine Go.pre (fun _ k => XS.lload X6.here hx rfl (hb hby at_56) rfl k) ?_
      show Go p e below _ (T6.setTop (mkF m 58 #[iv p1, .val (.long q2), .second, iv ((p1 &&& (2147483647 : Int32)) - (p1 &&& (2147483647 : Int32)) / (3 : Int32) * (3 : Int32)), rv aH, .val (.long (3600 : Int64)), .second, .unset, .unset, .unset, .unset] [(.long (3600 : Int64)), (.long (-9223372036854775808 : Int64)), (.long q2)]))
      refine Go.pre (fun _ k => XS.ladd X6.here hx rfl (hb hby at_58) rfl k) ?_
      show Go p e below _ (T6.setTop (mkF m 59 #[iv p1, .val (.long q2), .second, iv ((p1 &&& (2147483647 : Int32)) - (p1 &&& (2147483647 : Int32)) / (3 : Int32) * (3 : Int32)), rv aH, .val (.long (3600 : Int64)), .second, .unset, .unset, .unset, .unset] [(.long ((-9223372036854775808 : Int64) + (3600 : Int64))), (.long q2)]))
      refine Go.pre (fun _ k => XS.lcmp X6.here hx rfl (hb hby at_59) rfl k) ?_
      show Go p e below _ (T6.setTop (mkF m 60 #[iv p1, .val (.long q2), .second, iv ((p1 &&& (2147483647 : Int32)) - (p1 &&& (2147483647 : Int32)) / (3 : Int32) * (3 : Int32)), rv aH, .val (.long (3600 : Int64)), .second, .unset, .unset, .unset, .unset] [(.int (lcmpW q2 ((-9223372036854775808 : Int64) + (3600 : Int64))))]))
      by_cases hc60_7 : q2 < ((-9223372036854775808 : Int64) + (3600 : Int64))
      · skip
        refine Go.pre (fun _ k => XS.ifNo X6.here hx rfl (hb hby at_60) rfl ((if0 _ _).trans (tlt (own_ltT hc60_7)).2.1) k) ?_
        show Go p e below _ (T6.setTop (mkF m 63 #[iv p1, .val (.long q2), .second, iv ((p1 &&& (2147483647 : Int32)) - (p1 &&& (2147483647 : Int32)) / (3 : Int32) * (3 : Int32)), rv aH, .val (.long (3600 : Int64)), .second, .unset, .unset, .unset, .unset] []))
        refine Go.pre (fun _ k => XS.iconst X6.here hx rfl (hb hby at_63) k) ?_
        show Go p e below _ (T6.setTop (mkF m 64 #[iv p1, .val (.long q2), .second, iv ((p1 &&& (2147483647 : Int32)) - (p1 &&& (2147483647 : Int32)) / (3 : Int32) * (3 : Int32)), rv aH, .val (.long (3600 : Int64)), .second, .unset, .unset, .unset, .unset] [(.int (1 : Int32))]))
        obtain ⟨fs, hr, hrun, hended, hW, hsame⟩ := X6.leave (v := some (.int (1 : Int32))) (fun h => by rw [Bd.returns] at h; cases h)
        refine Go.fin (retN X6 hx (t := .boolean) Bd.returns (by simp) (hb hby at_64) hr) ⟨hrun, hended, _, _, rfl, ?_, ⟨_, rfl⟩, hW, hsame.mono (by decide) (by decide)⟩
        exact ⟨rfl, N0⟩
      · skip
        refine Go.pre (fun _ k => XS.ifYes X6.here hx rfl (pc0 := 60) (pc' := 65) rfl (hb hby at_60) rfl ((if0 _ _).trans (flt (own_ltF hc60_7)).2.1) (by decide) (by decide) k) ?_
        show Go p e below _ (T6.setTop (mkF m 65 #[iv p1, .val (.long q2), .second, iv ((p1 &&& (2147483647 : Int32)) - (p1 &&& (2147483647 : Int32)) / (3 : Int32) * (3 : Int32)), rv aH, .val (.long (3600 : Int64)), .second, .unset, .unset, .unset, .unset] []))
        refine Go.pre (fun _ k => XS.aload X6.here hx rfl (hb hby at_65) rfl rfl k) ?_
        show Go p e below _ (T6.setTop (mkF m 67 #[iv p1, .val (.long q2), .second, iv ((p1 &&& (2147483647 : Int32)) - (p1 &&& (2147483647 : Int32)) / (3 : Int32) * (3 : Int32)), rv aH, .val (.long (3600 : Int64)), .second, .unset, .unset, .unset, .unset] [(.ref aH)]))
        refine Go.pre (fun _ k => XS.lloadN X6.here hx rfl (hb hby at_67) rfl k) ?_
        show Go p e below _ (T6.setTop (mkF m 68 #[iv p1, .val (.long q2), .second, iv ((p1 &&& (2147483647 : Int32)) - (p1 &&& (2147483647 : Int32)) / (3 : Int32) * (3 : Int32)), rv aH, .val (.long (3600 : Int64)), .second, .unset, .unset, .unset, .unset] [(.long q2), (.ref aH)]))
        obtain ⟨cq8, kq8, q8a, q8b, q8c⟩ := isOf hZ e6 E_aH
        obtain ⟨_, _, ⟨T8, L8, k8, n8⟩, -, X8, ⟨Lc8, hQ8, l8, y8, z8⟩, st8⟩ := X6.virtualBack hx (y := (⟨"com/example/sluice/sluice/Interval", "start", "(J)J"⟩ : MethodName)) (z := (⟨"com/example/sluice/sluice/Interval", "start", "(J)J"⟩ : MethodName)) hown (mvT hZ (hw _ (List.mem_of_getElem? (i := 6) rfl))) (mvT hZ (hw _ (List.mem_of_getElem? (i := 7) rfl))) (notFace_of_selects (args := #[]) (mvT hZ (hw _ (List.mem_of_getElem? (i := 9) rfl)))) (mvT hZ (hw _ (List.mem_of_getElem? (i := 9) rfl))) (mvT hZ (hw _ (List.mem_of_getElem? (i := 8) rfl))) (by decide) (backOf (W := 0) (rm_st l Z a0 hw [] aH q2 (3600 : Int64) h0 n0 Z0 F_aH (by decide)) hZ (hw _ (List.mem_of_getElem? (i := 10) rfl)) (hw _ (List.mem_of_getElem? (i := 2) rfl)) (by decide) (by decide)) q8a q8c (g := (mkF m 68 #[iv p1, .val (.long q2), .second, iv ((p1 &&& (2147483647 : Int32)) - (p1 &&& (2147483647 : Int32)) / (3 : Int32) * (3 : Int32)), rv aH, .val (.long (3600 : Int64)), .second, .unset, .unset, .unset, .unset] [(.long q2), (.ref aH)])) rfl (by rw [hml]; rfl) (Steps.refl _) (argsL := [(.long q2)]) (rest := []) (lenOf pd_1 rfl) rfl (by show 2 * 0 + _ ≤ _; exact Nat.le_of_eq rfl) (hb hby at_68) (fun _ _ => ⟨rfl, e6, (by decide : 0 + 0 ≤ _), (by decide : 0 + 0 ≤ _)⟩)
        dsimp only [Pt.U, Pt.locs, Pt.cells, Pt.slots] at X8 l8 y8 z8 st8 hQ8
        subst l8 y8 z8
        refine Go.pre (own_cut st8) ?_
        obtain ⟨rfl, N8q, eh8⟩ := hQ8
        have N8 := Fr.app N0 N8q
        show Go p e below _ (T8.setTop (mkF m 71 #[iv p1, .val (.long q2), .second, iv ((p1 &&& (2147483647 : Int32)) - (p1 &&& (2147483647 : Int32)) / (3 : Int32) * (3 : Int32)), rv aH, .val (.long (3600 : Int64)), .second, .unset, .unset, .unset, .unset] [(.long (own_fd q2 (3600 : Int64) * (3600 : Int64)))]))
        refine Go.pre (fun _ k => XS.lstore X8.here hx rfl (hb hby at_71) rfl (l' := #[iv p1, .val (.long q2), .second, iv ((p1 &&& (2147483647 : Int32)) - (p1 &&& (2147483647 : Int32)) / (3 : Int32) * (3 : Int32)), rv aH, .val (.long (3600 : Int64)), .second, .val (.long (own_fd q2 (3600 : Int64) * (3600 : Int64))), .second, .unset, .unset]) rfl k) ?_
        show Go p e below _ (T8.setTop (mkF m 73 #[iv p1, .val (.long q2), .second, iv ((p1 &&& (2147483647 : Int32)) - (p1 &&& (2147483647 : Int32)) / (3 : Int32) * (3 : Int32)), rv aH, .val (.long (3600 : Int64)), .second, .val (.long (own_fd q2 (3600 : Int64) * (3600 : Int64))), .second, .unset, .unset] []))
        refine Go.pre (fun _ k => XS.lload X8.here hx rfl (hb hby at_73) rfl k) ?_
        show Go p e below _ (T8.setTop (mkF m 75 #[iv p1, .val (.long q2), .second, iv ((p1 &&& (2147483647 : Int32)) - (p1 &&& (2147483647 : Int32)) / (3 : Int32) * (3 : Int32)), rv aH, .val (.long (3600 : Int64)), .second, .val (.long (own_fd q2 (3600 : Int64) * (3600 : Int64))), .second, .unset, .unset] [(.long (own_fd q2 (3600 : Int64) * (3600 : Int64)))]))
        refine Go.pre (fun _ k => XS.lloadN X8.here hx rfl (hb hby at_75) rfl k) ?_
        show Go p e below _ (T8.setTop (mkF m 76 #[iv p1, .val (.long q2), .second, iv ((p1 &&& (2147483647 : Int32)) - (p1 &&& (2147483647 : Int32)) / (3 : Int32) * (3 : Int32)), rv aH, .val (.long (3600 : Int64)), .second, .val (.long (own_fd q2 (3600 : Int64) * (3600 : Int64))), .second, .unset, .unset] [(.long q2), (.long (own_fd q2 (3600 : Int64) * (3600 : Int64)))]))
        refine Go.pre (fun _ k => XS.lcmp X8.here hx rfl (hb hby at_76) rfl k) ?_
        show Go p e below _ (T8.setTop (mkF m 77 #[iv p1, .val (.long q2), .second, iv ((p1 &&& (2147483647 : Int32)) - (p1 &&& (2147483647 : Int32)) / (3 : Int32) * (3 : Int32)), rv aH, .val (.long (3600 : Int64)), .second, .val (.long (own_fd q2 (3600 : Int64) * (3600 : Int64))), .second, .unset, .unset] [(.int (lcmpW (own_fd q2 (3600 : Int64) * (3600 : Int64)) q2))]))
        refine Go.pre (fun _ k => XS.ifYes X8.here hx rfl (pc0 := 77) (pc' := 82) rfl (hb hby at_77) rfl ((if0 _ _).trans (flt (own_gtF (own_c1 (by decide) (own_lim (x := q2) (k := (3600 : Int64)) (by decide) hc60_7)))).2.2.2) (by decide) (by decide) k) ?_
        show Go p e below _ (T8.setTop (mkF m 82 #[iv p1, .val (.long q2), .second, iv ((p1 &&& (2147483647 : Int32)) - (p1 &&& (2147483647 : Int32)) / (3 : Int32) * (3 : Int32)), rv aH, .val (.long (3600 : Int64)), .second, .val (.long (own_fd q2 (3600 : Int64) * (3600 : Int64))), .second, .unset, .unset] []))
        refine Go.pre (fun _ k => XS.lloadN X8.here hx rfl (hb hby at_82) rfl k) ?_
        show Go p e below _ (T8.setTop (mkF m 83 #[iv p1, .val (.long q2), .second, iv ((p1 &&& (2147483647 : Int32)) - (p1 &&& (2147483647 : Int32)) / (3 : Int32) * (3 : Int32)), rv aH, .val (.long (3600 : Int64)), .second, .val (.long (own_fd q2 (3600 : Int64) * (3600 : Int64))), .second, .unset, .unset] [(.long q2)]))
        refine Go.pre (fun _ k => XS.lload X8.here hx rfl (hb hby at_83) rfl k) ?_
        show Go p e below _ (T8.setTop (mkF m 85 #[iv p1, .val (.long q2), .second, iv ((p1 &&& (2147483647 : Int32)) - (p1 &&& (2147483647 : Int32)) / (3 : Int32) * (3 : Int32)), rv aH, .val (.long (3600 : Int64)), .second, .val (.long (own_fd q2 (3600 : Int64) * (3600 : Int64))), .second, .unset, .unset] [(.long (own_fd q2 (3600 : Int64) * (3600 : Int64))), (.long q2)]))
        refine Go.pre (fun _ k => XS.lsub X8.here hx rfl (hb hby at_85) rfl k) ?_
        show Go p e below _ (T8.setTop (mkF m 86 #[iv p1, .val (.long q2), .second, iv ((p1 &&& (2147483647 : Int32)) - (p1 &&& (2147483647 : Int32)) / (3 : Int32) * (3 : Int32)), rv aH, .val (.long (3600 : Int64)), .second, .val (.long (own_fd q2 (3600 : Int64) * (3600 : Int64))), .second, .unset, .unset] [(.long (q2 - (own_fd q2 (3600 : Int64) * (3600 : Int64))))]))
        refine Go.pre (fun _ k => XS.lstore X8.here hx rfl (hb hby at_86) rfl (l' := #[iv p1, .val (.long q2), .second, iv ((p1 &&& (2147483647 : Int32)) - (p1 &&& (2147483647 : Int32)) / (3 : Int32) * (3 : Int32)), rv aH, .val (.long (3600 : Int64)), .second, .val (.long (own_fd q2 (3600 : Int64) * (3600 : Int64))), .second, .val (.long (q2 - (own_fd q2 (3600 : Int64) * (3600 : Int64)))), .second]) rfl k) ?_
        show Go p e below _ (T8.setTop (mkF m 88 #[iv p1, .val (.long q2), .second, iv ((p1 &&& (2147483647 : Int32)) - (p1 &&& (2147483647 : Int32)) / (3 : Int32) * (3 : Int32)), rv aH, .val (.long (3600 : Int64)), .second, .val (.long (own_fd q2 (3600 : Int64) * (3600 : Int64))), .second, .val (.long (q2 - (own_fd q2 (3600 : Int64) * (3600 : Int64)))), .second] []))
        refine Go.pre (fun _ k => XS.lload X8.here hx rfl (hb hby at_88) rfl k) ?_
        show Go p e below _ (T8.setTop (mkF m 90 #[iv p1, .val (.long q2), .second, iv ((p1 &&& (2147483647 : Int32)) - (p1 &&& (2147483647 : Int32)) / (3 : Int32) * (3 : Int32)), rv aH, .val (.long (3600 : Int64)), .second, .val (.long (own_fd q2 (3600 : Int64) * (3600 : Int64))), .second, .val (.long (q2 - (own_fd q2 (3600 : Int64) * (3600 : Int64)))), .second] [(.long (q2 - (own_fd q2 (3600 : Int64) * (3600 : Int64))))]))
        refine Go.pre (fun _ k => XS.lconst X8.here hx rfl (hb hby at_90) k) ?_
        show Go p e below _ (T8.setTop (mkF m 91 #[iv p1, .val (.long q2), .second, iv ((p1 &&& (2147483647 : Int32)) - (p1 &&& (2147483647 : Int32)) / (3 : Int32) * (3 : Int32)), rv aH, .val (.long (3600 : Int64)), .second, .val (.long (own_fd q2 (3600 : Int64) * (3600 : Int64))), .second, .val (.long (q2 - (own_fd q2 (3600 : Int64) * (3600 : Int64)))), .second] [(.long (0 : Int64)), (.long (q2 - (own_fd q2 (3600 : Int64) * (3600 : Int64))))]))
        refine Go.pre (fun _ k => XS.lcmp X8.here hx rfl (hb hby at_91) rfl k) ?_
        show Go p e below _ (T8.setTop (mkF m 92 #[iv p1, .val (.long q2), .second, iv ((p1 &&& (2147483647 : Int32)) - (p1 &&& (2147483647 : Int32)) / (3 : Int32) * (3 : Int32)), rv aH, .val (.long (3600 : Int64)), .second, .val (.long (own_fd q2 (3600 : Int64) * (3600 : Int64))), .second, .val (.long (q2 - (own_fd q2 (3600 : Int64) * (3600 : Int64)))), .second] [(.int (lcmpW (q2 - (own_fd q2 (3600 : Int64) * (3600 : Int64))) (0 : Int64)))]))
        refine Go.pre (fun _ k => XS.ifNo X8.here hx rfl (hb hby at_92) rfl ((if0 _ _).trans (flt (own_ltF (own_c2 (by decide) (own_lim (x := q2) (k := (3600 : Int64)) (by decide) hc60_7)))).1) k) ?_
        show Go p e below _ (T8.setTop (mkF m 95 #[iv p1, .val (.long q2), .second, iv ((p1 &&& (2147483647 : Int32)) - (p1 &&& (2147483647 : Int32)) / (3 : Int32) * (3 : Int32)), rv aH, .val (.long (3600 : Int64)), .second, .val (.long (own_fd q2 (3600 : Int64) * (3600 : Int64))), .second, .val (.long (q2 - (own_fd q2 (3600 : Int64) * (3600 : Int64)))), .second] []))
        refine Go.pre (fun _ k => XS.lload X8.here hx rfl (hb hby at_95) rfl k) ?_
        show Go p e below _ (T8.setTop (mkF m 97 #[iv p1, .val (.long q2), .second, iv ((p1 &&& (2147483647 : Int32)) - (p1 &&& (2147483647 : Int32)) / (3 : Int32) * (3 : Int32)), rv aH, .val (.long (3600 : Int64)), .second, .val (.long (own_fd q2 (3600 : Int64) * (3600 : Int64))), .second, .val (.long (q2 - (own_fd q2 (3600 : Int64) * (3600 : Int64)))), .second] [(.long (q2 - (own_fd q2 (3600 : Int64) * (3600 : Int64))))]))
        refine Go.pre (fun _ k => XS.lload X8.here hx rfl (hb hby at_97) rfl k) ?_
        show Go p e below _ (T8.setTop (mkF m 99 #[iv p1, .val (.long q2), .second, iv ((p1 &&& (2147483647 : Int32)) - (p1 &&& (2147483647 : Int32)) / (3 : Int32) * (3 : Int32)), rv aH, .val (.long (3600 : Int64)), .second, .val (.long (own_fd q2 (3600 : Int64) * (3600 : Int64))), .second, .val (.long (q2 - (own_fd q2 (3600 : Int64) * (3600 : Int64)))), .second] [(.long (3600 : Int64)), (.long (q2 - (own_fd q2 (3600 : Int64) * (3600 : Int64))))]))
        refine Go.pre (fun _ k => XS.lcmp X8.here hx rfl (hb hby at_99) rfl k) ?_
        show Go p e below _ (T8.setTop (mkF m 100 #[iv p1, .val (.long q2), .second, iv ((p1 &&& (2147483647 : Int32)) - (p1 &&& (2147483647 : Int32)) / (3 : Int32) * (3 : Int32)), rv aH, .val (.long (3600 : Int64)), .second, .val (.long (own_fd q2 (3600 : Int64) * (3600 : Int64))), .second, .val (.long (q2 - (own_fd q2 (3600 : Int64) * (3600 : Int64)))), .second] [(.int (lcmpW (q2 - (own_fd q2 (3600 : Int64) * (3600 : Int64))) (3600 : Int64)))]))
        refine Go.pre (fun _ k => XS.ifYes X8.here hx rfl (pc0 := 100) (pc' := 105) rfl (hb hby at_100) rfl ((if0 _ _).trans (tlt (own_ltT (own_c3 (by decide) (own_lim (x := q2) (k := (3600 : Int64)) (by decide) hc60_7)))).1) (by decide) (by decide) k) ?_
        show Go p e below _ (T8.setTop (mkF m 105 #[iv p1, .val (.long q2), .second, iv ((p1 &&& (2147483647 : Int32)) - (p1 &&& (2147483647 : Int32)) / (3 : Int32) * (3 : Int32)), rv aH, .val (.long (3600 : Int64)), .second, .val (.long (own_fd q2 (3600 : Int64) * (3600 : Int64))), .second, .val (.long (q2 - (own_fd q2 (3600 : Int64) * (3600 : Int64)))), .second] []))
        refine Go.pre (fun _ k => XS.lload X8.here hx rfl (hb hby at_105) rfl k) ?_
        show Go p e below _ (T8.setTop (mkF m 107 #[iv p1, .val (.long q2), .second, iv ((p1 &&& (2147483647 : Int32)) - (p1 &&& (2147483647 : Int32)) / (3 : Int32) * (3 : Int32)), rv aH, .val (.long (3600 : Int64)), .second, .val (.long (own_fd q2 (3600 : Int64) * (3600 : Int64))), .second, .val (.long (q2 - (own_fd q2 (3600 : Int64) * (3600 : Int64)))), .second] [(.long (own_fd q2 (3600 : Int64) * (3600 : Int64)))]))
        refine Go.pre (fun _ k => XS.lload X8.here hx rfl (hb hby at_107) rfl k) ?_
        show Go p e below _ (T8.setTop (mkF m 109 #[iv p1, .val (.long q2), .second, iv ((p1 &&& (2147483647 : Int32)) - (p1 &&& (2147483647 : Int32)) / (3 : Int32) * (3 : Int32)), rv aH, .val (.long (3600 : Int64)), .second, .val (.long (own_fd q2 (3600 : Int64) * (3600 : Int64))), .second, .val (.long (q2 - (own_fd q2 (3600 : Int64) * (3600 : Int64)))), .second] [(.long (3600 : Int64)), (.long (own_fd q2 (3600 : Int64) * (3600 : Int64)))]))
        refine Go.pre (fun _ k => XS.lrem X8.here hx rfl (hb hby at_109) rfl (by decide) k) ?_
        show Go p e below _ (T8.setTop (mkF m 110 #[iv p1, .val (.long q2), .second, iv ((p1 &&& (2147483647 : Int32)) - (p1 &&& (2147483647 : Int32)) / (3 : Int32) * (3 : Int32)), rv aH, .val (.long (3600 : Int64)), .second, .val (.long (own_fd q2 (3600 : Int64) * (3600 : Int64))), .second, .val (.long (q2 - (own_fd q2 (3600 : Int64) * (3600 : Int64)))), .second] [(.long ((own_fd q2 (3600 : Int64) * (3600 : Int64)) - (own_fd q2 (3600 : Int64) * (3600 : Int64)) / (3600 : Int64) * (3600 : Int64)))]))
        refine Go.pre (fun _ k => XS.lconst X8.here hx rfl (hb hby at_110) k) ?_
        show Go p e below _ (T8.setTop (mkF m 111 #[iv p1, .val (.long q2), .second, iv ((p1 &&& (2147483647 : Int32)) - (p1 &&& (2147483647 : Int32)) / (3 : Int32) * (3 : Int32)), rv aH, .val (.long (3600 : Int64)), .second, .val (.long (own_fd q2 (3600 : Int64) * (3600 : Int64))), .second, .val (.long (q2 - (own_fd q2 (3600 : Int64) * (3600 : Int64)))), .second] [(.long (0 : Int64)), (.long ((own_fd q2 (3600 : Int64) * (3600 : Int64)) - (own_fd q2 (3600 : Int64) * (3600 : Int64)) / (3600 : Int64) * (3600 : Int64)))]))
        refine Go.pre (fun _ k => XS.lcmp X8.here hx rfl (hb hby at_111) rfl k) ?_
        show Go p e below _ (T8.setTop (mkF m 112 #[iv p1, .val (.long q2), .second, iv ((p1 &&& (2147483647 : Int32)) - (p1 &&& (2147483647 : Int32)) / (3 : Int32) * (3 : Int32)), rv aH, .val (.long (3600 : Int64)), .second, .val (.long (own_fd q2 (3600 : Int64) * (3600 : Int64))), .second, .val (.long (q2 - (own_fd q2 (3600 : Int64) * (3600 : Int64)))), .second] [(.int (lcmpW ((own_fd q2 (3600 : Int64) * (3600 : Int64)) - (own_fd q2 (3600 : Int64) * (3600 : Int64)) / (3600 : Int64) * (3600 : Int64)) (0 : Int64)))]))
        refine Go.pre (fun _ k => XS.ifNo X8.here hx rfl (hb hby at_112) rfl ((if0 _ _).trans (teq (own_eqT (own_c4 (by decide) (own_lim (x := q2) (k := (3600 : Int64)) (by decide) hc60_7)))).2) k) ?_
        show Go p e below _ (T8.setTop (mkF m 115 #[iv p1, .val (.long q2), .second, iv ((p1 &&& (2147483647 : Int32)) - (p1 &&& (2147483647 : Int32)) / (3 : Int32) * (3 : Int32)), rv aH, .val (.long (3600 : Int64)), .second, .val (.long (own_fd q2 (3600 : Int64) * (3600 : Int64))), .second, .val (.long (q2 - (own_fd q2 (3600 : Int64) * (3600 : Int64)))), .second] []))
        refine Go.pre (fun _ k => XS.iconst X8.here hx rfl (hb hby at_115) k) ?_
        show Go p e below _ (T8.setTop (mkF m 116 #[iv p1, .val (.long q2), .second, iv ((p1 &&& (2147483647 : Int32)) - (p1 &&& (2147483647 : Int32)) / (3 : Int32) * (3 : Int32)), rv aH, .val (.long (3600 : Int64)), .second, .val (.long (own_fd q2 (3600 : Int64) * (3600 : Int64))), .second, .val (.long (q2 - (own_fd q2 (3600 : Int64) * (3600 : Int64)))), .second] [(.int (1 : Int32))]))
        refine Go.pre (fun _ k => XS.goto X8.here hx rfl (pc0 := 116) (pc' := 120) rfl (hb hby at_116) (by decide) (by decide) k) ?_
        show Go p e below _ (T8.setTop (mkF m 120 #[iv p1, .val (.long q2), .second, iv ((p1 &&& (2147483647 : Int32)) - (p1 &&& (2147483647 : Int32)) / (3 : Int32) * (3 : Int32)), rv aH, .val (.long (3600 : Int64)), .second, .val (.long (own_fd q2 (3600 : Int64) * (3600 : Int64))), .second, .val (.long (q2 - (own_fd q2 (3600 : Int64) * (3600 : Int64)))), .second] [(.int (1 : Int32))]))
        obtain ⟨fs, hr, hrun, hended, hW, hsame⟩ := X8.leave (v := some (.int (1 : Int32))) (fun h => by rw [Bd.returns] at h; cases h)
        refine Go.fin (retN X8 hx (t := .boolean) Bd.returns (by simp) (hb hby at_120) hr) ⟨hrun, hended, _, _, rfl, ?_, ⟨_, rfl⟩, hW, hsame.mono (by decide) (by decide)⟩
        exact ⟨rfl, N8⟩
    · skip
      refine Go.pre (fun _ k => XS.icmpYes X0.here hx rfl (pc0 := 26) (pc' := 42) rfl (hb hby at_26) rfl (feq hc26_5).2 (by decide) (by decide) k) ?_
      show Go p e below _ (s₁.setTop (mkF m 42 #[iv p1, .val (.long q2), .second, iv ((p1 &&& (2147483647 : Int32)) - (p1 &&& (2147483647 : Int32)) / (3 : Int32) * (3 : Int32)), .unset, .unset, .unset, .unset, .unset, .unset, .unset] []))
      obtain ⟨T9, X9, e9, st9⟩ := getS2 X0 hx hZ hown (host := "") (Or.inl (hw _ (List.mem_of_getElem? (i := 20) rfl))) Via.refl e0 S_aD (g := (mkF m 42 #[iv p1, .val (.long q2), .second, iv ((p1 &&& (2147483647 : Int32)) - (p1 &&& (2147483647 : Int32)) / (3 : Int32) * (3 : Int32)), .unset, .unset, .unset, .unset, .unset, .unset, .unset] [])) rfl (hb hby at_42)
      refine Go.pre st9 ?_
      show Go p e below _ (T9.setTop (mkF m 45 #[iv p1, .val (.long q2), .second, iv ((p1 &&& (2147483647 : Int32)) - (p1 &&& (2147483647 : Int32)) / (3 : Int32) * (3 : Int32)), .unset, .unset, .unset, .unset, .unset, .unset, .unset] [(.ref aD)]))
      refine Go.pre (fun _ k => XS.astore X9.here hx rfl (hb hby at_45) rfl rfl (l' := #[iv p1, .val (.long q2), .second, iv ((p1 &&& (2147483647 : Int32)) - (p1 &&& (2147483647 : Int32)) / (3 : Int32) * (3 : Int32)), rv aD, .unset, .unset, .unset, .unset, .unset, .unset]) rfl k) ?_
      show Go p e below _ (T9.setTop (mkF m 47 #[iv p1, .val (.long q2), .second, iv ((p1 &&& (2147483647 : Int32)) - (p1 &&& (2147483647 : Int32)) / (3 : Int32) * (3 : Int32)), rv aD, .unset, .unset, .unset, .unset, .unset, .unset] []))
      refine Go.pre (X9.ldc2Long hx hown (mvT hZ (hw _ (List.mem_of_getElem? (i := 22) rfl))) (g := (mkF m 47 #[iv p1, .val (.long q2), .second, iv ((p1 &&& (2147483647 : Int32)) - (p1 &&& (2147483647 : Int32)) / (3 : Int32) * (3 : Int32)), rv aD, .unset, .unset, .unset, .unset, .unset, .unset] [])) rfl (hb hby at_47)) ?_
      show Go p e below _ (T9.setTop (mkF m 50 #[iv p1, .val (.long q2), .second, iv ((p1 &&& (2147483647 : Int32)) - (p1 &&& (2147483647 : Int32)) / (3 : Int32) * (3 : Int32)), rv aD, .unset, .unset, .unset, .unset, .unset, .unset] [(.long (86400 : Int64))]))
      refine Go.pre (fun _ k => XS.lstore X9.here hx rfl (hb hby at_50) rfl (l' := #[iv p1, .val (.long q2), .second, iv ((p1 &&& (2147483647 : Int32)) - (p1 &&& (2147483647 : Int32)) / (3 : Int32) * (3 : Int32)), rv aD, .val (.long (86400 : Int64)), .second, .unset, .unset, .unset, .unset]) rfl k) ?_
      show Go p e below _ (T9.setTop (mkF m 52 #[iv p1, .val (.long q2), .second, iv ((p1 &&& (2147483647 : Int32)) - (p1 &&& (2147483647 : Int32)) / (3 : Int32) * (3 : Int32)), rv aD, .val (.long (86400 : Int64)), .second, .unset, .unset, .unset, .unset] []))
      refine Go.pre (fun _ k => XS.lloadN X9.here hx rfl (hb hby at_52) rfl k) ?_
      show Go p e below _ (T9.setTop (mkF m 53 #[iv p1, .val (.long q2), .second, iv ((p1 &&& (2147483647 : Int32)) - (p1 &&& (2147483647 : Int32)) / (3 : Int32) * (3 : Int32)), rv aD, .val (.long (86400 : Int64)), .second, .unset, .unset, .unset, .unset] [(.long q2)]))
      refine Go.pre (X9.ldc2Long hx hown (mvT hZ (hw _ (List.mem_of_getElem? (i := 5) rfl))) (g := (mkF m 53 #[iv p1, .val (.long q2), .second, iv ((p1 &&& (2147483647 : Int32)) - (p1 &&& (2147483647 : Int32)) / (3 : Int32) * (3 : Int32)), rv aD, .val (.long (86400 : Int64)), .second, .unset, .unset, .unset, .unset] [(.long q2)])) rfl (hb hby at_53)) ?_
      show Go p e below _ (T9.setTop (mkF m 56 #[iv p1, .val (.long q2), .second, iv ((p1 &&& (2147483647 : Int32)) - (p1 &&& (2147483647 : Int32)) / (3 : Int32) * (3 : Int32)), rv aD, .val (.long (86400 : Int64)), .second, .unset, .unset, .unset, .unset] [(.long (-9223372036854775808 : Int64)), (.long q2)]))
      refine Go.pre (fun _ k => XS.lload X9.here hx rfl (hb hby at_56) rfl k) ?_
      show Go p e below _ (T9.setTop (mkF m 58 #[iv p1, .val (.long q2), .second, iv ((p1 &&& (2147483647 : Int32)) - (p1 &&& (2147483647 : Int32)) / (3 : Int32) * (3 : Int32)), rv aD, .val (.long (86400 : Int64)), .second, .unset, .unset, .unset, .unset] [(.long (86400 : Int64)), (.long (-9223372036854775808 : Int64)), (.long q2)]))
      refine Go.pre (fun _ k => XS.ladd X9.here hx rfl (hb hby at_58) rfl k) ?_
      show Go p e below _ (T9.setTop (mkF m 59 #[iv p1, .val (.long q2), .second, iv ((p1 &&& (2147483647 : Int32)) - (p1 &&& (2147483647 : Int32)) / (3 : Int32) * (3 : Int32)), rv aD, .val (.long (86400 : Int64)), .second, .unset, .unset, .unset, .unset] [(.long ((-9223372036854775808 : Int64) + (86400 : Int64))), (.long q2)]))
      refine Go.pre (fun _ k => XS.lcmp X9.here hx rfl (hb hby at_59) rfl k) ?_
      show Go p e below _ (T9.setTop (mkF m 60 #[iv p1, .val (.long q2), .second, iv ((p1 &&& (2147483647 : Int32)) - (p1 &&& (2147483647 : Int32)) / (3 : Int32) * (3 : Int32)), rv aD, .val (.long (86400 : Int64)), .second, .unset, .unset, .unset, .unset] [(.int (lcmpW q2 ((-9223372036854775808 : Int64) + (86400 : Int64))))]))
      by_cases hc60_10 : q2 < ((-9223372036854775808 : Int64) + (86400 : Int64))
      · skip
        refine Go.pre (fun _ k => XS.ifNo X9.here hx rfl (hb hby at_60) rfl ((if0 _ _).trans (tlt (own_ltT hc60_10)).2.1) k) ?_
        show Go p e below _ (T9.setTop (mkF m 63 #[iv p1, .val (.long q2), .second, iv ((p1 &&& (2147483647 : Int32)) - (p1 &&& (2147483647 : Int32)) / (3 : Int32) * (3 : Int32)), rv aD, .val (.long (86400 : Int64)), .second, .unset, .unset, .unset, .unset] []))
        refine Go.pre (fun _ k => XS.iconst X9.here hx rfl (hb hby at_63) k) ?_
        show Go p e below _ (T9.setTop (mkF m 64 #[iv p1, .val (.long q2), .second, iv ((p1 &&& (2147483647 : Int32)) - (p1 &&& (2147483647 : Int32)) / (3 : Int32) * (3 : Int32)), rv aD, .val (.long (86400 : Int64)), .second, .unset, .unset, .unset, .unset] [(.int (1 : Int32))]))
        obtain ⟨fs, hr, hrun, hended, hW, hsame⟩ := X9.leave (v := some (.int (1 : Int32))) (fun h => by rw [Bd.returns] at h; cases h)
        refine Go.fin (retN X9 hx (t := .boolean) Bd.returns (by simp) (hb hby at_64) hr) ⟨hrun, hended, _, _, rfl, ?_, ⟨_, rfl⟩, hW, hsame.mono (by decide) (by decide)⟩
        exact ⟨rfl, N0⟩
      · skip
        refine Go.pre (fun _ k => XS.ifYes X9.here hx rfl (pc0 := 60) (pc' := 65) rfl (hb hby at_60) rfl ((if0 _ _).trans (flt (own_ltF hc60_10)).2.1) (by decide) (by decide) k) ?_
        show Go p e below _ (T9.setTop (mkF m 65 #[iv p1, .val (.long q2), .second, iv ((p1 &&& (2147483647 : Int32)) - (p1 &&& (2147483647 : Int32)) / (3 : Int32) * (3 : Int32)), rv aD, .val (.long (86400 : Int64)), .second, .unset, .unset, .unset, .unset] []))
        refine Go.pre (fun _ k => XS.aload X9.here hx rfl (hb hby at_65) rfl rfl k) ?_
        show Go p e below _ (T9.setTop (mkF m 67 #[iv p1, .val (.long q2), .second, iv ((p1 &&& (2147483647 : Int32)) - (p1 &&& (2147483647 : Int32)) / (3 : Int32) * (3 : Int32)), rv aD, .val (.long (86400 : Int64)), .second, .unset, .unset, .unset, .unset] [(.ref aD)]))
        refine Go.pre (fun _ k => XS.lloadN X9.here hx rfl (hb hby at_67) rfl k) ?_
        show Go p e below _ (T9.setTop (mkF m 68 #[iv p1, .val (.long q2), .second, iv ((p1 &&& (2147483647 : Int32)) - (p1 &&& (2147483647 : Int32)) / (3 : Int32) * (3 : Int32)), rv aD, .val (.long (86400 : Int64)), .second, .unset, .unset, .unset, .unset] [(.long q2), (.ref aD)]))
        obtain ⟨cq11, kq11, q11a, q11b, q11c⟩ := isOf hZ e9 E_aD
        obtain ⟨_, _, ⟨T11, L11, k11, n11⟩, -, X11, ⟨Lc11, hQ11, l11, y11, z11⟩, st11⟩ := X9.virtualBack hx (y := (⟨"com/example/sluice/sluice/Interval", "start", "(J)J"⟩ : MethodName)) (z := (⟨"com/example/sluice/sluice/Interval", "start", "(J)J"⟩ : MethodName)) hown (mvT hZ (hw _ (List.mem_of_getElem? (i := 6) rfl))) (mvT hZ (hw _ (List.mem_of_getElem? (i := 7) rfl))) (notFace_of_selects (args := #[]) (mvT hZ (hw _ (List.mem_of_getElem? (i := 9) rfl)))) (mvT hZ (hw _ (List.mem_of_getElem? (i := 9) rfl))) (mvT hZ (hw _ (List.mem_of_getElem? (i := 8) rfl))) (by decide) (backOf (W := 0) (rm_st l Z a0 hw [] aD q2 (86400 : Int64) h0 n0 Z0 F_aD (by decide)) hZ (hw _ (List.mem_of_getElem? (i := 10) rfl)) (hw _ (List.mem_of_getElem? (i := 2) rfl)) (by decide) (by decide)) q11a q11c (g := (mkF m 68 #[iv p1, .val (.long q2), .second, iv ((p1 &&& (2147483647 : Int32)) - (p1 &&& (2147483647 : Int32)) / (3 : Int32) * (3 : Int32)), rv aD, .val (.long (86400 : Int64)), .second, .unset, .unset, .unset, .unset] [(.long q2), (.ref aD)])) rfl (by rw [hml]; rfl) (Steps.refl _) (argsL := [(.long q2)]) (rest := []) (lenOf pd_1 rfl) rfl (by show 2 * 0 + _ ≤ _; exact Nat.le_of_eq rfl) (hb hby at_68) (fun _ _ => ⟨rfl, e9, (by decide : 0 + 0 ≤ _), (by decide : 0 + 0 ≤ _)⟩)
        dsimp only [Pt.U, Pt.locs, Pt.cells, Pt.slots] at X11 l11 y11 z11 st11 hQ11
        subst l11 y11 z11
        refine Go.pre (own_cut st11) ?_
        obtain ⟨rfl, N11q, eh11⟩ := hQ11
        have N11 := Fr.app N0 N11q
        show Go p e below _ (T11.setTop (mkF m 71 #[iv p1, .val (.long q2), .second, iv ((p1 &&& (2147483647 : Int32)) - (p1 &&& (2147483647 : Int32)) / (3 : Int32) * (3 : Int32)), rv aD, .val (.long (86400 : Int64)), .second, .unset, .unset, .unset, .unset] [(.long (own_fd q2 (86400 : Int64) * (86400 : Int64)))]))
        refine Go.pre (fun _ k => XS.lstore X11.here hx rfl (hb hby at_71) rfl (l' := #[iv p1, .val (.long q2), .second, iv ((p1 &&& (2147483647 : Int32)) - (p1 &&& (2147483647 : Int32)) / (3 : Int32) * (3 : Int32)), rv aD, .val (.long (86400 : Int64)), .second, .val (.long (own_fd q2 (86400 : Int64) * (86400 : Int64))), .second, .unset, .unset]) rfl k) ?_
        show Go p e below _ (T11.setTop (mkF m 73 #[iv p1, .val (.long q2), .second, iv ((p1 &&& (2147483647 : Int32)) - (p1 &&& (2147483647 : Int32)) / (3 : Int32) * (3 : Int32)), rv aD, .val (.long (86400 : Int64)), .second, .val (.long (own_fd q2 (86400 : Int64) * (86400 : Int64))), .second, .unset, .unset] []))
        refine Go.pre (fun _ k => XS.lload X11.here hx rfl (hb hby at_73) rfl k) ?_
        show Go p e below _ (T11.setTop (mkF m 75 #[iv p1, .val (.long q2), .second, iv ((p1 &&& (2147483647 : Int32)) - (p1 &&& (2147483647 : Int32)) / (3 : Int32) * (3 : Int32)), rv aD, .val (.long (86400 : Int64)), .second, .val (.long (own_fd q2 (86400 : Int64) * (86400 : Int64))), .second, .unset, .unset] [(.long (own_fd q2 (86400 : Int64) * (86400 : Int64)))]))
        refine Go.pre (fun _ k => XS.lloadN X11.here hx rfl (hb hby at_75) rfl k) ?_
        show Go p e below _ (T11.setTop (mkF m 76 #[iv p1, .val (.long q2), .second, iv ((p1 &&& (2147483647 : Int32)) - (p1 &&& (2147483647 : Int32)) / (3 : Int32) * (3 : Int32)), rv aD, .val (.long (86400 : Int64)), .second, .val (.long (own_fd q2 (86400 : Int64) * (86400 : Int64))), .second, .unset, .unset] [(.long q2), (.long (own_fd q2 (86400 : Int64) * (86400 : Int64)))]))
        refine Go.pre (fun _ k => XS.lcmp X11.here hx rfl (hb hby at_76) rfl k) ?_
        show Go p e below _ (T11.setTop (mkF m 77 #[iv p1, .val (.long q2), .second, iv ((p1 &&& (2147483647 : Int32)) - (p1 &&& (2147483647 : Int32)) / (3 : Int32) * (3 : Int32)), rv aD, .val (.long (86400 : Int64)), .second, .val (.long (own_fd q2 (86400 : Int64) * (86400 : Int64))), .second, .unset, .unset] [(.int (lcmpW (own_fd q2 (86400 : Int64) * (86400 : Int64)) q2))]))
        refine Go.pre (fun _ k => XS.ifYes X11.here hx rfl (pc0 := 77) (pc' := 82) rfl (hb hby at_77) rfl ((if0 _ _).trans (flt (own_gtF (own_c1 (by decide) (own_lim (x := q2) (k := (86400 : Int64)) (by decide) hc60_10)))).2.2.2) (by decide) (by decide) k) ?_
        show Go p e below _ (T11.setTop (mkF m 82 #[iv p1, .val (.long q2), .second, iv ((p1 &&& (2147483647 : Int32)) - (p1 &&& (2147483647 : Int32)) / (3 : Int32) * (3 : Int32)), rv aD, .val (.long (86400 : Int64)), .second, .val (.long (own_fd q2 (86400 : Int64) * (86400 : Int64))), .second, .unset, .unset] []))
        refine Go.pre (fun _ k => XS.lloadN X11.here hx rfl (hb hby at_82) rfl k) ?_
        show Go p e below _ (T11.setTop (mkF m 83 #[iv p1, .val (.long q2), .second, iv ((p1 &&& (2147483647 : Int32)) - (p1 &&& (2147483647 : Int32)) / (3 : Int32) * (3 : Int32)), rv aD, .val (.long (86400 : Int64)), .second, .val (.long (own_fd q2 (86400 : Int64) * (86400 : Int64))), .second, .unset, .unset] [(.long q2)]))
        refine Go.pre (fun _ k => XS.lload X11.here hx rfl (hb hby at_83) rfl k) ?_
        show Go p e below _ (T11.setTop (mkF m 85 #[iv p1, .val (.long q2), .second, iv ((p1 &&& (2147483647 : Int32)) - (p1 &&& (2147483647 : Int32)) / (3 : Int32) * (3 : Int32)), rv aD, .val (.long (86400 : Int64)), .second, .val (.long (own_fd q2 (86400 : Int64) * (86400 : Int64))), .second, .unset, .unset] [(.long (own_fd q2 (86400 : Int64) * (86400 : Int64))), (.long q2)]))
        refine Go.pre (fun _ k => XS.lsub X11.here hx rfl (hb hby at_85) rfl k) ?_
        show Go p e below _ (T11.setTop (mkF m 86 #[iv p1, .val (.long q2), .second, iv ((p1 &&& (2147483647 : Int32)) - (p1 &&& (2147483647 : Int32)) / (3 : Int32) * (3 : Int32)), rv aD, .val (.long (86400 : Int64)), .second, .val (.long (own_fd q2 (86400 : Int64) * (86400 : Int64))), .second, .unset, .unset] [(.long (q2 - (own_fd q2 (86400 : Int64) * (86400 : Int64))))]))
        refine Go.pre (fun _ k => XS.lstore X11.here hx rfl (hb hby at_86) rfl (l' := #[iv p1, .val (.long q2), .second, iv ((p1 &&& (2147483647 : Int32)) - (p1 &&& (2147483647 : Int32)) / (3 : Int32) * (3 : Int32)), rv aD, .val (.long (86400 : Int64)), .second, .val (.long (own_fd q2 (86400 : Int64) * (86400 : Int64))), .second, .val (.long (q2 - (own_fd q2 (86400 : Int64) * (86400 : Int64)))), .second]) rfl k) ?_
        show Go p e below _ (T11.setTop (mkF m 88 #[iv p1, .val (.long q2), .second, iv ((p1 &&& (2147483647 : Int32)) - (p1 &&& (2147483647 : Int32)) / (3 : Int32) * (3 : Int32)), rv aD, .val (.long (86400 : Int64)), .second, .val (.long (own_fd q2 (86400 : Int64) * (86400 : Int64))), .second, .val (.long (q2 - (own_fd q2 (86400 : Int64) * (86400 : Int64)))), .second] []))
        refine Go.pre (fun _ k => XS.lload X11.here hx rfl (hb hby at_88) rfl k) ?_
        show Go p e below _ (T11.setTop (mkF m 90 #[iv p1, .val (.long q2), .second, iv ((p1 &&& (2147483647 : Int32)) - (p1 &&& (2147483647 : Int32)) / (3 : Int32) * (3 : Int32)), rv aD, .val (.long (86400 : Int64)), .second, .val (.long (own_fd q2 (86400 : Int64) * (86400 : Int64))), .second, .val (.long (q2 - (own_fd q2 (86400 : Int64) * (86400 : Int64)))), .second] [(.long (q2 - (own_fd q2 (86400 : Int64) * (86400 : Int64))))]))
        refine Go.pre (fun _ k => XS.lconst X11.here hx rfl (hb hby at_90) k) ?_
        show Go p e below _ (T11.setTop (mkF m 91 #[iv p1, .val (.long q2), .second, iv ((p1 &&& (2147483647 : Int32)) - (p1 &&& (2147483647 : Int32)) / (3 : Int32) * (3 : Int32)), rv aD, .val (.long (86400 : Int64)), .second, .val (.long (own_fd q2 (86400 : Int64) * (86400 : Int64))), .second, .val (.long (q2 - (own_fd q2 (86400 : Int64) * (86400 : Int64)))), .second] [(.long (0 : Int64)), (.long (q2 - (own_fd q2 (86400 : Int64) * (86400 : Int64))))]))
        refine Go.pre (fun _ k => XS.lcmp X11.here hx rfl (hb hby at_91) rfl k) ?_
        show Go p e below _ (T11.setTop (mkF m 92 #[iv p1, .val (.long q2), .second, iv ((p1 &&& (2147483647 : Int32)) - (p1 &&& (2147483647 : Int32)) / (3 : Int32) * (3 : Int32)), rv aD, .val (.long (86400 : Int64)), .second, .val (.long (own_fd q2 (86400 : Int64) * (86400 : Int64))), .second, .val (.long (q2 - (own_fd q2 (86400 : Int64) * (86400 : Int64)))), .second] [(.int (lcmpW (q2 - (own_fd q2 (86400 : Int64) * (86400 : Int64))) (0 : Int64)))]))
        refine Go.pre (fun _ k => XS.ifNo X11.here hx rfl (hb hby at_92) rfl ((if0 _ _).trans (flt (own_ltF (own_c2 (by decide) (own_lim (x := q2) (k := (86400 : Int64)) (by decide) hc60_10)))).1) k) ?_
        show Go p e below _ (T11.setTop (mkF m 95 #[iv p1, .val (.long q2), .second, iv ((p1 &&& (2147483647 : Int32)) - (p1 &&& (2147483647 : Int32)) / (3 : Int32) * (3 : Int32)), rv aD, .val (.long (86400 : Int64)), .second, .val (.long (own_fd q2 (86400 : Int64) * (86400 : Int64))), .second, .val (.long (q2 - (own_fd q2 (86400 : Int64) * (86400 : Int64)))), .second] []))
        refine Go.pre (fun _ k => XS.lload X11.here hx rfl (hb hby at_95) rfl k) ?_
        show Go p e below _ (T11.setTop (mkF m 97 #[iv p1, .val (.long q2), .second, iv ((p1 &&& (2147483647 : Int32)) - (p1 &&& (2147483647 : Int32)) / (3 : Int32) * (3 : Int32)), rv aD, .val (.long (86400 : Int64)), .second, .val (.long (own_fd q2 (86400 : Int64) * (86400 : Int64))), .second, .val (.long (q2 - (own_fd q2 (86400 : Int64) * (86400 : Int64)))), .second] [(.long (q2 - (own_fd q2 (86400 : Int64) * (86400 : Int64))))]))
        refine Go.pre (fun _ k => XS.lload X11.here hx rfl (hb hby at_97) rfl k) ?_
        show Go p e below _ (T11.setTop (mkF m 99 #[iv p1, .val (.long q2), .second, iv ((p1 &&& (2147483647 : Int32)) - (p1 &&& (2147483647 : Int32)) / (3 : Int32) * (3 : Int32)), rv aD, .val (.long (86400 : Int64)), .second, .val (.long (own_fd q2 (86400 : Int64) * (86400 : Int64))), .second, .val (.long (q2 - (own_fd q2 (86400 : Int64) * (86400 : Int64)))), .second] [(.long (86400 : Int64)), (.long (q2 - (own_fd q2 (86400 : Int64) * (86400 : Int64))))]))
        refine Go.pre (fun _ k => XS.lcmp X11.here hx rfl (hb hby at_99) rfl k) ?_
        show Go p e below _ (T11.setTop (mkF m 100 #[iv p1, .val (.long q2), .second, iv ((p1 &&& (2147483647 : Int32)) - (p1 &&& (2147483647 : Int32)) / (3 : Int32) * (3 : Int32)), rv aD, .val (.long (86400 : Int64)), .second, .val (.long (own_fd q2 (86400 : Int64) * (86400 : Int64))), .second, .val (.long (q2 - (own_fd q2 (86400 : Int64) * (86400 : Int64)))), .second] [(.int (lcmpW (q2 - (own_fd q2 (86400 : Int64) * (86400 : Int64))) (86400 : Int64)))]))
        refine Go.pre (fun _ k => XS.ifYes X11.here hx rfl (pc0 := 100) (pc' := 105) rfl (hb hby at_100) rfl ((if0 _ _).trans (tlt (own_ltT (own_c3 (by decide) (own_lim (x := q2) (k := (86400 : Int64)) (by decide) hc60_10)))).1) (by decide) (by decide) k) ?_
        show Go p e below _ (T11.setTop (mkF m 105 #[iv p1, .val (.long q2), .second, iv ((p1 &&& (2147483647 : Int32)) - (p1 &&& (2147483647 : Int32)) / (3 : Int32) * (3 : Int32)), rv aD, .val (.long (86400 : Int64)), .second, .val (.long (own_fd q2 (86400 : Int64) * (86400 : Int64))), .second, .val (.long (q2 - (own_fd q2 (86400 : Int64) * (86400 : Int64)))), .second] []))
        refine Go.pre (fun _ k => XS.lload X11.here hx rfl (hb hby at_105) rfl k) ?_
        show Go p e below _ (T11.setTop (mkF m 107 #[iv p1, .val (.long q2), .second, iv ((p1 &&& (2147483647 : Int32)) - (p1 &&& (2147483647 : Int32)) / (3 : Int32) * (3 : Int32)), rv aD, .val (.long (86400 : Int64)), .second, .val (.long (own_fd q2 (86400 : Int64) * (86400 : Int64))), .second, .val (.long (q2 - (own_fd q2 (86400 : Int64) * (86400 : Int64)))), .second] [(.long (own_fd q2 (86400 : Int64) * (86400 : Int64)))]))
        refine Go.pre (fun _ k => XS.lload X11.here hx rfl (hb hby at_107) rfl k) ?_
        show Go p e below _ (T11.setTop (mkF m 109 #[iv p1, .val (.long q2), .second, iv ((p1 &&& (2147483647 : Int32)) - (p1 &&& (2147483647 : Int32)) / (3 : Int32) * (3 : Int32)), rv aD, .val (.long (86400 : Int64)), .second, .val (.long (own_fd q2 (86400 : Int64) * (86400 : Int64))), .second, .val (.long (q2 - (own_fd q2 (86400 : Int64) * (86400 : Int64)))), .second] [(.long (86400 : Int64)), (.long (own_fd q2 (86400 : Int64) * (86400 : Int64)))]))
        refine Go.pre (fun _ k => XS.lrem X11.here hx rfl (hb hby at_109) rfl (by decide) k) ?_
        show Go p e below _ (T11.setTop (mkF m 110 #[iv p1, .val (.long q2), .second, iv ((p1 &&& (2147483647 : Int32)) - (p1 &&& (2147483647 : Int32)) / (3 : Int32) * (3 : Int32)), rv aD, .val (.long (86400 : Int64)), .second, .val (.long (own_fd q2 (86400 : Int64) * (86400 : Int64))), .second, .val (.long (q2 - (own_fd q2 (86400 : Int64) * (86400 : Int64)))), .second] [(.long ((own_fd q2 (86400 : Int64) * (86400 : Int64)) - (own_fd q2 (86400 : Int64) * (86400 : Int64)) / (86400 : Int64) * (86400 : Int64)))]))
        refine Go.pre (fun _ k => XS.lconst X11.here hx rfl (hb hby at_110) k) ?_
        show Go p e below _ (T11.setTop (mkF m 111 #[iv p1, .val (.long q2), .second, iv ((p1 &&& (2147483647 : Int32)) - (p1 &&& (2147483647 : Int32)) / (3 : Int32) * (3 : Int32)), rv aD, .val (.long (86400 : Int64)), .second, .val (.long (own_fd q2 (86400 : Int64) * (86400 : Int64))), .second, .val (.long (q2 - (own_fd q2 (86400 : Int64) * (86400 : Int64)))), .second] [(.long (0 : Int64)), (.long ((own_fd q2 (86400 : Int64) * (86400 : Int64)) - (own_fd q2 (86400 : Int64) * (86400 : Int64)) / (86400 : Int64) * (86400 : Int64)))]))
        refine Go.pre (fun _ k => XS.lcmp X11.here hx rfl (hb hby at_111) rfl k) ?_
        show Go p e below _ (T11.setTop (mkF m 112 #[iv p1, .val (.long q2), .second, iv ((p1 &&& (2147483647 : Int32)) - (p1 &&& (2147483647 : Int32)) / (3 : Int32) * (3 : Int32)), rv aD, .val (.long (86400 : Int64)), .second, .val (.long (own_fd q2 (86400 : Int64) * (86400 : Int64))), .second, .val (.long (q2 - (own_fd q2 (86400 : Int64) * (86400 : Int64)))), .second] [(.int (lcmpW ((own_fd q2 (86400 : Int64) * (86400 : Int64)) - (own_fd q2 (86400 : Int64) * (86400 : Int64)) / (86400 : Int64) * (86400 : Int64)) (0 : Int64)))]))
        refine Go.pre (fun _ k => XS.ifNo X11.here hx rfl (hb hby at_112) rfl ((if0 _ _).trans (teq (own_eqT (own_c4 (by decide) (own_lim (x := q2) (k := (86400 : Int64)) (by decide) hc60_10)))).2) k) ?_
        show Go p e below _ (T11.setTop (mkF m 115 #[iv p1, .val (.long q2), .second, iv ((p1 &&& (2147483647 : Int32)) - (p1 &&& (2147483647 : Int32)) / (3 : Int32) * (3 : Int32)), rv aD, .val (.long (86400 : Int64)), .second, .val (.long (own_fd q2 (86400 : Int64) * (86400 : Int64))), .second, .val (.long (q2 - (own_fd q2 (86400 : Int64) * (86400 : Int64)))), .second] []))
        refine Go.pre (fun _ k => XS.iconst X11.here hx rfl (hb hby at_115) k) ?_
        show Go p e below _ (T11.setTop (mkF m 116 #[iv p1, .val (.long q2), .second, iv ((p1 &&& (2147483647 : Int32)) - (p1 &&& (2147483647 : Int32)) / (3 : Int32) * (3 : Int32)), rv aD, .val (.long (86400 : Int64)), .second, .val (.long (own_fd q2 (86400 : Int64) * (86400 : Int64))), .second, .val (.long (q2 - (own_fd q2 (86400 : Int64) * (86400 : Int64)))), .second] [(.int (1 : Int32))]))
        refine Go.pre (fun _ k => XS.goto X11.here hx rfl (pc0 := 116) (pc' := 120) rfl (hb hby at_116) (by decide) (by decide) k) ?_
        show Go p e below _ (T11.setTop (mkF m 120 #[iv p1, .val (.long q2), .second, iv ((p1 &&& (2147483647 : Int32)) - (p1 &&& (2147483647 : Int32)) / (3 : Int32) * (3 : Int32)), rv aD, .val (.long (86400 : Int64)), .second, .val (.long (own_fd q2 (86400 : Int64) * (86400 : Int64))), .second, .val (.long (q2 - (own_fd q2 (86400 : Int64) * (86400 : Int64)))), .second] [(.int (1 : Int32))]))
        obtain ⟨fs, hr, hrun, hended, hW, hsame⟩ := X11.leave (v := some (.int (1 : Int32))) (fun h => by rw [Bd.returns] at h; cases h)
        refine Go.fin (retN X11 hx (t := .boolean) Bd.returns (by simp) (hb hby at_120) hr) ⟨hrun, hended, _, _, rfl, ?_, ⟨_, rfl⟩, hW, hsame.mono (by decide) (by decide)⟩
        exact ⟨rfl, N11⟩

set_option maxRecDepth 65536 in
set_option maxHeartbeats 40000000 in
theorem comes_1 {Post : Tables → Env → Array Value → State → Outcome → State → Prop} (hpost : ∀ tb e args s v u, (limb_1_1.after args s (.returned v) u = true ∧ limb_1_2.after args s (.returned v) u = true ∧ True) → FrameEnd s (.returned v) u (Jvm.fieldLocs frame_1_writes args s ++ Jvm.arrayLocs frame_1_arrays args s ++ Jvm.staticLocs frame_1_statics s) 0 0 → Post tb e args s (.returned v) u) :
    ArmFor flags0 classFile x code maxLocals ret World_1 tables_1 room_1 Calls_1 rest_1 Pre_1 Post := by
  intro l hfl _ _ p e ha hc hk s m args below hf hA hF happ hP
  obtain ⟨hcalls, hrest, hpre⟩ := hP
  obtain ⟨-, -, -, hnamed, -, -, -, hat⟩ := (Spec.applies_iff hf).mp happ
  obtain ⟨hg, hn⟩ := and_e (Cond.before_iff.mp (show (Jvm.Cond.and given_1 narrow_1).before args s = true from hpre))
  obtain ⟨g0, r0⟩ := and_e hg
  obtain ⟨g1, r1⟩ := and_e r0
  obtain ⟨w0, w1, rfl⟩ : ∃ w0 w1 : Value, args = #[w0, w1] := by
    have hs : args.size = 2 := by simpa [Cond.value, given_1] using g0
    obtain ⟨L⟩ := args
    match L, hs with
    | [w0, w1], _ => exact ⟨w0, w1, rfl⟩
  have hw := fun d (hd : d ∈ tables_1) => atoms_spec (ws := Jvm.Cond.code x code maxLocals ret :: tables_1) hat d (List.mem_cons_of_mem _ hd)
  obtain ⟨i0, ei0⟩ := is_v g1
  obtain rfl : w0 = (.int i0) := Option.some.inj ei0
  obtain ⟨i1, ei1⟩ := isL_v r1
  obtain rfl : w1 = (.long i1) := Option.some.inj ei1
  obtain ⟨c1, c2⟩ := and_e hn
  obtain ⟨c3, c4⟩ := and_e c2
  obtain ⟨c5, c6⟩ := and_e c4
  obtain ⟨c7, c8⟩ := and_e c6
  obtain ⟨c9, c10⟩ := and_e c8
  obtain ⟨a_MINUTE, ev_MINUTE⟩ := exa_v c1
  have E_MINUTE := Exa.start ev_MINUTE c1
  have S_MINUTE := Sta.start ev_MINUTE (Or.inr ⟨(hw _ (List.mem_of_getElem? (i := 2) rfl)), (hw _ (List.mem_of_getElem? (i := 3) rfl))⟩)
  obtain ⟨a_HOUR, ev_HOUR⟩ := exa_v c5
  have E_HOUR := Exa.start ev_HOUR c5
  have S_HOUR := Sta.start ev_HOUR (Or.inr ⟨(hw _ (List.mem_of_getElem? (i := 2) rfl)), (hw _ (List.mem_of_getElem? (i := 18) rfl))⟩)
  obtain ⟨a_DAY, ev_DAY⟩ := exa_v c9
  have E_DAY := Exa.start ev_DAY c9
  have S_DAY := Sta.start ev_DAY (Or.inr ⟨(hw _ (List.mem_of_getElem? (i := 2) rfl)), (hw _ (List.mem_of_getElem? (i := 21) rfl))⟩)
  have F_MINUTE_seconds := own_fldJ ev_MINUTE c3
  have F_HOUR_seconds := own_fldJ ev_HOUR c7
  have F_DAY_seconds := own_fldJ ev_DAY c10
  obtain ⟨n, o, h1, h2, h3, _, L, rfl, ⟨rfl, N⟩, hq⟩ := rm_law l s _ hw tables_1 i0 i1 a_MINUTE a_HOUR a_DAY s.heap s.heap.size (Nat.le_refl _) S_MINUTE S_HOUR S_DAY E_MINUTE E_HOUR E_DAY F_MINUTE_seconds F_HOUR_seconds F_DAY_seconds p e ha hc hk s m _ below hf ((Spec.applies_iff_loose hf).mp happ).1 ⟨rfl, State.Warmed39.refl s, rfl⟩ trivial
  refine ⟨n, _, h1, h2, h3, hpost _ _ _ _ _ _ ⟨Cond.after_iff.mpr rfl, Cond.after_iff.mpr (eq_i res_at (Term.int_eval (1)) rfl), trivial⟩ ⟨hq.1, hq.2.1, (hq.2.2.sift fun y hy => Or.inr (N y hy)).mono (by decide) (by decide)⟩⟩
theorem main_1_1 : Claimed_1_1 := comes_1 fun _ _ _ _ _ _ h hF => ⟨h.1, hF⟩
theorem main_1_2 : Claimed_1_2 := comes_1 fun _ _ _ _ _ _ h hF => ⟨h.2.1, hF⟩
end Jvm.Pilot.@@N@@
namespace Jvm.Pilot.@@N@@
open Jvm Jvm.ClassFile Sem Op Lib Jvm.Free Jvm.Stand Jvm.Pilot.@@N@@.Jvm.D
/-! MADE BY PROGRAM (witnessworld.py) out of the Statement's table words and the real class files: 13 classes; the members and pool entries that the words name. The judged class is class 1, her method 1. -/
namespace start1
open Jvm.ClassFile
def u (s : String) : CpInfo := .utf8 (stringToUtf16 s)
/-- a pool by its gaps: so many unusable entries, then the entry; so many at the end -/
def gap : Nat → List CpInfo → List CpInfo
  | 0, r => r
  | n + 1, r => .unusable :: gap n r
def poolList (es : List (Nat × CpInfo)) (last : Nat) : List CpInfo := es.foldr (fun e r => gap e.1 (e.2 :: r)) (gap last [])
def pool (es : List (Nat × CpInfo)) (last : Nat) : Array CpInfo := ⟨poolList es last⟩
def fileOf (pool : Array CpInfo) (this : Nat) (attrs : Array Attribute := #[]) (ms : Array MethodInfo := #[]) (fl : Nat := 33) (sup : Nat := 0) (ifs : Array Nat := #[]) (fds : Array FieldInfo := #[]) : ClassFile where
  minorVersion := 0
  majorVersion := 65
  constantPool := pool
  accessFlags := fl
  thisClass := this
  superClass := sup
  interfaces := ifs
  fields := fds
  methods := ms
  attributes := attrs
def plain (name : String) (sup : Option ClassId) : Class where
  name := name
  kind := .ordinary
  loader := none
  accessFlags := 33
  super := sup
  interfaces := #[]
  cf := none
  fields := #[]
  methods := #[]
  instanceTypes := #[]
  staticTypes := #[]
  resolved := #[]
  callSites := []
  init := .initialized
  statics := none
  mirror := none

def pool0 : Array CpInfo := pool [(5, u "<init>"), (0, u "()V"), (1, .class_ 10), (1, u "java/lang/Object")] 113

def k0m0 : Method := { name := "<init>", desc := "()V", sig := { parameters := [], returnType := none }, accessFlags := 1, code := none }
/-- java/lang/Object -/
def k0 : Class := { plain "java/lang/Object" none with
  accessFlags := 33
  interfaces := #[]
  cf := some (fileOf pool0 8 #[] #[{ accessFlags := 1, nameIndex := 5, descriptorIndex := 6, attributes := #[] }] 33 0 #[] #[])
  fields := #[]
  methods := #[k0m0]
  instanceTypes := #[]
  staticTypes := #[]
  resolved := Array.replicate 124 none
  statics := none }

def pool1 : Array CpInfo := pool [(2, .class_ 4), (1, u "java/lang/Object"), (0, u "<init>"), (0, u "()V"), (0, .integer 2147483647), (0, .fieldref 9 10), (0, .class_ 11), (0, .nameAndType 12 13), (0, u "com/example/sluice/sluice/Interval"), (0, u "MINUTE"), (0, u "Lcom/example/sluice/sluice/Interval;"), (0, .long 60), (1, .fieldref 9 17), (0, .nameAndType 18 13), (0, u "HOUR"), (0, .long 3600), (1, .fieldref 9 22), (0, .nameAndType 23 13), (0, u "DAY"), (0, .long 86400), (3, .long 9223372036854775808), (1, .methodref 9 31), (0, .nameAndType 32 33), (0, u "start"), (0, u "(J)J"), (0, .class_ 35), (0, u "com/example/sluice/sluice/IntervalStartPinLaw"), (2, u "law"), (0, u "(IJ)Z")] 3

def k1m0 : Method := { name := "<init>", desc := "()V", sig := { parameters := [], returnType := none }, accessFlags := 1, code := none }
def k1c1 : Code := { maxStack := 6, maxLocals := 11, code := code, exceptionTable := #[], attributes := #[] }
def k1m1 : Method := { name := "law", desc := "(IJ)Z", sig := { parameters := [.int, .long], returnType := some .boolean }, accessFlags := 9, code := some k1c1 }
/-- com/example/sluice/sluice/IntervalStartPinLaw -/
def k1 : Class := { plain "com/example/sluice/sluice/IntervalStartPinLaw" (some 0) with
  accessFlags := 49
  interfaces := #[]
  cf := some (fileOf pool1 34 #[] #[{ accessFlags := 1, nameIndex := 5, descriptorIndex := 6, attributes := #[] }, { accessFlags := 9, nameIndex := 38, descriptorIndex := 39, attributes := #[] }] 49 2 #[] #[])
  fields := #[]
  methods := #[k1m0, k1m1]
  instanceTypes := #[]
  staticTypes := #[]
  resolved := Array.replicate 43 none
  statics := none }

def pool2 : Array CpInfo := pool [(1, .class_ 2), (0, u "java/lang/constant/Constable"), (0, .class_ 4), (0, u "java/lang/Object")] 6

/-- java/lang/constant/Constable -/
def k2 : Class := { plain "java/lang/constant/Constable" (some 0) with
  accessFlags := 1537
  interfaces := #[]
  cf := some (fileOf pool2 1 #[] #[] 1537 3 #[] #[])
  fields := #[]
  methods := #[]
  instanceTypes := #[]
  staticTypes := #[]
  resolved := Array.replicate 11 none
  statics := none }

def pool3 : Array CpInfo := pool [(1, .class_ 2), (0, u "java/lang/Comparable"), (0, .class_ 4), (0, u "java/lang/Object")] 7

/-- java/lang/Comparable -/
def k3 : Class := { plain "java/lang/Comparable" (some 0) with
  accessFlags := 1537
  interfaces := #[]
  cf := some (fileOf pool3 1 #[] #[] 1537 3 #[] #[])
  fields := #[]
  methods := #[]
  instanceTypes := #[]
  staticTypes := #[]
  resolved := Array.replicate 12 none
  statics := none }

def pool4 : Array CpInfo := pool [(1, .class_ 2), (0, u "java/io/Serializable"), (0, .class_ 4), (0, u "java/lang/Object")] 2

/-- java/io/Serializable -/
def k4 : Class := { plain "java/io/Serializable" (some 0) with
  accessFlags := 1537
  interfaces := #[]
  cf := some (fileOf pool4 1 #[] #[] 1537 3 #[] #[])
  fields := #[]
  methods := #[]
  instanceTypes := #[]
  staticTypes := #[]
  resolved := Array.replicate 7 none
  statics := none }

def pool5 : Array CpInfo := pool [(2, .class_ 4), (1, u "java/lang/Enum"), (0, u "name"), (0, u "Ljava/lang/String;"), (2, u "ordinal"), (0, u "I"), (1, .class_ 14), (1, u "java/lang/Object"), (4, u "hash"), (86, .class_ 108), (1, u "java/lang/Enum$EnumDesc"), (2, .class_ 112), (0, u "java/lang/constant/Constable"), (0, .class_ 114), (0, u "java/lang/Comparable"), (0, .class_ 116), (0, u "java/io/Serializable")] 87

/-- java/lang/Enum -/
def k5 : Class := { plain "java/lang/Enum" (some 0) with
  accessFlags := 1057
  interfaces := #[2, 3, 4]
  cf := some (fileOf pool5 2 #[.nestMembers #[106]] #[] 1057 12 #[111, 113, 115] #[{ accessFlags := 18, nameIndex := 5, descriptorIndex := 6, attributes := #[] }, { accessFlags := 18, nameIndex := 9, descriptorIndex := 10, attributes := #[] }, { accessFlags := 2, nameIndex := 19, descriptorIndex := 10, attributes := #[] }])
  fields := #[{ name := "name", type := (.object "java/lang/String"), accessFlags := 18, slot := 0, constantValue := 0 }, { name := "ordinal", type := .int, accessFlags := 18, slot := 1, constantValue := 0 }, { name := "hash", type := .int, accessFlags := 2, slot := 2, constantValue := 0 }]
  methods := #[]
  instanceTypes := #[(.object "java/lang/String"), .int, .int]
  staticTypes := #[]
  resolved := Array.replicate 204 none
  statics := none }

def pool6 : Array CpInfo := pool [(1, .class_ 2), (0, u "com/example/sluice/sluice/Interval"), (2, u "MINUTE"), (0, u "Lcom/example/sluice/sluice/Interval;"), (2, u "HOUR"), (2, u "DAY"), (2, u "$VALUES"), (0, u "[Lcom/example/sluice/sluice/Interval;"), (6, .class_ 25), (1, u "java/lang/Enum"), (8, u "label"), (0, u "Ljava/lang/String;"), (0, .fieldref 1 37), (0, .nameAndType 38 39), (0, u "seconds"), (0, u "J"), (0, .methodref 41 42), (0, .class_ 43), (0, .nameAndType 44 45), (0, u "java/lang/Math"), (0, u "floorDiv"), (0, u "(JJ)J"), (48, u "start"), (0, u "(J)J")] 9

def k6c0 : Code := { maxStack := 4, maxLocals := 3, code := prog_16_method_5_code, exceptionTable := #[], attributes := #[] }
def k6m0 : Method := { name := "start", desc := "(J)J", sig := { parameters := [.long], returnType := some .long }, accessFlags := 0, code := some k6c0 }
/-- com/example/sluice/sluice/Interval -/
def k6 : Class := { plain "com/example/sluice/sluice/Interval" (some 5) with
  accessFlags := 16432
  interfaces := #[]
  cf := some (fileOf pool6 1 #[] #[{ accessFlags := 0, nameIndex := 94, descriptorIndex := 95, attributes := #[] }] 16432 23 #[] #[{ accessFlags := 16409, nameIndex := 5, descriptorIndex := 6, attributes := #[] }, { accessFlags := 16409, nameIndex := 9, descriptorIndex := 6, attributes := #[] }, { accessFlags := 16409, nameIndex := 12, descriptorIndex := 6, attributes := #[] }, { accessFlags := 18, nameIndex := 34, descriptorIndex := 35, attributes := #[] }, { accessFlags := 18, nameIndex := 38, descriptorIndex := 39, attributes := #[] }, { accessFlags := 4122, nameIndex := 15, descriptorIndex := 16, attributes := #[] }])
  fields := #[{ name := "MINUTE", type := (.object "com/example/sluice/sluice/Interval"), accessFlags := 16409, slot := 0, constantValue := 0 }, { name := "HOUR", type := (.object "com/example/sluice/sluice/Interval"), accessFlags := 16409, slot := 1, constantValue := 0 }, { name := "DAY", type := (.object "com/example/sluice/sluice/Interval"), accessFlags := 16409, slot := 2, constantValue := 0 }, { name := "label", type := (.object "java/lang/String"), accessFlags := 18, slot := 3, constantValue := 0 }, { name := "seconds", type := .long, accessFlags := 18, slot := 4, constantValue := 0 }, { name := "$VALUES", type := (.array (.object "com/example/sluice/sluice/Interval")), accessFlags := 4122, slot := 3, constantValue := 0 }]
  methods := #[k6m0]
  instanceTypes := #[(.object "java/lang/String"), .int, .int, (.object "java/lang/String"), .long]
  staticTypes := #[(.object "com/example/sluice/sluice/Interval"), (.object "com/example/sluice/sluice/Interval"), (.object "com/example/sluice/sluice/Interval"), (.array (.object "com/example/sluice/sluice/Interval"))]
  resolved := Array.replicate 105 none
  statics := some 0 }

def pool7 : Array CpInfo := pool [(1, .class_ 2), (0, u "java/lang/Math"), (1, .class_ 6), (1, u "java/lang/Object"), (0, u "<init>"), (0, u "()V"), (89, .class_ 100), (1, u "java/lang/Math$RandomNumberGeneratorHolder"), (20, u "(JJ)J"), (23, u "floorDiv"), (26, u "negativeZeroFloatBits"), (0, u "J"), (2, u "negativeZeroDoubleBits"), (68, u "$assertionsDisabled"), (0, u "Z"), (91, u "twoToTheDoubleScaleDown"), (0, u "D"), (4, u "twoToTheDoubleScaleUp"), (9, u "E"), (3, u "PI"), (2, u "TAU"), (2, u "DEGREES_TO_RADIANS"), (0, u "RADIANS_TO_DEGREES")] 94

def k7m0 : Method := { name := "<init>", desc := "()V", sig := { parameters := [], returnType := none }, accessFlags := 2, code := none }
def k7c1 : Code := { maxStack := 4, maxLocals := 6, code := jdk_29_method_49_code, exceptionTable := #[], attributes := #[] }
def k7m1 : Method := { name := "floorDiv", desc := "(JJ)J", sig := { parameters := [.long, .long], returnType := some .long }, accessFlags := 9, code := some k7c1 }
/-- java/lang/Math -/
def k7 : Class := { plain "java/lang/Math" (some 0) with
  accessFlags := 49
  interfaces := #[]
  cf := some (fileOf pool7 1 #[.nestMembers #[98]] #[{ accessFlags := 2, nameIndex := 7, descriptorIndex := 8, attributes := #[] }, { accessFlags := 9, nameIndex := 145, descriptorIndex := 121, attributes := #[] }] 49 4 #[] #[{ accessFlags := 25, nameIndex := 354, descriptorIndex := 339, attributes := #[] }, { accessFlags := 25, nameIndex := 358, descriptorIndex := 339, attributes := #[] }, { accessFlags := 25, nameIndex := 361, descriptorIndex := 339, attributes := #[] }, { accessFlags := 26, nameIndex := 364, descriptorIndex := 339, attributes := #[] }, { accessFlags := 26, nameIndex := 365, descriptorIndex := 339, attributes := #[] }, { accessFlags := 26, nameIndex := 172, descriptorIndex := 173, attributes := #[] }, { accessFlags := 26, nameIndex := 176, descriptorIndex := 173, attributes := #[] }, { accessFlags := 8, nameIndex := 344, descriptorIndex := 339, attributes := #[] }, { accessFlags := 8, nameIndex := 338, descriptorIndex := 339, attributes := #[] }, { accessFlags := 4120, nameIndex := 245, descriptorIndex := 246, attributes := #[] }])
  fields := #[{ name := "E", type := .double, accessFlags := 25, slot := 0, constantValue := 0 }, { name := "PI", type := .double, accessFlags := 25, slot := 1, constantValue := 0 }, { name := "TAU", type := .double, accessFlags := 25, slot := 2, constantValue := 0 }, { name := "DEGREES_TO_RADIANS", type := .double, accessFlags := 26, slot := 3, constantValue := 0 }, { name := "RADIANS_TO_DEGREES", type := .double, accessFlags := 26, slot := 4, constantValue := 0 }, { name := "negativeZeroFloatBits", type := .long, accessFlags := 26, slot := 5, constantValue := 0 }, { name := "negativeZeroDoubleBits", type := .long, accessFlags := 26, slot := 6, constantValue := 0 }, { name := "twoToTheDoubleScaleUp", type := .double, accessFlags := 8, slot := 7, constantValue := 0 }, { name := "twoToTheDoubleScaleDown", type := .double, accessFlags := 8, slot := 8, constantValue := 0 }, { name := "$assertionsDisabled", type := .boolean, accessFlags := 4120, slot := 9, constantValue := 0 }]
  methods := #[k7m0, k7m1]
  instanceTypes := #[]
  staticTypes := #[.double, .double, .double, .double, .double, .long, .long, .double, .double, .boolean]
  resolved := Array.replicate 460 none
  statics := none }

def pool8 : Array CpInfo := pool [(1, u "java/lang/Cloneable"), (0, .class_ 1), (0, u "java/lang/Object"), (0, .class_ 3)] 3

/-- java/lang/Cloneable -/
def k8 : Class := { plain "java/lang/Cloneable" (some 0) with
  accessFlags := 1537
  interfaces := #[]
  cf := some (fileOf pool8 2 #[] #[] 1537 4 #[] #[])
  fields := #[]
  methods := #[]
  instanceTypes := #[]
  staticTypes := #[]
  resolved := Array.replicate 8 none
  statics := none }

/-- the primitive byte -/
def k9 : Class := { plain "byte" none with kind := .primitive 'B', accessFlags := 0x411 }
/-- [B -/
def k10 : Class := { plain "[B" (some 0) with kind := .array 9 .byte, interfaces := #[8, 4], accessFlags := 1041 }

/-- the primitive int -/
def k11 : Class := { plain "int" none with kind := .primitive 'I', accessFlags := 0x411 }
/-- [I -/
def k12 : Class := { plain "[I" (some 0) with kind := .array 11 .int, interfaces := #[8, 4], accessFlags := 1041 }

def heap : Heap := #[{ cls := 6, slots := #[.ref 1, .ref 2, .ref 3, .null], vm := .statics 6 },
  { cls := 6, slots := #[.null, .int 0, .int 0, .null, .long 60], vm := .none },
  { cls := 6, slots := #[.null, .int 1, .int 0, .null, .long 3600], vm := .none },
  { cls := 6, slots := #[.null, .int 2, .int 0, .null, .long 86400], vm := .none }]
def classes : Array Class := #[k0, k1, k2, k3, k4, k5, k6, k7, k8, k9, k10, k11, k12]
def interned : List (Array UInt16 × Addr) := []
def slotsUsed : Nat := 19
def theMethod : MethodId := ⟨1, 1⟩
def args0 : Array Value := #[.int 5, .long 1000]
def aboutOver (below : List Frame) : State where
  vm := { classes := classes, interned := interned.toArray }
  heap := heap
  slotsUsed := slotsUsed
  threads := #[{ frames := .invoking theMethod args0 :: below }]
def below0 : List Frame := [.native { method := ⟨0, 0⟩, args := #[] }]
def about1 : State := aboutOver below0
def p0 : Program := .bare "" "" ""
def e0 : Env := launch0.env 0 0 0
theorem w_frames : about1.frames = Frame.invoking theMethod args0 :: below0 := rfl
set_option maxRecDepth 65536 in
theorem w_args : argsFit about1.vm theMethod args0 = true := by decide +kernel
set_option maxRecDepth 65536 in
theorem w_heap : heapFits about1 = true := by decide +kernel
set_option maxRecDepth 65536 in
theorem w_runnable : about1.curStatus? = some .runnable := by decide +kernel
set_option maxRecDepth 65536 in
theorem w_alone : about1.alone = true := by decide +kernel
set_option maxRecDepth 65536 in
theorem w_named : about1.methodNamed? x = some theMethod := by decide +kernel
set_option maxRecDepth 65536 in
theorem w_hears : about1.hears theMethod below0 = true := by decide +kernel
set_option maxRecDepth 65536 in
theorem w_ripe : about1.ripe theMethod args0 below0 = true := by decide +kernel
theorem w_running : about1.status = .running := rfl
set_option maxRecDepth 65536 in
theorem w_room : about1.hasRoom e0.platform room_1 = true :=
  launch0.hasRoom_least _ room_1 (by decide +kernel) (by decide +kernel) (by decide +kernel) (by decide +kernel) (by decide +kernel) (by decide +kernel)
theorem allAtoms_all (ts : List Jvm.Cond) (a : Array Jvm.Value) (st : Jvm.State) : (allAtoms ts).before a st = ts.all (fun c => c.before a st) := by
  induction ts with
  | nil => rfl
  | cons c t ih =>
    show (Jvm.Cond.and c (allAtoms t)).before a st = _
    rw [Jvm.Cond.before_and, ih, List.all_cons]
def words1 : List Jvm.Cond := Jvm.Cond.code x code maxLocals ret :: tables_1
/-- a 'code' word, met by the world's own term for the bytes: nothing is compared byte by byte -/
theorem code_word {y : MethodName} {bytes : ByteArray} {mx : Nat} {rt : Option FieldType} {a : Array Value} {s : State} {m : MethodId} {meth : Method} {c : Code} (h1 : s.methodNamed? y = some m) (h2 : s.vm.method? m = some meth) (h3 : meth.code = some c) (h4 : c.code = bytes)
    (h5 : (c.maxLocals == mx && c.exceptionTable.isEmpty && decide (c.maxStack ≤ mostOperands) && decide (meth.sig.returnType = rt) && !meth.locks && decide (parseMethodDescriptor y.desc = some meth.sig)) = true) : (Jvm.Cond.code y bytes mx rt).before a s = true := by
  simp only [Bool.and_eq_true, beq_iff_eq, Bool.not_eq_true', decide_eq_true_eq] at h5
  obtain ⟨⟨⟨⟨⟨g1, g2⟩, g3⟩, g4⟩, g5⟩, g6⟩ := h5
  simp [Cond.before, Cond.holds, Cond.value, h1, h2, h3, h4, g1, g2, g3, g4, g5, g6]
def isCode : Jvm.Cond → Bool
  | .code _ _ _ _ => true
  | _ => false
theorem all_split {L : List Jvm.Cond} {P : Jvm.Cond → Bool} (h1 : L.all (fun c => isCode c || P c) = true) (h2 : ∀ c ∈ L.filter isCode, P c = true) : L.all P = true := by
  refine List.all_eq_true.mpr fun c hc => ?_
  have h := List.all_eq_true.mp h1 c hc
  rcases Bool.eq_false_or_eq_true (isCode c) with hi | hi
  · exact h2 c (List.mem_filter.mpr ⟨hc, hi⟩)
  · simpa [hi] using h
set_option maxRecDepth 65536 in
theorem w_c0 : (Jvm.Cond.code x code maxLocals ret).before args0 about1 = true := code_word (m := ⟨1, 1⟩) (meth := k1m1) (c := k1c1) (by decide +kernel) rfl rfl rfl (by decide +kernel)
set_option maxRecDepth 65536 in
theorem w_c1 : (Jvm.Cond.code ({ cls := "com/example/sluice/sluice/Interval", name := "start", desc := "(J)J" } : Jvm.MethodName) prog_16_method_5_code (3 : Nat) (Option.some Jvm.ClassFile.FieldType.long)).before args0 about1 = true := code_word (m := ⟨6, 0⟩) (meth := k6m0) (c := k6c0) (by decide +kernel) rfl rfl rfl (by decide +kernel)
set_option maxRecDepth 65536 in
theorem w_c2 : (Jvm.Cond.code ({ cls := "java/lang/Math", name := "floorDiv", desc := "(JJ)J" } : Jvm.MethodName) jdk_29_method_49_code (6 : Nat) (Option.some Jvm.ClassFile.FieldType.long)).before args0 about1 = true := code_word (m := ⟨7, 1⟩) (meth := k7m1) (c := k7c1) (by decide +kernel) rfl rfl rfl (by decide +kernel)
def codes1 : List Jvm.Cond := [Jvm.Cond.code x code maxLocals ret, Jvm.Cond.code ({ cls := "com/example/sluice/sluice/Interval", name := "start", desc := "(J)J" } : Jvm.MethodName) prog_16_method_5_code (3 : Nat) (Option.some Jvm.ClassFile.FieldType.long), Jvm.Cond.code ({ cls := "java/lang/Math", name := "floorDiv", desc := "(JJ)J" } : Jvm.MethodName) jdk_29_method_49_code (6 : Nat) (Option.some Jvm.ClassFile.FieldType.long)]
set_option maxRecDepth 65536 in
theorem codes_eq : words1.filter isCode = codes1 := rfl
theorem w_codes : ∀ c ∈ words1.filter isCode, c.before args0 about1 = true := by
  rw [codes_eq]
  intro c hc
  simp only [codes1, List.mem_cons, List.not_mem_nil, or_false] at hc
  rcases hc with rfl | rfl | rfl
  · exact w_c0
  · exact w_c1
  · exact w_c2
set_option maxRecDepth 65536 in
theorem w_t1 : words1.all (fun c => isCode c || c.before args0 about1) = true := by decide +kernel
theorem w_tables : (allAtoms (Jvm.Cond.code x code maxLocals ret :: tables_1)).before args0 about1 = true := by
  rw [allAtoms_all]
  show words1.all (fun c => c.before args0 about1) = true
  refine all_split ?_ w_codes
  rw [w_t1]
set_option maxRecDepth 65536 in
theorem w_case : (Jvm.Cond.and given_1 narrow_1).before args0 about1 = true := by decide +kernel
theorem w_applies : (headSpec (Jvm.Cond.code x code maxLocals ret :: tables_1) room_1).applies x e0.platform about1 = true :=
  (Spec.applies_iff w_frames).mpr ⟨w_running, w_runnable, w_alone, w_named, w_hears, w_ripe, w_room, w_tables⟩
theorem atStart : AtStart classFile x code maxLocals ret World_1 tables_1 room_1 Calls_1 rest_1 Pre_1 launch0 p0 e0 about1 theMethod args0 below0 :=
  ⟨lists_1, trivial, launch0.admits_env _ _ _, launch0.least_env, fairChoices_fair.cas, fairChoices_fair.clock, w_frames, w_args, w_heap, w_applies, trivial, trivial, w_case⟩
end start1
theorem witness_1 : WitnessClaimed_1 := ⟨start1.p0, start1.e0, start1.about1, start1.theMethod, start1.args0, start1.below0, start1.atStart⟩
end Jvm.Pilot.@@N@@
