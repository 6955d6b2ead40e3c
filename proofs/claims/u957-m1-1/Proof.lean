import JvmDerived
import JvmDerived.Pilot.@@N@@Statement
import JvmDerived.Pilot.@@N@@Code
set_option linter.unusedVariables false
set_option linter.unusedSimpArgs false
namespace Jvm.RoadKit
open Sem ClassFile Op Lib Jvm.Stand Jvm.Free Jvm.LawKit
section New
variable {p : Program} {l : Launch} {e : Env} {R : Room} {s : State} {m : MethodId} {args : Array Value} {below : List Frame} {meth : Method} {c : Code} {T : State} {locs : List Loc} {cells slots : Nat}
theorem retI (X : Stand p l e R s m args below meth c T locs cells slots) (hx : p.tables.exec = Jvm.exec) {pc : Nat} {Ls : Array Slot} {z : Int32} {rest : List Value} (hret : meth.sig.returnType = some .int) (hd : decode c.code pc = .ok (.ireturn, 1)) {fs : List Frame}
    (hl : ∀ (f : JFrame) (acts : List Action), f.method = m → f.locked = none → f.entered = [] → (doReturn e (T.setTop f) acts (some (.int z))).1 = T.setFrames fs) : Steps p.tables e below (T.setTop (mkF m pc Ls (.int z :: rest))) (T.setFrames fs) := by
  have hm' : T.vm.method? m = some meth := X.method'
  have hn : narrow .int (.int z) = .int z := rfl
  show Steps p.tables e below (T.setTop { method := m, pc := pc, locals := Ls, stack := _ :: rest, locked := none }) _
  jvm_step X.here [X.here.top, hx, hd, hm', hret, hn]
  first | (intro acts; rw [hl _ acts rfl rfl rfl]) | rw [hl _ _ rfl rfl rfl]
  exact Steps.refl _
end New
end Jvm.RoadKit
namespace Jvm.Pilot.@@N@@
open Jvm Jvm.ClassFile Sem Op Lib Jvm.Free Jvm.Stand Jvm.LawKit Jvm.RoadKit Bundle Jvm.Pilot.@@N@@.Jvm.D
/-- a run from U comes to an end at which P holds -/
def Go (p : Program) (e : Env) (below : List Frame) (P : State → Outcome → Prop) (U : State) : Prop := ∃ s₂ o, Steps p.tables e below U s₂ ∧ P s₂ o
theorem Go.out {p : Program} {e : Env} {below : List Frame} {P : State → Outcome → Prop} {U : State} (h : Go p e below P U) : ∃ s₂ o, Steps p.tables e below U s₂ ∧ P s₂ o := h
theorem Go.pre {p : Program} {e : Env} {below : List Frame} {P : State → Outcome → Prop} {U U' : State} (st : ∀ t, Steps p.tables e below U' t → Steps p.tables e below U t) (h : Go p e below P U') : Go p e below P U := by
  obtain ⟨t, o, h1, h2⟩ := h
  exact ⟨t, o, st _ h1, h2⟩
theorem Go.named {p : Program} {e : Env} {below : List Frame} {P : State → Outcome → Prop} {U : State} (h : ∀ P', P' = P → Go p e below P' U) : Go p e below P U := h P rfl
theorem Go.fin {p : Program} {e : Env} {below : List Frame} {P : State → Outcome → Prop} {U t : State} {o : Outcome} (st : Steps p.tables e below U t) (h : P t o) : Go p e below P U := ⟨t, o, st, h⟩
theorem own_cut {p : Program} {e : Env} {below : List Frame} {U U' : State} (st : Steps p.tables e below U U') : ∀ t, Steps p.tables e below U' t → Steps p.tables e below U t := fun _ k => st.trans k
theorem own_ltT {x y : Int64} (h : x < y) : lcmpW x y < 0 := by rw [lcW]; exact (lc_lt x y).mpr h
theorem own_ltF {x y : Int64} (h : ¬ x < y) : ¬ lcmpW x y < 0 := by rw [lcW]; exact fun q => h ((lc_lt x y).mp q)
theorem own_gtT {x y : Int64} (h : y < x) : 0 < lcmpW x y := by rw [lcW]; exact (lc_gt x y).mpr h
theorem own_gtF {x y : Int64} (h : ¬ y < x) : ¬ 0 < lcmpW x y := by rw [lcW]; exact fun q => h ((lc_gt x y).mp q)
theorem own_eqT {x y : Int64} (h : x = y) : lcmpW x y = 0 := by rw [lcW]; exact (lc_eq x y).mpr h
theorem own_eqF {x y : Int64} (h : ¬ x = y) : ¬ lcmpW x y = 0 := by rw [lcW]; exact fun q => h ((lc_eq x y).mp q)

theorem own_staK {Z : State} {h h' : Heap} {C n d : String} {v : Value} (F : Sta Z h C n d v) (K : Keep h h' []) : Sta Z h' C n d v := by
  obtain ⟨cf, i, k, f, st, cell, h1, h2, h3, h4, h5, r⟩ := F
  exact ⟨cf, i, k, f, st, cell, h1, h2, h3, h4, K.2.1 _ _ h5 nin0, r⟩
theorem own_fldI {args : Array Value} {s : State} {t : Term} {C n d : String} {a : Addr} {k : Int32} (ht : t.eval args s none [] s = some (.ref a)) (h : (Cond.eq (Term.field t C n d) (Term.int k)).value args s none s [] = some true) : Fld s s.heap a C n d (.int k) := by
  apply Fld.start
  have e := fld_at (C := C) (n := n) (dd := d) ht
  have ek : (Term.int k).eval args s none [] s = some (.int k) := Term.int_eval k
  cases hf : s.fieldOf? a C n d with
  | none => rw [hf] at e; simp [Cond.value, e] at h
  | some v =>
    rw [hf] at e
    cases v <;> simp [Cond.value, e, ek] at h
    subst h; rfl
theorem own_fldJ {args : Array Value} {s : State} {t : Term} {C n d : String} {a : Addr} {k : Int64} (ht : t.eval args s none [] s = some (.ref a)) (h : (Cond.eq (Term.field t C n d) (Term.long k)).value args s none s [] = some true) : Fld s s.heap a C n d (.long k) := by
  apply Fld.start
  have e := fld_at (C := C) (n := n) (dd := d) ht
  have ek : (Term.long k).eval args s none [] s = some (.long k) := by simp [Term.eval]
  cases hf : s.fieldOf? a C n d with
  | none => rw [hf] at e; simp [Cond.value, e] at h
  | some v =>
    rw [hf] at e
    cases v <;> simp [Cond.value, e, ek] at h
    subst h; rfl
theorem d_method_6_0 : decode method_6_code 0 = .ok (.iload_n 0, 1) := by decide +kernel
theorem d_method_6_1 : decode method_6_code 1 = .ok (.bipush 65, 2) := by decide +kernel
theorem d_method_6_3 : decode method_6_code 3 = .ok (.if_icmp .lt 9, 3) := by decide +kernel
theorem d_method_6_12 : decode method_6_code 12 = .ok (.iload_n 0, 1) := by decide +kernel
theorem d_method_6_13 : decode method_6_code 13 = .ok (.bipush 97, 2) := by decide +kernel
theorem d_method_6_15 : decode method_6_code 15 = .ok (.if_icmp .lt 13, 3) := by decide +kernel
theorem d_method_6_28 : decode method_6_code 28 = .ok (.iconst 0, 1) := by decide +kernel
theorem d_method_6_29 : decode method_6_code 29 = .ok (.ireturn, 1) := by decide +kernel
theorem d_method_6_18 : decode method_6_code 18 = .ok (.iload_n 0, 1) := by decide +kernel
theorem d_method_6_19 : decode method_6_code 19 = .ok (.bipush 122, 2) := by decide +kernel
theorem d_method_6_21 : decode method_6_code 21 = .ok (.if_icmp .gt 7, 3) := by decide +kernel
theorem d_method_6_24 : decode method_6_code 24 = .ok (.iconst 1, 1) := by decide +kernel
theorem d_method_6_25 : decode method_6_code 25 = .ok (.goto 4, 3) := by decide +kernel
theorem d_method_6_6 : decode method_6_code 6 = .ok (.iload_n 0, 1) := by decide +kernel
theorem d_method_6_7 : decode method_6_code 7 = .ok (.bipush 90, 2) := by decide +kernel
theorem d_method_6_9 : decode method_6_code 9 = .ok (.if_icmp .le 15, 3) := by decide +kernel
theorem d_method_7_0 : decode method_7_code 0 = .ok (.iload_n 0, 1) := by decide +kernel
theorem d_method_7_1 : decode method_7_code 1 = .ok (.bipush 48, 2) := by decide +kernel
theorem d_method_7_3 : decode method_7_code 3 = .ok (.if_icmp .lt 13, 3) := by decide +kernel
theorem d_method_7_16 : decode method_7_code 16 = .ok (.iconst 0, 1) := by decide +kernel
theorem d_method_7_17 : decode method_7_code 17 = .ok (.ireturn, 1) := by decide +kernel
theorem d_method_7_6 : decode method_7_code 6 = .ok (.iload_n 0, 1) := by decide +kernel
theorem d_method_7_7 : decode method_7_code 7 = .ok (.bipush 57, 2) := by decide +kernel
theorem d_method_7_9 : decode method_7_code 9 = .ok (.if_icmp .gt 7, 3) := by decide +kernel
theorem d_method_7_12 : decode method_7_code 12 = .ok (.iconst 1, 1) := by decide +kernel
theorem d_method_7_13 : decode method_7_code 13 = .ok (.goto 4, 3) := by decide +kernel
theorem d_method_8_0 : decode method_8_code 0 = .ok (.iload_n 0, 1) := by decide +kernel
theorem d_method_8_1 : decode method_8_code 1 = .ok (.invokestatic 33, 3) := by decide +kernel
theorem d_method_8_4 : decode method_8_code 4 = .ok (.ifCond .ne 27, 3) := by decide +kernel
theorem d_method_8_31 : decode method_8_code 31 = .ok (.iconst 1, 1) := by decide +kernel
theorem d_method_8_32 : decode method_8_code 32 = .ok (.goto 4, 3) := by decide +kernel
theorem d_method_8_36 : decode method_8_code 36 = .ok (.ireturn, 1) := by decide +kernel
theorem d_method_8_7 : decode method_8_code 7 = .ok (.iload_n 0, 1) := by decide +kernel
theorem d_method_8_8 : decode method_8_code 8 = .ok (.bipush 65, 2) := by decide +kernel
theorem d_method_8_10 : decode method_8_code 10 = .ok (.if_icmp .lt 9, 3) := by decide +kernel
theorem d_method_8_19 : decode method_8_code 19 = .ok (.iload_n 0, 1) := by decide +kernel
theorem d_method_8_20 : decode method_8_code 20 = .ok (.bipush 97, 2) := by decide +kernel
theorem d_method_8_22 : decode method_8_code 22 = .ok (.if_icmp .lt 13, 3) := by decide +kernel
theorem d_method_8_35 : decode method_8_code 35 = .ok (.iconst 0, 1) := by decide +kernel
theorem d_method_8_25 : decode method_8_code 25 = .ok (.iload_n 0, 1) := by decide +kernel
theorem d_method_8_26 : decode method_8_code 26 = .ok (.bipush 102, 2) := by decide +kernel
theorem d_method_8_28 : decode method_8_code 28 = .ok (.if_icmp .gt 7, 3) := by decide +kernel
theorem d_method_8_13 : decode method_8_code 13 = .ok (.iload_n 0, 1) := by decide +kernel
theorem d_method_8_14 : decode method_8_code 14 = .ok (.bipush 70, 2) := by decide +kernel
theorem d_method_8_16 : decode method_8_code 16 = .ok (.if_icmp .le 15, 3) := by decide +kernel
theorem d_method_9_0 : decode method_9_code 0 = .ok (.iload_n 0, 1) := by decide +kernel
theorem d_method_9_1 : decode method_9_code 1 = .ok (.invokestatic 26, 3) := by decide +kernel
theorem d_method_9_4 : decode method_9_code 4 = .ok (.ifCond .ne 28, 3) := by decide +kernel
theorem d_method_9_32 : decode method_9_code 32 = .ok (.iconst 1, 1) := by decide +kernel
theorem d_method_9_33 : decode method_9_code 33 = .ok (.goto 4, 3) := by decide +kernel
theorem d_method_9_37 : decode method_9_code 37 = .ok (.ireturn, 1) := by decide +kernel
theorem d_method_9_7 : decode method_9_code 7 = .ok (.iload_n 0, 1) := by decide +kernel
theorem d_method_9_8 : decode method_9_code 8 = .ok (.invokestatic 33, 3) := by decide +kernel
theorem d_method_9_11 : decode method_9_code 11 = .ok (.ifCond .ne 21, 3) := by decide +kernel
theorem d_method_9_14 : decode method_9_code 14 = .ok (.iload_n 0, 1) := by decide +kernel
theorem d_method_9_15 : decode method_9_code 15 = .ok (.bipush 43, 2) := by decide +kernel
theorem d_method_9_17 : decode method_9_code 17 = .ok (.if_icmp .eq 15, 3) := by decide +kernel
theorem d_method_9_20 : decode method_9_code 20 = .ok (.iload_n 0, 1) := by decide +kernel
theorem d_method_9_21 : decode method_9_code 21 = .ok (.bipush 45, 2) := by decide +kernel
theorem d_method_9_23 : decode method_9_code 23 = .ok (.if_icmp .eq 9, 3) := by decide +kernel
theorem d_method_9_26 : decode method_9_code 26 = .ok (.iload_n 0, 1) := by decide +kernel
theorem d_method_9_27 : decode method_9_code 27 = .ok (.bipush 46, 2) := by decide +kernel
theorem d_method_9_29 : decode method_9_code 29 = .ok (.if_icmp .ne 7, 3) := by decide +kernel
theorem d_method_9_36 : decode method_9_code 36 = .ok (.iconst 0, 1) := by decide +kernel
theorem d_method_10_0 : decode method_10_code 0 = .ok (.iload_n 0, 1) := by decide +kernel
theorem d_method_10_1 : decode method_10_code 1 = .ok (.invokestatic 26, 3) := by decide +kernel
theorem d_method_10_4 : decode method_10_code 4 = .ok (.ifCond .ne 100, 3) := by decide +kernel
theorem d_method_10_104 : decode method_10_code 104 = .ok (.iconst 1, 1) := by decide +kernel
theorem d_method_10_105 : decode method_10_code 105 = .ok (.goto 4, 3) := by decide +kernel
theorem d_method_10_109 : decode method_10_code 109 = .ok (.ireturn, 1) := by decide +kernel
theorem d_method_10_7 : decode method_10_code 7 = .ok (.iload_n 0, 1) := by decide +kernel
theorem d_method_10_8 : decode method_10_code 8 = .ok (.invokestatic 33, 3) := by decide +kernel
theorem d_method_10_11 : decode method_10_code 11 = .ok (.ifCond .ne 93, 3) := by decide +kernel
theorem d_method_10_14 : decode method_10_code 14 = .ok (.iload_n 0, 1) := by decide +kernel
theorem d_method_10_15 : decode method_10_code 15 = .ok (.bipush 45, 2) := by decide +kernel
theorem d_method_10_17 : decode method_10_code 17 = .ok (.if_icmp .eq 87, 3) := by decide +kernel
theorem d_method_10_20 : decode method_10_code 20 = .ok (.iload_n 0, 1) := by decide +kernel
theorem d_method_10_21 : decode method_10_code 21 = .ok (.bipush 46, 2) := by decide +kernel
theorem d_method_10_23 : decode method_10_code 23 = .ok (.if_icmp .eq 81, 3) := by decide +kernel
theorem d_method_10_26 : decode method_10_code 26 = .ok (.iload_n 0, 1) := by decide +kernel
theorem d_method_10_27 : decode method_10_code 27 = .ok (.bipush 95, 2) := by decide +kernel
theorem d_method_10_29 : decode method_10_code 29 = .ok (.if_icmp .eq 75, 3) := by decide +kernel
theorem d_method_10_32 : decode method_10_code 32 = .ok (.iload_n 0, 1) := by decide +kernel
theorem d_method_10_33 : decode method_10_code 33 = .ok (.bipush 126, 2) := by decide +kernel
theorem d_method_10_35 : decode method_10_code 35 = .ok (.if_icmp .eq 69, 3) := by decide +kernel
theorem d_method_10_38 : decode method_10_code 38 = .ok (.iload_n 0, 1) := by decide +kernel
theorem d_method_10_39 : decode method_10_code 39 = .ok (.bipush 33, 2) := by decide +kernel
theorem d_method_10_41 : decode method_10_code 41 = .ok (.if_icmp .eq 63, 3) := by decide +kernel
theorem d_method_10_44 : decode method_10_code 44 = .ok (.iload_n 0, 1) := by decide +kernel
theorem d_method_10_45 : decode method_10_code 45 = .ok (.bipush 36, 2) := by decide +kernel
theorem d_method_10_47 : decode method_10_code 47 = .ok (.if_icmp .eq 57, 3) := by decide +kernel
theorem d_method_10_50 : decode method_10_code 50 = .ok (.iload_n 0, 1) := by decide +kernel
theorem d_method_10_51 : decode method_10_code 51 = .ok (.bipush 38, 2) := by decide +kernel
theorem d_method_10_53 : decode method_10_code 53 = .ok (.if_icmp .eq 51, 3) := by decide +kernel
theorem d_method_10_56 : decode method_10_code 56 = .ok (.iload_n 0, 1) := by decide +kernel
theorem d_method_10_57 : decode method_10_code 57 = .ok (.bipush 39, 2) := by decide +kernel
theorem d_method_10_59 : decode method_10_code 59 = .ok (.if_icmp .eq 45, 3) := by decide +kernel
theorem d_method_10_62 : decode method_10_code 62 = .ok (.iload_n 0, 1) := by decide +kernel
theorem d_method_10_63 : decode method_10_code 63 = .ok (.bipush 40, 2) := by decide +kernel
theorem d_method_10_65 : decode method_10_code 65 = .ok (.if_icmp .eq 39, 3) := by decide +kernel
theorem d_method_10_68 : decode method_10_code 68 = .ok (.iload_n 0, 1) := by decide +kernel
theorem d_method_10_69 : decode method_10_code 69 = .ok (.bipush 41, 2) := by decide +kernel
theorem d_method_10_71 : decode method_10_code 71 = .ok (.if_icmp .eq 33, 3) := by decide +kernel
theorem d_method_10_74 : decode method_10_code 74 = .ok (.iload_n 0, 1) := by decide +kernel
theorem d_method_10_75 : decode method_10_code 75 = .ok (.bipush 42, 2) := by decide +kernel
theorem d_method_10_77 : decode method_10_code 77 = .ok (.if_icmp .eq 27, 3) := by decide +kernel
theorem d_method_10_80 : decode method_10_code 80 = .ok (.iload_n 0, 1) := by decide +kernel
theorem d_method_10_81 : decode method_10_code 81 = .ok (.bipush 43, 2) := by decide +kernel
theorem d_method_10_83 : decode method_10_code 83 = .ok (.if_icmp .eq 21, 3) := by decide +kernel
theorem d_method_10_86 : decode method_10_code 86 = .ok (.iload_n 0, 1) := by decide +kernel
theorem d_method_10_87 : decode method_10_code 87 = .ok (.bipush 44, 2) := by decide +kernel
theorem d_method_10_89 : decode method_10_code 89 = .ok (.if_icmp .eq 15, 3) := by decide +kernel
theorem d_method_10_92 : decode method_10_code 92 = .ok (.iload_n 0, 1) := by decide +kernel
theorem d_method_10_93 : decode method_10_code 93 = .ok (.bipush 59, 2) := by decide +kernel
theorem d_method_10_95 : decode method_10_code 95 = .ok (.if_icmp .eq 9, 3) := by decide +kernel
theorem d_method_10_98 : decode method_10_code 98 = .ok (.iload_n 0, 1) := by decide +kernel
theorem d_method_10_99 : decode method_10_code 99 = .ok (.bipush 61, 2) := by decide +kernel
theorem d_method_10_101 : decode method_10_code 101 = .ok (.if_icmp .ne 7, 3) := by decide +kernel
theorem d_method_10_108 : decode method_10_code 108 = .ok (.iconst 0, 1) := by decide +kernel
theorem d_method_11_0 : decode method_11_code 0 = .ok (.iload_n 0, 1) := by decide +kernel
theorem d_method_11_1 : decode method_11_code 1 = .ok (.invokestatic 30, 3) := by decide +kernel
theorem d_method_11_4 : decode method_11_code 4 = .ok (.ifCond .ne 21, 3) := by decide +kernel
theorem d_method_11_25 : decode method_11_code 25 = .ok (.iconst 1, 1) := by decide +kernel
theorem d_method_11_26 : decode method_11_code 26 = .ok (.goto 4, 3) := by decide +kernel
theorem d_method_11_30 : decode method_11_code 30 = .ok (.ireturn, 1) := by decide +kernel
theorem d_method_11_7 : decode method_11_code 7 = .ok (.iload_n 0, 1) := by decide +kernel
theorem d_method_11_8 : decode method_11_code 8 = .ok (.bipush 58, 2) := by decide +kernel
theorem d_method_11_10 : decode method_11_code 10 = .ok (.if_icmp .eq 15, 3) := by decide +kernel
theorem d_method_11_13 : decode method_11_code 13 = .ok (.iload_n 0, 1) := by decide +kernel
theorem d_method_11_14 : decode method_11_code 14 = .ok (.bipush 64, 2) := by decide +kernel
theorem d_method_11_16 : decode method_11_code 16 = .ok (.if_icmp .eq 9, 3) := by decide +kernel
theorem d_method_11_19 : decode method_11_code 19 = .ok (.iload_n 0, 1) := by decide +kernel
theorem d_method_11_20 : decode method_11_code 20 = .ok (.bipush 47, 2) := by decide +kernel
theorem d_method_11_22 : decode method_11_code 22 = .ok (.if_icmp .ne 7, 3) := by decide +kernel
theorem d_method_11_29 : decode method_11_code 29 = .ok (.iconst 0, 1) := by decide +kernel
theorem d_method_12_0 : decode method_12_code 0 = .ok (.iload_n 0, 1) := by decide +kernel
theorem d_method_12_1 : decode method_12_code 1 = .ok (.invokestatic 45, 3) := by decide +kernel
theorem d_method_12_4 : decode method_12_code 4 = .ok (.ifCond .ne 9, 3) := by decide +kernel
theorem d_method_12_13 : decode method_12_code 13 = .ok (.iconst 1, 1) := by decide +kernel
theorem d_method_12_14 : decode method_12_code 14 = .ok (.goto 4, 3) := by decide +kernel
theorem d_method_12_18 : decode method_12_code 18 = .ok (.ireturn, 1) := by decide +kernel
theorem d_method_12_7 : decode method_12_code 7 = .ok (.iload_n 0, 1) := by decide +kernel
theorem d_method_12_8 : decode method_12_code 8 = .ok (.bipush 63, 2) := by decide +kernel
theorem d_method_12_10 : decode method_12_code 10 = .ok (.if_icmp .ne 7, 3) := by decide +kernel
theorem d_method_12_17 : decode method_12_code 17 = .ok (.iconst 0, 1) := by decide +kernel
theorem d_method_3_0 : decode method_3_code 0 = .ok (.iload_n 0, 1) := by decide +kernel
theorem d_method_3_1 : decode method_3_code 1 = .ok (.ifCond .eq 8, 3) := by decide +kernel
theorem d_method_3_9 : decode method_3_code 9 = .ok (.iload_n 1, 1) := by decide +kernel
theorem d_method_3_10 : decode method_3_code 10 = .ok (.invokestatic 26, 3) := by decide +kernel
theorem d_method_3_13 : decode method_3_code 13 = .ok (.ireturn, 1) := by decide +kernel
theorem d_method_3_4 : decode method_3_code 4 = .ok (.iload_n 0, 1) := by decide +kernel
theorem d_method_3_5 : decode method_3_code 5 = .ok (.iconst 4, 1) := by decide +kernel
theorem d_method_3_6 : decode method_3_code 6 = .ok (.if_icmp .ne 8, 3) := by decide +kernel
theorem d_method_3_14 : decode method_3_code 14 = .ok (.iload_n 0, 1) := by decide +kernel
theorem d_method_3_15 : decode method_3_code 15 = .ok (.iconst 1, 1) := by decide +kernel
theorem d_method_3_16 : decode method_3_code 16 = .ok (.if_icmp .ne 15, 3) := by decide +kernel
theorem d_method_3_19 : decode method_3_code 19 = .ok (.iload_n 1, 1) := by decide +kernel
theorem d_method_3_20 : decode method_3_code 20 = .ok (.bipush 58, 2) := by decide +kernel
theorem d_method_3_22 : decode method_3_code 22 = .ok (.if_icmp .ne 7, 3) := by decide +kernel
theorem d_method_3_25 : decode method_3_code 25 = .ok (.iconst 1, 1) := by decide +kernel
theorem d_method_3_26 : decode method_3_code 26 = .ok (.goto 4, 3) := by decide +kernel
theorem d_method_3_30 : decode method_3_code 30 = .ok (.ireturn, 1) := by decide +kernel
theorem d_method_3_29 : decode method_3_code 29 = .ok (.iconst 0, 1) := by decide +kernel
theorem d_method_3_31 : decode method_3_code 31 = .ok (.iload_n 0, 1) := by decide +kernel
theorem d_method_3_32 : decode method_3_code 32 = .ok (.iconst 5, 1) := by decide +kernel
theorem d_method_3_33 : decode method_3_code 33 = .ok (.if_icmp .ne 34, 3) := by decide +kernel
theorem d_method_3_36 : decode method_3_code 36 = .ok (.iload_n 1, 1) := by decide +kernel
theorem d_method_3_37 : decode method_3_code 37 = .ok (.invokestatic 30, 3) := by decide +kernel
theorem d_method_3_40 : decode method_3_code 40 = .ok (.ifCond .ne 21, 3) := by decide +kernel
theorem d_method_3_61 : decode method_3_code 61 = .ok (.iconst 1, 1) := by decide +kernel
theorem d_method_3_62 : decode method_3_code 62 = .ok (.goto 4, 3) := by decide +kernel
theorem d_method_3_66 : decode method_3_code 66 = .ok (.ireturn, 1) := by decide +kernel
theorem d_method_3_43 : decode method_3_code 43 = .ok (.iload_n 1, 1) := by decide +kernel
theorem d_method_3_44 : decode method_3_code 44 = .ok (.bipush 58, 2) := by decide +kernel
theorem d_method_3_46 : decode method_3_code 46 = .ok (.if_icmp .eq 15, 3) := by decide +kernel
theorem d_method_3_49 : decode method_3_code 49 = .ok (.iload_n 1, 1) := by decide +kernel
theorem d_method_3_50 : decode method_3_code 50 = .ok (.bipush 47, 2) := by decide +kernel
theorem d_method_3_52 : decode method_3_code 52 = .ok (.if_icmp .eq 9, 3) := by decide +kernel
theorem d_method_3_55 : decode method_3_code 55 = .ok (.iload_n 1, 1) := by decide +kernel
theorem d_method_3_56 : decode method_3_code 56 = .ok (.bipush 63, 2) := by decide +kernel
theorem d_method_3_58 : decode method_3_code 58 = .ok (.if_icmp .ne 7, 3) := by decide +kernel
theorem d_method_3_65 : decode method_3_code 65 = .ok (.iconst 0, 1) := by decide +kernel
theorem d_method_3_67 : decode method_3_code 67 = .ok (.iload_n 0, 1) := by decide +kernel
theorem d_method_3_68 : decode method_3_code 68 = .ok (.bipush 6, 2) := by decide +kernel
theorem d_method_3_70 : decode method_3_code 70 = .ok (.if_icmp .ne 28, 3) := by decide +kernel
theorem d_method_3_73 : decode method_3_code 73 = .ok (.iload_n 1, 1) := by decide +kernel
theorem d_method_3_74 : decode method_3_code 74 = .ok (.invokestatic 33, 3) := by decide +kernel
theorem d_method_3_77 : decode method_3_code 77 = .ok (.ifCond .ne 15, 3) := by decide +kernel
theorem d_method_3_92 : decode method_3_code 92 = .ok (.iconst 1, 1) := by decide +kernel
theorem d_method_3_93 : decode method_3_code 93 = .ok (.goto 4, 3) := by decide +kernel
theorem d_method_3_97 : decode method_3_code 97 = .ok (.ireturn, 1) := by decide +kernel
theorem d_method_3_80 : decode method_3_code 80 = .ok (.iload_n 1, 1) := by decide +kernel
theorem d_method_3_81 : decode method_3_code 81 = .ok (.bipush 47, 2) := by decide +kernel
theorem d_method_3_83 : decode method_3_code 83 = .ok (.if_icmp .eq 9, 3) := by decide +kernel
theorem d_method_3_86 : decode method_3_code 86 = .ok (.iload_n 1, 1) := by decide +kernel
theorem d_method_3_87 : decode method_3_code 87 = .ok (.bipush 63, 2) := by decide +kernel
theorem d_method_3_89 : decode method_3_code 89 = .ok (.if_icmp .ne 7, 3) := by decide +kernel
theorem d_method_3_96 : decode method_3_code 96 = .ok (.iconst 0, 1) := by decide +kernel
theorem d_method_3_98 : decode method_3_code 98 = .ok (.iload_n 0, 1) := by decide +kernel
theorem d_method_3_99 : decode method_3_code 99 = .ok (.bipush 7, 2) := by decide +kernel
theorem d_method_3_101 : decode method_3_code 101 = .ok (.if_icmp .ne 21, 3) := by decide +kernel
theorem d_method_3_104 : decode method_3_code 104 = .ok (.iload_n 1, 1) := by decide +kernel
theorem d_method_3_105 : decode method_3_code 105 = .ok (.bipush 47, 2) := by decide +kernel
theorem d_method_3_107 : decode method_3_code 107 = .ok (.if_icmp .eq 9, 3) := by decide +kernel
theorem d_method_3_116 : decode method_3_code 116 = .ok (.iconst 1, 1) := by decide +kernel
theorem d_method_3_117 : decode method_3_code 117 = .ok (.goto 4, 3) := by decide +kernel
theorem d_method_3_121 : decode method_3_code 121 = .ok (.ireturn, 1) := by decide +kernel
theorem d_method_3_110 : decode method_3_code 110 = .ok (.iload_n 1, 1) := by decide +kernel
theorem d_method_3_111 : decode method_3_code 111 = .ok (.bipush 63, 2) := by decide +kernel
theorem d_method_3_113 : decode method_3_code 113 = .ok (.if_icmp .ne 7, 3) := by decide +kernel
theorem d_method_3_120 : decode method_3_code 120 = .ok (.iconst 0, 1) := by decide +kernel
theorem d_method_3_122 : decode method_3_code 122 = .ok (.iload_n 0, 1) := by decide +kernel
theorem d_method_3_123 : decode method_3_code 123 = .ok (.bipush 11, 2) := by decide +kernel
theorem d_method_3_125 : decode method_3_code 125 = .ok (.if_icmp .ne 22, 3) := by decide +kernel
theorem d_method_3_128 : decode method_3_code 128 = .ok (.iload_n 1, 1) := by decide +kernel
theorem d_method_3_129 : decode method_3_code 129 = .ok (.invokestatic 36, 3) := by decide +kernel
theorem d_method_3_132 : decode method_3_code 132 = .ok (.ifCond .ne 9, 3) := by decide +kernel
theorem d_method_3_141 : decode method_3_code 141 = .ok (.iconst 1, 1) := by decide +kernel
theorem d_method_3_142 : decode method_3_code 142 = .ok (.goto 4, 3) := by decide +kernel
theorem d_method_3_146 : decode method_3_code 146 = .ok (.ireturn, 1) := by decide +kernel
theorem d_method_3_135 : decode method_3_code 135 = .ok (.iload_n 1, 1) := by decide +kernel
theorem d_method_3_136 : decode method_3_code 136 = .ok (.bipush 35, 2) := by decide +kernel
theorem d_method_3_138 : decode method_3_code 138 = .ok (.if_icmp .ne 7, 3) := by decide +kernel
theorem d_method_3_145 : decode method_3_code 145 = .ok (.iconst 0, 1) := by decide +kernel
theorem d_method_3_147 : decode method_3_code 147 = .ok (.iload_n 1, 1) := by decide +kernel
theorem d_method_3_148 : decode method_3_code 148 = .ok (.invokestatic 36, 3) := by decide +kernel
theorem d_method_3_151 : decode method_3_code 151 = .ok (.ireturn, 1) := by decide +kernel
theorem d_method_4_0 : decode method_4_code 0 = .ok (.iload_n 0, 1) := by decide +kernel
theorem d_method_4_1 : decode method_4_code 1 = .ok (.ifCond .ne 8, 3) := by decide +kernel
theorem d_method_4_4 : decode method_4_code 4 = .ok (.iload_n 1, 1) := by decide +kernel
theorem d_method_4_5 : decode method_4_code 5 = .ok (.invokestatic 26, 3) := by decide +kernel
theorem d_method_4_8 : decode method_4_code 8 = .ok (.ireturn, 1) := by decide +kernel
theorem d_method_4_9 : decode method_4_code 9 = .ok (.iload_n 0, 1) := by decide +kernel
theorem d_method_4_10 : decode method_4_code 10 = .ok (.iconst 1, 1) := by decide +kernel
theorem d_method_4_11 : decode method_4_code 11 = .ok (.if_icmp .ne 34, 3) := by decide +kernel
theorem d_method_4_14 : decode method_4_code 14 = .ok (.iload_n 1, 1) := by decide +kernel
theorem d_method_4_15 : decode method_4_code 15 = .ok (.invokestatic 39, 3) := by decide +kernel
theorem d_method_4_18 : decode method_4_code 18 = .ok (.ifCond .eq 15, 3) := by decide +kernel
theorem d_method_4_21 : decode method_4_code 21 = .ok (.iload_n 1, 1) := by decide +kernel
theorem d_method_4_22 : decode method_4_code 22 = .ok (.bipush 97, 2) := by decide +kernel
theorem d_method_4_24 : decode method_4_code 24 = .ok (.if_icmp .eq 9, 3) := by decide +kernel
theorem d_method_4_33 : decode method_4_code 33 = .ok (.iload_n 1, 1) := by decide +kernel
theorem d_method_4_34 : decode method_4_code 34 = .ok (.bipush 58, 2) := by decide +kernel
theorem d_method_4_36 : decode method_4_code 36 = .ok (.if_icmp .ne 7, 3) := by decide +kernel
theorem d_method_4_39 : decode method_4_code 39 = .ok (.iconst 1, 1) := by decide +kernel
theorem d_method_4_40 : decode method_4_code 40 = .ok (.goto 4, 3) := by decide +kernel
theorem d_method_4_44 : decode method_4_code 44 = .ok (.ireturn, 1) := by decide +kernel
theorem d_method_4_43 : decode method_4_code 43 = .ok (.iconst 0, 1) := by decide +kernel
theorem d_method_4_27 : decode method_4_code 27 = .ok (.iload_n 1, 1) := by decide +kernel
theorem d_method_4_28 : decode method_4_code 28 = .ok (.bipush 65, 2) := by decide +kernel
theorem d_method_4_30 : decode method_4_code 30 = .ok (.if_icmp .ne 9, 3) := by decide +kernel
theorem d_method_4_45 : decode method_4_code 45 = .ok (.iload_n 0, 1) := by decide +kernel
theorem d_method_4_46 : decode method_4_code 46 = .ok (.iconst 2, 1) := by decide +kernel
theorem d_method_4_47 : decode method_4_code 47 = .ok (.if_icmp .ne 22, 3) := by decide +kernel
theorem d_method_4_50 : decode method_4_code 50 = .ok (.iload_n 1, 1) := by decide +kernel
theorem d_method_4_51 : decode method_4_code 51 = .ok (.invokestatic 39, 3) := by decide +kernel
theorem d_method_4_54 : decode method_4_code 54 = .ok (.ifCond .ne 9, 3) := by decide +kernel
theorem d_method_4_63 : decode method_4_code 63 = .ok (.iconst 1, 1) := by decide +kernel
theorem d_method_4_64 : decode method_4_code 64 = .ok (.goto 4, 3) := by decide +kernel
theorem d_method_4_68 : decode method_4_code 68 = .ok (.ireturn, 1) := by decide +kernel
theorem d_method_4_57 : decode method_4_code 57 = .ok (.iload_n 1, 1) := by decide +kernel
theorem d_method_4_58 : decode method_4_code 58 = .ok (.bipush 58, 2) := by decide +kernel
theorem d_method_4_60 : decode method_4_code 60 = .ok (.if_icmp .ne 7, 3) := by decide +kernel
theorem d_method_4_67 : decode method_4_code 67 = .ok (.iconst 0, 1) := by decide +kernel
theorem d_method_4_69 : decode method_4_code 69 = .ok (.iload_n 0, 1) := by decide +kernel
theorem d_method_4_70 : decode method_4_code 70 = .ok (.iconst 3, 1) := by decide +kernel
theorem d_method_4_71 : decode method_4_code 71 = .ok (.if_icmp .ne 15, 3) := by decide +kernel
theorem d_method_4_74 : decode method_4_code 74 = .ok (.iload_n 1, 1) := by decide +kernel
theorem d_method_4_75 : decode method_4_code 75 = .ok (.bipush 58, 2) := by decide +kernel
theorem d_method_4_77 : decode method_4_code 77 = .ok (.if_icmp .ne 7, 3) := by decide +kernel
theorem d_method_4_80 : decode method_4_code 80 = .ok (.iconst 1, 1) := by decide +kernel
theorem d_method_4_81 : decode method_4_code 81 = .ok (.goto 4, 3) := by decide +kernel
theorem d_method_4_85 : decode method_4_code 85 = .ok (.ireturn, 1) := by decide +kernel
theorem d_method_4_84 : decode method_4_code 84 = .ok (.iconst 0, 1) := by decide +kernel
theorem d_method_4_86 : decode method_4_code 86 = .ok (.iload_n 0, 1) := by decide +kernel
theorem d_method_4_87 : decode method_4_code 87 = .ok (.iconst 5, 1) := by decide +kernel
theorem d_method_4_88 : decode method_4_code 88 = .ok (.if_icmp .eq 33, 3) := by decide +kernel
theorem d_method_4_121 : decode method_4_code 121 = .ok (.iload_n 1, 1) := by decide +kernel
theorem d_method_4_122 : decode method_4_code 122 = .ok (.invokestatic 42, 3) := by decide +kernel
theorem d_method_4_125 : decode method_4_code 125 = .ok (.ireturn, 1) := by decide +kernel
theorem d_method_4_91 : decode method_4_code 91 = .ok (.iload_n 0, 1) := by decide +kernel
theorem d_method_4_92 : decode method_4_code 92 = .ok (.bipush 6, 2) := by decide +kernel
theorem d_method_4_94 : decode method_4_code 94 = .ok (.if_icmp .eq 27, 3) := by decide +kernel
theorem d_method_4_97 : decode method_4_code 97 = .ok (.iload_n 0, 1) := by decide +kernel
theorem d_method_4_98 : decode method_4_code 98 = .ok (.bipush 9, 2) := by decide +kernel
theorem d_method_4_100 : decode method_4_code 100 = .ok (.if_icmp .eq 21, 3) := by decide +kernel
theorem d_method_4_103 : decode method_4_code 103 = .ok (.iload_n 0, 1) := by decide +kernel
theorem d_method_4_104 : decode method_4_code 104 = .ok (.bipush 10, 2) := by decide +kernel
theorem d_method_4_106 : decode method_4_code 106 = .ok (.if_icmp .eq 15, 3) := by decide +kernel
theorem d_method_4_109 : decode method_4_code 109 = .ok (.iload_n 0, 1) := by decide +kernel
theorem d_method_4_110 : decode method_4_code 110 = .ok (.bipush 13, 2) := by decide +kernel
theorem d_method_4_112 : decode method_4_code 112 = .ok (.if_icmp .eq 9, 3) := by decide +kernel
theorem d_method_4_115 : decode method_4_code 115 = .ok (.iload_n 0, 1) := by decide +kernel
theorem d_method_4_116 : decode method_4_code 116 = .ok (.bipush 14, 2) := by decide +kernel
theorem d_method_4_118 : decode method_4_code 118 = .ok (.if_icmp .ne 8, 3) := by decide +kernel
theorem d_method_4_126 : decode method_4_code 126 = .ok (.iload_n 0, 1) := by decide +kernel
theorem d_method_4_127 : decode method_4_code 127 = .ok (.bipush 7, 2) := by decide +kernel
theorem d_method_4_129 : decode method_4_code 129 = .ok (.if_icmp .ne 8, 3) := by decide +kernel
theorem d_method_4_132 : decode method_4_code 132 = .ok (.iload_n 1, 1) := by decide +kernel
theorem d_method_4_133 : decode method_4_code 133 = .ok (.invokestatic 36, 3) := by decide +kernel
theorem d_method_4_136 : decode method_4_code 136 = .ok (.ireturn, 1) := by decide +kernel
theorem d_method_4_137 : decode method_4_code 137 = .ok (.iload_n 0, 1) := by decide +kernel
theorem d_method_4_138 : decode method_4_code 138 = .ok (.bipush 11, 2) := by decide +kernel
theorem d_method_4_140 : decode method_4_code 140 = .ok (.if_icmp .ne 22, 3) := by decide +kernel
theorem d_method_4_143 : decode method_4_code 143 = .ok (.iload_n 1, 1) := by decide +kernel
theorem d_method_4_144 : decode method_4_code 144 = .ok (.invokestatic 36, 3) := by decide +kernel
theorem d_method_4_147 : decode method_4_code 147 = .ok (.ifCond .ne 9, 3) := by decide +kernel
theorem d_method_4_156 : decode method_4_code 156 = .ok (.iconst 1, 1) := by decide +kernel
theorem d_method_4_157 : decode method_4_code 157 = .ok (.goto 4, 3) := by decide +kernel
theorem d_method_4_161 : decode method_4_code 161 = .ok (.ireturn, 1) := by decide +kernel
theorem d_method_4_150 : decode method_4_code 150 = .ok (.iload_n 1, 1) := by decide +kernel
theorem d_method_4_151 : decode method_4_code 151 = .ok (.bipush 35, 2) := by decide +kernel
theorem d_method_4_153 : decode method_4_code 153 = .ok (.if_icmp .ne 7, 3) := by decide +kernel
theorem d_method_4_160 : decode method_4_code 160 = .ok (.iconst 0, 1) := by decide +kernel
theorem d_method_4_162 : decode method_4_code 162 = .ok (.iload_n 1, 1) := by decide +kernel
theorem d_method_4_163 : decode method_4_code 163 = .ok (.invokestatic 36, 3) := by decide +kernel
theorem d_method_4_166 : decode method_4_code 166 = .ok (.ifCond .ne 9, 3) := by decide +kernel
theorem d_method_4_175 : decode method_4_code 175 = .ok (.iconst 1, 1) := by decide +kernel
theorem d_method_4_176 : decode method_4_code 176 = .ok (.goto 4, 3) := by decide +kernel
theorem d_method_4_180 : decode method_4_code 180 = .ok (.ireturn, 1) := by decide +kernel
theorem d_method_4_169 : decode method_4_code 169 = .ok (.iload_n 1, 1) := by decide +kernel
theorem d_method_4_170 : decode method_4_code 170 = .ok (.bipush 37, 2) := by decide +kernel
theorem d_method_4_172 : decode method_4_code 172 = .ok (.if_icmp .ne 7, 3) := by decide +kernel
theorem d_method_4_179 : decode method_4_code 179 = .ok (.iconst 0, 1) := by decide +kernel
theorem d_method_5_0 : decode method_5_code 0 = .ok (.iload_n 0, 1) := by decide +kernel
theorem d_method_5_1 : decode method_5_code 1 = .ok (.ifCond .eq 25, 3) := by decide +kernel
theorem d_method_5_26 : decode method_5_code 26 = .ok (.iconst 0, 1) := by decide +kernel
theorem d_method_5_27 : decode method_5_code 27 = .ok (.ireturn, 1) := by decide +kernel
theorem d_method_5_4 : decode method_5_code 4 = .ok (.iload_n 0, 1) := by decide +kernel
theorem d_method_5_5 : decode method_5_code 5 = .ok (.iconst 1, 1) := by decide +kernel
theorem d_method_5_6 : decode method_5_code 6 = .ok (.if_icmp .eq 20, 3) := by decide +kernel
theorem d_method_5_9 : decode method_5_code 9 = .ok (.iload_n 0, 1) := by decide +kernel
theorem d_method_5_10 : decode method_5_code 10 = .ok (.iconst 4, 1) := by decide +kernel
theorem d_method_5_11 : decode method_5_code 11 = .ok (.if_icmp .eq 15, 3) := by decide +kernel
theorem d_method_5_14 : decode method_5_code 14 = .ok (.iload_n 0, 1) := by decide +kernel
theorem d_method_5_15 : decode method_5_code 15 = .ok (.bipush 6, 2) := by decide +kernel
theorem d_method_5_17 : decode method_5_code 17 = .ok (.if_icmp .eq 9, 3) := by decide +kernel
theorem d_method_5_20 : decode method_5_code 20 = .ok (.iload_n 0, 1) := by decide +kernel
theorem d_method_5_21 : decode method_5_code 21 = .ok (.bipush 7, 2) := by decide +kernel
theorem d_method_5_23 : decode method_5_code 23 = .ok (.if_icmp .ne 5, 3) := by decide +kernel
theorem d_method_5_28 : decode method_5_code 28 = .ok (.iload_n 0, 1) := by decide +kernel
theorem d_method_5_29 : decode method_5_code 29 = .ok (.iconst 2, 1) := by decide +kernel
theorem d_method_5_30 : decode method_5_code 30 = .ok (.if_icmp .eq 8, 3) := by decide +kernel
theorem d_method_5_38 : decode method_5_code 38 = .ok (.iload_n 1, 1) := by decide +kernel
theorem d_method_5_39 : decode method_5_code 39 = .ok (.invokestatic 36, 3) := by decide +kernel
theorem d_method_5_42 : decode method_5_code 42 = .ok (.ifCond .ne 9, 3) := by decide +kernel
theorem d_method_5_51 : decode method_5_code 51 = .ok (.iload_n 1, 1) := by decide +kernel
theorem d_method_5_52 : decode method_5_code 52 = .ok (.bipush 47, 2) := by decide +kernel
theorem d_method_5_54 : decode method_5_code 54 = .ok (.if_icmp .eq 7, 3) := by decide +kernel
theorem d_method_5_61 : decode method_5_code 61 = .ok (.iconst 0, 1) := by decide +kernel
theorem d_method_5_62 : decode method_5_code 62 = .ok (.ireturn, 1) := by decide +kernel
theorem d_method_5_57 : decode method_5_code 57 = .ok (.iconst 1, 1) := by decide +kernel
theorem d_method_5_58 : decode method_5_code 58 = .ok (.goto 4, 3) := by decide +kernel
theorem d_method_5_45 : decode method_5_code 45 = .ok (.iload_n 1, 1) := by decide +kernel
theorem d_method_5_46 : decode method_5_code 46 = .ok (.bipush 35, 2) := by decide +kernel
theorem d_method_5_48 : decode method_5_code 48 = .ok (.if_icmp .ne 13, 3) := by decide +kernel
theorem d_method_5_33 : decode method_5_code 33 = .ok (.iload_n 0, 1) := by decide +kernel
theorem d_method_5_34 : decode method_5_code 34 = .ok (.iconst 3, 1) := by decide +kernel
theorem d_method_5_35 : decode method_5_code 35 = .ok (.if_icmp .ne 28, 3) := by decide +kernel
theorem d_method_5_63 : decode method_5_code 63 = .ok (.iload_n 0, 1) := by decide +kernel
theorem d_method_5_64 : decode method_5_code 64 = .ok (.bipush 8, 2) := by decide +kernel
theorem d_method_5_66 : decode method_5_code 66 = .ok (.if_icmp .ne 40, 3) := by decide +kernel
theorem d_method_5_69 : decode method_5_code 69 = .ok (.iload_n 1, 1) := by decide +kernel
theorem d_method_5_70 : decode method_5_code 70 = .ok (.invokestatic 30, 3) := by decide +kernel
theorem d_method_5_73 : decode method_5_code 73 = .ok (.ifCond .ne 27, 3) := by decide +kernel
theorem d_method_5_100 : decode method_5_code 100 = .ok (.iconst 1, 1) := by decide +kernel
theorem d_method_5_101 : decode method_5_code 101 = .ok (.goto 4, 3) := by decide +kernel
theorem d_method_5_105 : decode method_5_code 105 = .ok (.ireturn, 1) := by decide +kernel
theorem d_method_5_76 : decode method_5_code 76 = .ok (.iload_n 1, 1) := by decide +kernel
theorem d_method_5_77 : decode method_5_code 77 = .ok (.bipush 37, 2) := by decide +kernel
theorem d_method_5_79 : decode method_5_code 79 = .ok (.if_icmp .eq 21, 3) := by decide +kernel
theorem d_method_5_82 : decode method_5_code 82 = .ok (.iload_n 1, 1) := by decide +kernel
theorem d_method_5_83 : decode method_5_code 83 = .ok (.bipush 47, 2) := by decide +kernel
theorem d_method_5_85 : decode method_5_code 85 = .ok (.if_icmp .eq 15, 3) := by decide +kernel
theorem d_method_5_88 : decode method_5_code 88 = .ok (.iload_n 1, 1) := by decide +kernel
theorem d_method_5_89 : decode method_5_code 89 = .ok (.bipush 63, 2) := by decide +kernel
theorem d_method_5_91 : decode method_5_code 91 = .ok (.if_icmp .eq 9, 3) := by decide +kernel
theorem d_method_5_94 : decode method_5_code 94 = .ok (.iload_n 1, 1) := by decide +kernel
theorem d_method_5_95 : decode method_5_code 95 = .ok (.bipush 35, 2) := by decide +kernel
theorem d_method_5_97 : decode method_5_code 97 = .ok (.if_icmp .ne 7, 3) := by decide +kernel
theorem d_method_5_104 : decode method_5_code 104 = .ok (.iconst 0, 1) := by decide +kernel
theorem d_method_5_106 : decode method_5_code 106 = .ok (.iload_n 1, 1) := by decide +kernel
theorem d_method_5_107 : decode method_5_code 107 = .ok (.bipush 47, 2) := by decide +kernel
theorem d_method_5_109 : decode method_5_code 109 = .ok (.if_icmp .eq 15, 3) := by decide +kernel
theorem d_method_5_124 : decode method_5_code 124 = .ok (.iconst 1, 1) := by decide +kernel
theorem d_method_5_125 : decode method_5_code 125 = .ok (.goto 4, 3) := by decide +kernel
theorem d_method_5_129 : decode method_5_code 129 = .ok (.ireturn, 1) := by decide +kernel
theorem d_method_5_112 : decode method_5_code 112 = .ok (.iload_n 1, 1) := by decide +kernel
theorem d_method_5_113 : decode method_5_code 113 = .ok (.bipush 63, 2) := by decide +kernel
theorem d_method_5_115 : decode method_5_code 115 = .ok (.if_icmp .eq 9, 3) := by decide +kernel
theorem d_method_5_118 : decode method_5_code 118 = .ok (.iload_n 1, 1) := by decide +kernel
theorem d_method_5_119 : decode method_5_code 119 = .ok (.bipush 35, 2) := by decide +kernel
theorem d_method_5_121 : decode method_5_code 121 = .ok (.if_icmp .ne 7, 3) := by decide +kernel
theorem d_method_5_128 : decode method_5_code 128 = .ok (.iconst 0, 1) := by decide +kernel
theorem d_prog_16_method_20_0 : decode prog_16_method_20_code 0 = .ok (.iload_n 0, 1) := by decide +kernel
theorem d_prog_16_method_20_1 : decode prog_16_method_20_code 1 = .ok (.bipush 65, 2) := by decide +kernel
theorem d_prog_16_method_20_3 : decode prog_16_method_20_code 3 = .ok (.if_icmp .lt 9, 3) := by decide +kernel
theorem d_prog_16_method_20_12 : decode prog_16_method_20_code 12 = .ok (.iload_n 0, 1) := by decide +kernel
theorem d_prog_16_method_20_13 : decode prog_16_method_20_code 13 = .ok (.bipush 97, 2) := by decide +kernel
theorem d_prog_16_method_20_15 : decode prog_16_method_20_code 15 = .ok (.if_icmp .lt 13, 3) := by decide +kernel
theorem d_prog_16_method_20_28 : decode prog_16_method_20_code 28 = .ok (.iconst 0, 1) := by decide +kernel
theorem d_prog_16_method_20_29 : decode prog_16_method_20_code 29 = .ok (.ireturn, 1) := by decide +kernel
theorem d_prog_16_method_20_18 : decode prog_16_method_20_code 18 = .ok (.iload_n 0, 1) := by decide +kernel
theorem d_prog_16_method_20_19 : decode prog_16_method_20_code 19 = .ok (.bipush 122, 2) := by decide +kernel
theorem d_prog_16_method_20_21 : decode prog_16_method_20_code 21 = .ok (.if_icmp .gt 7, 3) := by decide +kernel
theorem d_prog_16_method_20_24 : decode prog_16_method_20_code 24 = .ok (.iconst 1, 1) := by decide +kernel
theorem d_prog_16_method_20_25 : decode prog_16_method_20_code 25 = .ok (.goto 4, 3) := by decide +kernel
theorem d_prog_16_method_20_6 : decode prog_16_method_20_code 6 = .ok (.iload_n 0, 1) := by decide +kernel
theorem d_prog_16_method_20_7 : decode prog_16_method_20_code 7 = .ok (.bipush 90, 2) := by decide +kernel
theorem d_prog_16_method_20_9 : decode prog_16_method_20_code 9 = .ok (.if_icmp .le 15, 3) := by decide +kernel
theorem d_prog_16_method_21_0 : decode prog_16_method_21_code 0 = .ok (.iload_n 2, 1) := by decide +kernel
theorem d_prog_16_method_21_1 : decode prog_16_method_21_code 1 = .ok (.iload_n 1, 1) := by decide +kernel
theorem d_prog_16_method_21_2 : decode prog_16_method_21_code 2 = .ok (.isub, 1) := by decide +kernel
theorem d_prog_16_method_21_3 : decode prog_16_method_21_code 3 = .ok (.iconst 3, 1) := by decide +kernel
theorem d_prog_16_method_21_4 : decode prog_16_method_21_code 4 = .ok (.if_icmp .ne 44, 3) := by decide +kernel
theorem d_prog_16_method_21_7 : decode prog_16_method_21_code 7 = .ok (.aload_n 0, 1) := by decide +kernel
theorem d_prog_16_method_21_8 : decode prog_16_method_21_code 8 = .ok (.iload_n 1, 1) := by decide +kernel
theorem d_prog_16_method_21_9 : decode prog_16_method_21_code 9 = .ok (.baload, 1) := by decide +kernel
theorem d_prog_16_method_21_10 : decode prog_16_method_21_code 10 = .ok (.bipush 32, 2) := by decide +kernel
theorem d_prog_16_method_21_12 : decode prog_16_method_21_code 12 = .ok (.ior, 1) := by decide +kernel
theorem d_prog_16_method_21_13 : decode prog_16_method_21_code 13 = .ok (.bipush 106, 2) := by decide +kernel
theorem d_prog_16_method_21_15 : decode prog_16_method_21_code 15 = .ok (.if_icmp .ne 33, 3) := by decide +kernel
theorem d_prog_16_method_21_18 : decode prog_16_method_21_code 18 = .ok (.aload_n 0, 1) := by decide +kernel
theorem d_prog_16_method_21_19 : decode prog_16_method_21_code 19 = .ok (.iload_n 1, 1) := by decide +kernel
theorem d_prog_16_method_21_20 : decode prog_16_method_21_code 20 = .ok (.iconst 1, 1) := by decide +kernel
theorem d_prog_16_method_21_21 : decode prog_16_method_21_code 21 = .ok (.iadd, 1) := by decide +kernel
theorem d_prog_16_method_21_22 : decode prog_16_method_21_code 22 = .ok (.baload, 1) := by decide +kernel
theorem d_prog_16_method_21_23 : decode prog_16_method_21_code 23 = .ok (.bipush 32, 2) := by decide +kernel
theorem d_prog_16_method_21_25 : decode prog_16_method_21_code 25 = .ok (.ior, 1) := by decide +kernel
theorem d_prog_16_method_21_26 : decode prog_16_method_21_code 26 = .ok (.bipush 97, 2) := by decide +kernel
theorem d_prog_16_method_21_28 : decode prog_16_method_21_code 28 = .ok (.if_icmp .ne 20, 3) := by decide +kernel
theorem d_prog_16_method_21_31 : decode prog_16_method_21_code 31 = .ok (.aload_n 0, 1) := by decide +kernel
theorem d_prog_16_method_21_32 : decode prog_16_method_21_code 32 = .ok (.iload_n 1, 1) := by decide +kernel
theorem d_prog_16_method_21_33 : decode prog_16_method_21_code 33 = .ok (.iconst 2, 1) := by decide +kernel
theorem d_prog_16_method_21_34 : decode prog_16_method_21_code 34 = .ok (.iadd, 1) := by decide +kernel
theorem d_prog_16_method_21_35 : decode prog_16_method_21_code 35 = .ok (.baload, 1) := by decide +kernel
theorem d_prog_16_method_21_36 : decode prog_16_method_21_code 36 = .ok (.bipush 32, 2) := by decide +kernel
theorem d_prog_16_method_21_38 : decode prog_16_method_21_code 38 = .ok (.ior, 1) := by decide +kernel
theorem d_prog_16_method_21_39 : decode prog_16_method_21_code 39 = .ok (.bipush 114, 2) := by decide +kernel
theorem d_prog_16_method_21_41 : decode prog_16_method_21_code 41 = .ok (.if_icmp .ne 7, 3) := by decide +kernel
theorem d_prog_16_method_21_44 : decode prog_16_method_21_code 44 = .ok (.iconst 1, 1) := by decide +kernel
theorem d_prog_16_method_21_45 : decode prog_16_method_21_code 45 = .ok (.goto 4, 3) := by decide +kernel
theorem d_prog_16_method_21_49 : decode prog_16_method_21_code 49 = .ok (.ireturn, 1) := by decide +kernel
theorem d_prog_16_method_21_48 : decode prog_16_method_21_code 48 = .ok (.iconst 0, 1) := by decide +kernel
theorem d_prog_16_method_19_3 : decode prog_16_method_19_code 3 = .ok (.iload 4, 2) := by decide +kernel
theorem d_prog_16_method_19_5 : decode prog_16_method_19_code 5 = .ok (.iload_n 2, 1) := by decide +kernel
theorem d_prog_16_method_19_6 : decode prog_16_method_19_code 6 = .ok (.if_icmp .ge 99, 3) := by decide +kernel
theorem d_prog_16_method_19_105 : decode prog_16_method_19_code 105 = .ok (.iload 4, 2) := by decide +kernel
theorem d_prog_16_method_19_107 : decode prog_16_method_19_code 107 = .ok (.ireturn, 1) := by decide +kernel
theorem d_prog_16_method_19_9 : decode prog_16_method_19_code 9 = .ok (.getstatic 178, 3) := by decide +kernel
theorem d_prog_16_method_19_12 : decode prog_16_method_19_code 12 = .ok (.aload_n 0, 1) := by decide +kernel
theorem d_prog_16_method_19_13 : decode prog_16_method_19_code 13 = .ok (.iload 4, 2) := by decide +kernel
theorem d_prog_16_method_19_15 : decode prog_16_method_19_code 15 = .ok (.baload, 1) := by decide +kernel
theorem d_prog_16_method_19_16 : decode prog_16_method_19_code 16 = .ok (.sipush 255, 3) := by decide +kernel
theorem d_prog_16_method_19_19 : decode prog_16_method_19_code 19 = .ok (.iand, 1) := by decide +kernel
theorem d_prog_16_method_19_20 : decode prog_16_method_19_code 20 = .ok (.iaload, 1) := by decide +kernel
theorem d_prog_16_method_19_21 : decode prog_16_method_19_code 21 = .ok (.iload_n 3, 1) := by decide +kernel
theorem d_prog_16_method_19_22 : decode prog_16_method_19_code 22 = .ok (.iand, 1) := by decide +kernel
theorem d_prog_16_method_19_23 : decode prog_16_method_19_code 23 = .ok (.ifCond .eq 9, 3) := by decide +kernel
theorem d_prog_16_method_19_32 : decode prog_16_method_19_code 32 = .ok (.aload_n 0, 1) := by decide +kernel
theorem d_prog_16_method_19_33 : decode prog_16_method_19_code 33 = .ok (.iload 4, 2) := by decide +kernel
theorem d_prog_16_method_19_35 : decode prog_16_method_19_code 35 = .ok (.baload, 1) := by decide +kernel
theorem d_prog_16_method_19_36 : decode prog_16_method_19_code 36 = .ok (.bipush 37, 2) := by decide +kernel
theorem d_prog_16_method_19_38 : decode prog_16_method_19_code 38 = .ok (.if_icmp .ne 64, 3) := by decide +kernel
theorem d_prog_16_method_19_41 : decode prog_16_method_19_code 41 = .ok (.iload_n 3, 1) := by decide +kernel
theorem d_prog_16_method_19_42 : decode prog_16_method_19_code 42 = .ok (.iconst 1, 1) := by decide +kernel
theorem d_prog_16_method_19_43 : decode prog_16_method_19_code 43 = .ok (.if_icmp .eq 59, 3) := by decide +kernel
theorem d_prog_16_method_19_102 : decode prog_16_method_19_code 102 = .ok (.iload 4, 2) := by decide +kernel
theorem d_prog_16_method_19_104 : decode prog_16_method_19_code 104 = .ok (.ireturn, 1) := by decide +kernel
theorem d_prog_16_method_19_46 : decode prog_16_method_19_code 46 = .ok (.iload 4, 2) := by decide +kernel
theorem d_prog_16_method_19_48 : decode prog_16_method_19_code 48 = .ok (.iconst 2, 1) := by decide +kernel
theorem d_prog_16_method_19_49 : decode prog_16_method_19_code 49 = .ok (.iadd, 1) := by decide +kernel
theorem d_prog_16_method_19_50 : decode prog_16_method_19_code 50 = .ok (.iload_n 2, 1) := by decide +kernel
theorem d_prog_16_method_19_51 : decode prog_16_method_19_code 51 = .ok (.if_icmp .ge 43, 3) := by decide +kernel
theorem d_prog_16_method_19_54 : decode prog_16_method_19_code 54 = .ok (.getstatic 178, 3) := by decide +kernel
theorem d_prog_16_method_19_57 : decode prog_16_method_19_code 57 = .ok (.aload_n 0, 1) := by decide +kernel
theorem d_prog_16_method_19_58 : decode prog_16_method_19_code 58 = .ok (.iload 4, 2) := by decide +kernel
theorem d_prog_16_method_19_60 : decode prog_16_method_19_code 60 = .ok (.iconst 1, 1) := by decide +kernel
theorem d_prog_16_method_19_61 : decode prog_16_method_19_code 61 = .ok (.iadd, 1) := by decide +kernel
theorem d_prog_16_method_19_62 : decode prog_16_method_19_code 62 = .ok (.baload, 1) := by decide +kernel
theorem d_prog_16_method_19_63 : decode prog_16_method_19_code 63 = .ok (.sipush 255, 3) := by decide +kernel
theorem d_prog_16_method_19_66 : decode prog_16_method_19_code 66 = .ok (.iand, 1) := by decide +kernel
theorem d_prog_16_method_19_67 : decode prog_16_method_19_code 67 = .ok (.iaload, 1) := by decide +kernel
theorem d_prog_16_method_19_68 : decode prog_16_method_19_code 68 = .ok (.bipush 16, 2) := by decide +kernel
theorem d_prog_16_method_19_70 : decode prog_16_method_19_code 70 = .ok (.iand, 1) := by decide +kernel
theorem d_prog_16_method_19_71 : decode prog_16_method_19_code 71 = .ok (.ifCond .eq 23, 3) := by decide +kernel
theorem d_prog_16_method_19_94 : decode prog_16_method_19_code 94 = .ok (.iconst (-1), 1) := by decide +kernel
theorem d_prog_16_method_19_95 : decode prog_16_method_19_code 95 = .ok (.ireturn, 1) := by decide +kernel
theorem d_prog_16_method_19_74 : decode prog_16_method_19_code 74 = .ok (.getstatic 178, 3) := by decide +kernel
theorem d_prog_16_method_19_77 : decode prog_16_method_19_code 77 = .ok (.aload_n 0, 1) := by decide +kernel
theorem d_prog_16_method_19_78 : decode prog_16_method_19_code 78 = .ok (.iload 4, 2) := by decide +kernel
theorem d_prog_16_method_19_80 : decode prog_16_method_19_code 80 = .ok (.iconst 2, 1) := by decide +kernel
theorem d_prog_16_method_19_81 : decode prog_16_method_19_code 81 = .ok (.iadd, 1) := by decide +kernel
theorem d_prog_16_method_19_82 : decode prog_16_method_19_code 82 = .ok (.baload, 1) := by decide +kernel
theorem d_prog_16_method_19_83 : decode prog_16_method_19_code 83 = .ok (.sipush 255, 3) := by decide +kernel
theorem d_prog_16_method_19_86 : decode prog_16_method_19_code 86 = .ok (.iand, 1) := by decide +kernel
theorem d_prog_16_method_19_87 : decode prog_16_method_19_code 87 = .ok (.iaload, 1) := by decide +kernel
theorem d_prog_16_method_19_88 : decode prog_16_method_19_code 88 = .ok (.bipush 16, 2) := by decide +kernel
theorem d_prog_16_method_19_90 : decode prog_16_method_19_code 90 = .ok (.iand, 1) := by decide +kernel
theorem d_prog_16_method_19_91 : decode prog_16_method_19_code 91 = .ok (.ifCond .ne 5, 3) := by decide +kernel
theorem d_prog_16_method_19_96 : decode prog_16_method_19_code 96 = .ok (.iinc 4 3, 3) := by decide +kernel
theorem d_prog_16_method_19_99 : decode prog_16_method_19_code 99 = .ok (.goto (-96), 3) := by decide +kernel
theorem d_prog_16_method_19_26 : decode prog_16_method_19_code 26 = .ok (.iinc 4 1, 3) := by decide +kernel
theorem d_prog_16_method_19_29 : decode prog_16_method_19_code 29 = .ok (.goto (-26), 3) := by decide +kernel
theorem d_prog_16_method_19_0 : decode prog_16_method_19_code 0 = .ok (.iload_n 1, 1) := by decide +kernel
theorem d_prog_16_method_19_1 : decode prog_16_method_19_code 1 = .ok (.istore 4, 2) := by decide +kernel
theorem d_prog_16_method_18_242 : decode prog_16_method_18_code 242 = .ok (.iload_n 3, 1) := by decide +kernel
theorem d_prog_16_method_18_243 : decode prog_16_method_18_code 243 = .ok (.ifCond .lt 27, 3) := by decide +kernel
theorem d_prog_16_method_18_270 : decode prog_16_method_18_code 270 = .ok (.iload_n 3, 1) := by decide +kernel
theorem d_prog_16_method_18_271 : decode prog_16_method_18_code 271 = .ok (.iload_n 2, 1) := by decide +kernel
theorem d_prog_16_method_18_272 : decode prog_16_method_18_code 272 = .ok (.if_icmp .ne 7, 3) := by decide +kernel
theorem d_prog_16_method_18_279 : decode prog_16_method_18_code 279 = .ok (.iconst 0, 1) := by decide +kernel
theorem d_prog_16_method_18_280 : decode prog_16_method_18_code 280 = .ok (.ireturn, 1) := by decide +kernel
theorem d_prog_16_method_18_246 : decode prog_16_method_18_code 246 = .ok (.iload_n 3, 1) := by decide +kernel
theorem d_prog_16_method_18_247 : decode prog_16_method_18_code 247 = .ok (.iload_n 2, 1) := by decide +kernel
theorem d_prog_16_method_18_248 : decode prog_16_method_18_code 248 = .ok (.if_icmp .ge 22, 3) := by decide +kernel
theorem d_prog_16_method_18_251 : decode prog_16_method_18_code 251 = .ok (.aload_n 0, 1) := by decide +kernel
theorem d_prog_16_method_18_252 : decode prog_16_method_18_code 252 = .ok (.iload_n 3, 1) := by decide +kernel
theorem d_prog_16_method_18_253 : decode prog_16_method_18_code 253 = .ok (.baload, 1) := by decide +kernel
theorem d_prog_16_method_18_254 : decode prog_16_method_18_code 254 = .ok (.bipush 35, 2) := by decide +kernel
theorem d_prog_16_method_18_256 : decode prog_16_method_18_code 256 = .ok (.if_icmp .ne 14, 3) := by decide +kernel
theorem d_prog_16_method_18_259 : decode prog_16_method_18_code 259 = .ok (.aload_n 0, 1) := by decide +kernel
theorem d_prog_16_method_18_260 : decode prog_16_method_18_code 260 = .ok (.iload_n 3, 1) := by decide +kernel
theorem d_prog_16_method_18_261 : decode prog_16_method_18_code 261 = .ok (.iconst 1, 1) := by decide +kernel
theorem d_prog_16_method_18_262 : decode prog_16_method_18_code 262 = .ok (.iadd, 1) := by decide +kernel
theorem d_prog_16_method_18_263 : decode prog_16_method_18_code 263 = .ok (.iload_n 2, 1) := by decide +kernel
theorem d_prog_16_method_18_264 : decode prog_16_method_18_code 264 = .ok (.bipush 8, 2) := by decide +kernel
theorem d_prog_16_method_18_266 : decode prog_16_method_18_code 266 = .ok (.invokestatic 172, 3) := by decide +kernel
theorem d_prog_16_method_18_269 : decode prog_16_method_18_code 269 = .ok (.istore_n 3, 1) := by decide +kernel
theorem d_prog_16_method_18_275 : decode prog_16_method_18_code 275 = .ok (.iconst 1, 1) := by decide +kernel
theorem d_prog_16_method_18_276 : decode prog_16_method_18_code 276 = .ok (.goto 4, 3) := by decide +kernel
theorem d_prog_16_method_18_206 : decode prog_16_method_18_code 206 = .ok (.aload_n 0, 1) := by decide +kernel
theorem d_prog_16_method_18_207 : decode prog_16_method_18_code 207 = .ok (.iload_n 3, 1) := by decide +kernel
theorem d_prog_16_method_18_208 : decode prog_16_method_18_code 208 = .ok (.iload_n 2, 1) := by decide +kernel
theorem d_prog_16_method_18_209 : decode prog_16_method_18_code 209 = .ok (.iconst 4, 1) := by decide +kernel
theorem d_prog_16_method_18_210 : decode prog_16_method_18_code 210 = .ok (.invokestatic 172, 3) := by decide +kernel
theorem d_prog_16_method_18_213 : decode prog_16_method_18_code 213 = .ok (.istore_n 3, 1) := by decide +kernel
theorem d_prog_16_method_18_214 : decode prog_16_method_18_code 214 = .ok (.iload_n 3, 1) := by decide +kernel
theorem d_prog_16_method_18_215 : decode prog_16_method_18_code 215 = .ok (.ifCond .lt 27, 3) := by decide +kernel
theorem d_prog_16_method_18_218 : decode prog_16_method_18_code 218 = .ok (.iload_n 3, 1) := by decide +kernel
theorem d_prog_16_method_18_219 : decode prog_16_method_18_code 219 = .ok (.iload_n 2, 1) := by decide +kernel
theorem d_prog_16_method_18_220 : decode prog_16_method_18_code 220 = .ok (.if_icmp .ge 22, 3) := by decide +kernel
theorem d_prog_16_method_18_223 : decode prog_16_method_18_code 223 = .ok (.aload_n 0, 1) := by decide +kernel
theorem d_prog_16_method_18_224 : decode prog_16_method_18_code 224 = .ok (.iload_n 3, 1) := by decide +kernel
theorem d_prog_16_method_18_225 : decode prog_16_method_18_code 225 = .ok (.baload, 1) := by decide +kernel
theorem d_prog_16_method_18_226 : decode prog_16_method_18_code 226 = .ok (.bipush 63, 2) := by decide +kernel
theorem d_prog_16_method_18_228 : decode prog_16_method_18_code 228 = .ok (.if_icmp .ne 14, 3) := by decide +kernel
theorem d_prog_16_method_18_231 : decode prog_16_method_18_code 231 = .ok (.aload_n 0, 1) := by decide +kernel
theorem d_prog_16_method_18_232 : decode prog_16_method_18_code 232 = .ok (.iload_n 3, 1) := by decide +kernel
theorem d_prog_16_method_18_233 : decode prog_16_method_18_code 233 = .ok (.iconst 1, 1) := by decide +kernel
theorem d_prog_16_method_18_234 : decode prog_16_method_18_code 234 = .ok (.iadd, 1) := by decide +kernel
theorem d_prog_16_method_18_235 : decode prog_16_method_18_code 235 = .ok (.iload_n 2, 1) := by decide +kernel
theorem d_prog_16_method_18_236 : decode prog_16_method_18_code 236 = .ok (.bipush 8, 2) := by decide +kernel
theorem d_prog_16_method_18_238 : decode prog_16_method_18_code 238 = .ok (.invokestatic 172, 3) := by decide +kernel
theorem d_prog_16_method_18_241 : decode prog_16_method_18_code 241 = .ok (.istore_n 3, 1) := by decide +kernel
theorem d_prog_16_method_18_171 : decode prog_16_method_18_code 171 = .ok (.iload_n 3, 1) := by decide +kernel
theorem d_prog_16_method_18_172 : decode prog_16_method_18_code 172 = .ok (.ifCond .lt 32, 3) := by decide +kernel
theorem d_prog_16_method_18_204 : decode prog_16_method_18_code 204 = .ok (.iconst 0, 1) := by decide +kernel
theorem d_prog_16_method_18_205 : decode prog_16_method_18_code 205 = .ok (.ireturn, 1) := by decide +kernel
theorem d_prog_16_method_18_175 : decode prog_16_method_18_code 175 = .ok (.iload_n 3, 1) := by decide +kernel
theorem d_prog_16_method_18_176 : decode prog_16_method_18_code 176 = .ok (.iload_n 2, 1) := by decide +kernel
theorem d_prog_16_method_18_177 : decode prog_16_method_18_code 177 = .ok (.if_icmp .ge 29, 3) := by decide +kernel
theorem d_prog_16_method_18_180 : decode prog_16_method_18_code 180 = .ok (.aload_n 0, 1) := by decide +kernel
theorem d_prog_16_method_18_181 : decode prog_16_method_18_code 181 = .ok (.iload_n 3, 1) := by decide +kernel
theorem d_prog_16_method_18_182 : decode prog_16_method_18_code 182 = .ok (.baload, 1) := by decide +kernel
theorem d_prog_16_method_18_183 : decode prog_16_method_18_code 183 = .ok (.bipush 47, 2) := by decide +kernel
theorem d_prog_16_method_18_185 : decode prog_16_method_18_code 185 = .ok (.if_icmp .eq 21, 3) := by decide +kernel
theorem d_prog_16_method_18_188 : decode prog_16_method_18_code 188 = .ok (.aload_n 0, 1) := by decide +kernel
theorem d_prog_16_method_18_189 : decode prog_16_method_18_code 189 = .ok (.iload_n 3, 1) := by decide +kernel
theorem d_prog_16_method_18_190 : decode prog_16_method_18_code 190 = .ok (.baload, 1) := by decide +kernel
theorem d_prog_16_method_18_191 : decode prog_16_method_18_code 191 = .ok (.bipush 63, 2) := by decide +kernel
theorem d_prog_16_method_18_193 : decode prog_16_method_18_code 193 = .ok (.if_icmp .eq 13, 3) := by decide +kernel
theorem d_prog_16_method_18_196 : decode prog_16_method_18_code 196 = .ok (.aload_n 0, 1) := by decide +kernel
theorem d_prog_16_method_18_197 : decode prog_16_method_18_code 197 = .ok (.iload_n 3, 1) := by decide +kernel
theorem d_prog_16_method_18_198 : decode prog_16_method_18_code 198 = .ok (.baload, 1) := by decide +kernel
theorem d_prog_16_method_18_199 : decode prog_16_method_18_code 199 = .ok (.bipush 35, 2) := by decide +kernel
theorem d_prog_16_method_18_201 : decode prog_16_method_18_code 201 = .ok (.if_icmp .eq 5, 3) := by decide +kernel
theorem d_prog_16_method_18_133 : decode prog_16_method_18_code 133 = .ok (.iload_n 3, 1) := by decide +kernel
theorem d_prog_16_method_18_134 : decode prog_16_method_18_code 134 = .ok (.iload_n 2, 1) := by decide +kernel
theorem d_prog_16_method_18_135 : decode prog_16_method_18_code 135 = .ok (.if_icmp .ge 25, 3) := by decide +kernel
theorem d_prog_16_method_18_160 : decode prog_16_method_18_code 160 = .ok (.iload_n 3, 1) := by decide +kernel
theorem d_prog_16_method_18_161 : decode prog_16_method_18_code 161 = .ok (.iload 5, 2) := by decide +kernel
theorem d_prog_16_method_18_163 : decode prog_16_method_18_code 163 = .ok (.isub, 1) := by decide +kernel
theorem d_prog_16_method_18_164 : decode prog_16_method_18_code 164 = .ok (.bipush 9, 2) := by decide +kernel
theorem d_prog_16_method_18_166 : decode prog_16_method_18_code 166 = .ok (.if_icmp .le 5, 3) := by decide +kernel
theorem d_prog_16_method_18_169 : decode prog_16_method_18_code 169 = .ok (.iconst 0, 1) := by decide +kernel
theorem d_prog_16_method_18_170 : decode prog_16_method_18_code 170 = .ok (.ireturn, 1) := by decide +kernel
theorem d_prog_16_method_18_138 : decode prog_16_method_18_code 138 = .ok (.aload_n 0, 1) := by decide +kernel
theorem d_prog_16_method_18_139 : decode prog_16_method_18_code 139 = .ok (.iload_n 3, 1) := by decide +kernel
theorem d_prog_16_method_18_140 : decode prog_16_method_18_code 140 = .ok (.baload, 1) := by decide +kernel
theorem d_prog_16_method_18_141 : decode prog_16_method_18_code 141 = .ok (.bipush 48, 2) := by decide +kernel
theorem d_prog_16_method_18_143 : decode prog_16_method_18_code 143 = .ok (.if_icmp .lt 17, 3) := by decide +kernel
theorem d_prog_16_method_18_146 : decode prog_16_method_18_code 146 = .ok (.aload_n 0, 1) := by decide +kernel
theorem d_prog_16_method_18_147 : decode prog_16_method_18_code 147 = .ok (.iload_n 3, 1) := by decide +kernel
theorem d_prog_16_method_18_148 : decode prog_16_method_18_code 148 = .ok (.baload, 1) := by decide +kernel
theorem d_prog_16_method_18_149 : decode prog_16_method_18_code 149 = .ok (.bipush 57, 2) := by decide +kernel
theorem d_prog_16_method_18_151 : decode prog_16_method_18_code 151 = .ok (.if_icmp .gt 9, 3) := by decide +kernel
theorem d_prog_16_method_18_154 : decode prog_16_method_18_code 154 = .ok (.iinc 3 1, 3) := by decide +kernel
theorem d_prog_16_method_18_157 : decode prog_16_method_18_code 157 = .ok (.goto (-24), 3) := by decide +kernel
theorem d_prog_16_method_18_0 : decode prog_16_method_18_code 0 = .ok (.iload_n 1, 1) := by decide +kernel
theorem d_prog_16_method_18_1 : decode prog_16_method_18_code 1 = .ok (.iload_n 2, 1) := by decide +kernel
theorem d_prog_16_method_18_2 : decode prog_16_method_18_code 2 = .ok (.if_icmp .eq 12, 3) := by decide +kernel
theorem d_prog_16_method_18_14 : decode prog_16_method_18_code 14 = .ok (.iconst 0, 1) := by decide +kernel
theorem d_prog_16_method_18_15 : decode prog_16_method_18_code 15 = .ok (.ireturn, 1) := by decide +kernel
theorem d_prog_16_method_18_5 : decode prog_16_method_18_code 5 = .ok (.aload_n 0, 1) := by decide +kernel
theorem d_prog_16_method_18_6 : decode prog_16_method_18_code 6 = .ok (.iload_n 1, 1) := by decide +kernel
theorem d_prog_16_method_18_7 : decode prog_16_method_18_code 7 = .ok (.baload, 1) := by decide +kernel
theorem d_prog_16_method_18_8 : decode prog_16_method_18_code 8 = .ok (.invokestatic 168, 3) := by decide +kernel
theorem d_prog_16_method_18_11 : decode prog_16_method_18_code 11 = .ok (.ifCond .ne 5, 3) := by decide +kernel
theorem d_prog_16_method_18_16 : decode prog_16_method_18_code 16 = .ok (.aload_n 0, 1) := by decide +kernel
theorem d_prog_16_method_18_17 : decode prog_16_method_18_code 17 = .ok (.iload_n 1, 1) := by decide +kernel
theorem d_prog_16_method_18_18 : decode prog_16_method_18_code 18 = .ok (.iload_n 2, 1) := by decide +kernel
theorem d_prog_16_method_18_19 : decode prog_16_method_18_code 19 = .ok (.iconst 1, 1) := by decide +kernel
theorem d_prog_16_method_18_20 : decode prog_16_method_18_code 20 = .ok (.invokestatic 172, 3) := by decide +kernel
theorem d_prog_16_method_18_23 : decode prog_16_method_18_code 23 = .ok (.istore_n 3, 1) := by decide +kernel
theorem d_prog_16_method_18_24 : decode prog_16_method_18_code 24 = .ok (.iload_n 3, 1) := by decide +kernel
theorem d_prog_16_method_18_25 : decode prog_16_method_18_code 25 = .ok (.iload_n 2, 1) := by decide +kernel
theorem d_prog_16_method_18_26 : decode prog_16_method_18_code 26 = .ok (.if_icmp .eq 20, 3) := by decide +kernel
theorem d_prog_16_method_18_46 : decode prog_16_method_18_code 46 = .ok (.iconst 0, 1) := by decide +kernel
theorem d_prog_16_method_18_47 : decode prog_16_method_18_code 47 = .ok (.ireturn, 1) := by decide +kernel
theorem d_prog_16_method_18_29 : decode prog_16_method_18_code 29 = .ok (.aload_n 0, 1) := by decide +kernel
theorem d_prog_16_method_18_30 : decode prog_16_method_18_code 30 = .ok (.iload_n 3, 1) := by decide +kernel
theorem d_prog_16_method_18_31 : decode prog_16_method_18_code 31 = .ok (.baload, 1) := by decide +kernel
theorem d_prog_16_method_18_32 : decode prog_16_method_18_code 32 = .ok (.bipush 58, 2) := by decide +kernel
theorem d_prog_16_method_18_34 : decode prog_16_method_18_code 34 = .ok (.if_icmp .ne 12, 3) := by decide +kernel
theorem d_prog_16_method_18_37 : decode prog_16_method_18_code 37 = .ok (.aload_n 0, 1) := by decide +kernel
theorem d_prog_16_method_18_38 : decode prog_16_method_18_code 38 = .ok (.iload_n 1, 1) := by decide +kernel
theorem d_prog_16_method_18_39 : decode prog_16_method_18_code 39 = .ok (.iload_n 3, 1) := by decide +kernel
theorem d_prog_16_method_18_40 : decode prog_16_method_18_code 40 = .ok (.invokestatic 175, 3) := by decide +kernel
theorem d_prog_16_method_18_43 : decode prog_16_method_18_code 43 = .ok (.ifCond .eq 5, 3) := by decide +kernel
theorem d_prog_16_method_18_48 : decode prog_16_method_18_code 48 = .ok (.iinc 3 1, 3) := by decide +kernel
theorem d_prog_16_method_18_51 : decode prog_16_method_18_code 51 = .ok (.iload_n 3, 1) := by decide +kernel
theorem d_prog_16_method_18_52 : decode prog_16_method_18_code 52 = .ok (.iconst 1, 1) := by decide +kernel
theorem d_prog_16_method_18_53 : decode prog_16_method_18_code 53 = .ok (.iadd, 1) := by decide +kernel
theorem d_prog_16_method_18_54 : decode prog_16_method_18_code 54 = .ok (.iload_n 2, 1) := by decide +kernel
theorem d_prog_16_method_18_55 : decode prog_16_method_18_code 55 = .ok (.if_icmp .ge 151, 3) := by decide +kernel
theorem d_prog_16_method_18_58 : decode prog_16_method_18_code 58 = .ok (.aload_n 0, 1) := by decide +kernel
theorem d_prog_16_method_18_59 : decode prog_16_method_18_code 59 = .ok (.iload_n 3, 1) := by decide +kernel
theorem d_prog_16_method_18_60 : decode prog_16_method_18_code 60 = .ok (.baload, 1) := by decide +kernel
theorem d_prog_16_method_18_61 : decode prog_16_method_18_code 61 = .ok (.bipush 47, 2) := by decide +kernel
theorem d_prog_16_method_18_63 : decode prog_16_method_18_code 63 = .ok (.if_icmp .ne 143, 3) := by decide +kernel
theorem d_prog_16_method_18_66 : decode prog_16_method_18_code 66 = .ok (.aload_n 0, 1) := by decide +kernel
theorem d_prog_16_method_18_67 : decode prog_16_method_18_code 67 = .ok (.iload_n 3, 1) := by decide +kernel
theorem d_prog_16_method_18_68 : decode prog_16_method_18_code 68 = .ok (.iconst 1, 1) := by decide +kernel
theorem d_prog_16_method_18_69 : decode prog_16_method_18_code 69 = .ok (.iadd, 1) := by decide +kernel
theorem d_prog_16_method_18_70 : decode prog_16_method_18_code 70 = .ok (.baload, 1) := by decide +kernel
theorem d_prog_16_method_18_71 : decode prog_16_method_18_code 71 = .ok (.bipush 47, 2) := by decide +kernel
theorem d_prog_16_method_18_73 : decode prog_16_method_18_code 73 = .ok (.if_icmp .ne 133, 3) := by decide +kernel
theorem d_prog_16_method_18_76 : decode prog_16_method_18_code 76 = .ok (.iload_n 3, 1) := by decide +kernel
theorem d_prog_16_method_18_77 : decode prog_16_method_18_code 77 = .ok (.iconst 2, 1) := by decide +kernel
theorem d_prog_16_method_18_78 : decode prog_16_method_18_code 78 = .ok (.iadd, 1) := by decide +kernel
theorem d_prog_16_method_18_79 : decode prog_16_method_18_code 79 = .ok (.istore 4, 2) := by decide +kernel
theorem d_prog_16_method_18_81 : decode prog_16_method_18_code 81 = .ok (.iload 4, 2) := by decide +kernel
theorem d_prog_16_method_18_83 : decode prog_16_method_18_code 83 = .ok (.iload_n 2, 1) := by decide +kernel
theorem d_prog_16_method_18_84 : decode prog_16_method_18_code 84 = .ok (.if_icmp .eq 13, 3) := by decide +kernel
theorem d_prog_16_method_18_97 : decode prog_16_method_18_code 97 = .ok (.iconst 0, 1) := by decide +kernel
theorem d_prog_16_method_18_98 : decode prog_16_method_18_code 98 = .ok (.ireturn, 1) := by decide +kernel
theorem d_prog_16_method_18_87 : decode prog_16_method_18_code 87 = .ok (.aload_n 0, 1) := by decide +kernel
theorem d_prog_16_method_18_88 : decode prog_16_method_18_code 88 = .ok (.iload 4, 2) := by decide +kernel
theorem d_prog_16_method_18_90 : decode prog_16_method_18_code 90 = .ok (.baload, 1) := by decide +kernel
theorem d_prog_16_method_18_91 : decode prog_16_method_18_code 91 = .ok (.invokestatic 168, 3) := by decide +kernel
theorem d_prog_16_method_18_94 : decode prog_16_method_18_code 94 = .ok (.ifCond .ne 5, 3) := by decide +kernel
theorem d_prog_16_method_18_99 : decode prog_16_method_18_code 99 = .ok (.aload_n 0, 1) := by decide +kernel
theorem d_prog_16_method_18_100 : decode prog_16_method_18_code 100 = .ok (.iload 4, 2) := by decide +kernel
theorem d_prog_16_method_18_102 : decode prog_16_method_18_code 102 = .ok (.iload_n 2, 1) := by decide +kernel
theorem d_prog_16_method_18_103 : decode prog_16_method_18_code 103 = .ok (.iconst 2, 1) := by decide +kernel
theorem d_prog_16_method_18_104 : decode prog_16_method_18_code 104 = .ok (.invokestatic 172, 3) := by decide +kernel
theorem d_prog_16_method_18_107 : decode prog_16_method_18_code 107 = .ok (.istore_n 3, 1) := by decide +kernel
theorem d_prog_16_method_18_108 : decode prog_16_method_18_code 108 = .ok (.iload_n 3, 1) := by decide +kernel
theorem d_prog_16_method_18_109 : decode prog_16_method_18_code 109 = .ok (.ifCond .lt 62, 3) := by decide +kernel
theorem d_prog_16_method_18_112 : decode prog_16_method_18_code 112 = .ok (.iload_n 3, 1) := by decide +kernel
theorem d_prog_16_method_18_113 : decode prog_16_method_18_code 113 = .ok (.iload_n 2, 1) := by decide +kernel
theorem d_prog_16_method_18_114 : decode prog_16_method_18_code 114 = .ok (.if_icmp .ge 57, 3) := by decide +kernel
theorem d_prog_16_method_18_117 : decode prog_16_method_18_code 117 = .ok (.aload_n 0, 1) := by decide +kernel
theorem d_prog_16_method_18_118 : decode prog_16_method_18_code 118 = .ok (.iload_n 3, 1) := by decide +kernel
theorem d_prog_16_method_18_119 : decode prog_16_method_18_code 119 = .ok (.baload, 1) := by decide +kernel
theorem d_prog_16_method_18_120 : decode prog_16_method_18_code 120 = .ok (.bipush 58, 2) := by decide +kernel
theorem d_prog_16_method_18_122 : decode prog_16_method_18_code 122 = .ok (.if_icmp .ne 49, 3) := by decide +kernel
theorem d_prog_16_method_18_125 : decode prog_16_method_18_code 125 = .ok (.iload_n 3, 1) := by decide +kernel
theorem d_prog_16_method_18_126 : decode prog_16_method_18_code 126 = .ok (.iconst 1, 1) := by decide +kernel
theorem d_prog_16_method_18_127 : decode prog_16_method_18_code 127 = .ok (.iadd, 1) := by decide +kernel
theorem d_prog_16_method_18_128 : decode prog_16_method_18_code 128 = .ok (.istore 5, 2) := by decide +kernel
theorem d_prog_16_method_18_130 : decode prog_16_method_18_code 130 = .ok (.iload 5, 2) := by decide +kernel
theorem d_prog_16_method_18_132 : decode prog_16_method_18_code 132 = .ok (.istore_n 3, 1) := by decide +kernel
theorem pd_0 : parseMethodDescriptor "(I)Z" = some ⟨[.int], some .boolean⟩ := by decide +kernel
theorem pd_1 : parseMethodDescriptor "([BIII)I" = some ⟨[(.array .byte), .int, .int, .int], some .int⟩ := by decide +kernel
theorem pd_2 : parseMethodDescriptor "(B)Z" = some ⟨[.byte], some .boolean⟩ := by decide +kernel
theorem pd_3 : parseMethodDescriptor "([BII)Z" = some ⟨[(.array .byte), .int, .int], some .boolean⟩ := by decide +kernel
theorem pd_4 : parseMethodDescriptor "(II)Z" = some ⟨[.int, .int], some .boolean⟩ := by decide +kernel
def own_kd (u : Nat) : Nat :=
  bif Nat.blt u 58 then
    (bif Nat.blt u 48 then
      (bif Nat.blt u 38 then (bif u == 33 then 14 else bif u == 36 then 14 else 0)
       else bif Nat.blt u 43 then 14 else bif u == 44 then 14 else bif u == 47 then 12 else 15)
     else 31)
  else bif Nat.blt u 91 then
    (bif Nat.blt u 65 then (bif u == 58 then 12 else bif u == 59 then 14 else bif u == 61 then 14 else bif u == 63 then 8 else bif u == 64 then 12 else 0)
     else bif Nat.blt u 71 then 31 else 15)
  else bif Nat.blt u 97 then (bif u == 95 then 14 else 0)
  else bif Nat.blt u 103 then 31 else bif Nat.blt u 123 then 15 else bif u == 126 then 14 else 0
/-- skip: none is -1 -/
def own_sk (b : Nat → Nat) (to mask : Nat) : Nat → Nat → Option Nat
  | 0, i => some i
  | f + 1, i =>
    if i < to then
      (if own_kd (b i) &&& mask = 0 then
        (if b i = 37 then (if mask = 1 then some i else
          if i + 2 < to then
            (if own_kd (b (i + 1)) &&& 16 = 0 then none else if own_kd (b (i + 2)) &&& 16 = 0 then none else own_sk b to mask f (i + 3))
          else none)
         else some i)
       else own_sk b to mask f (i + 1))
    else some i
def own_letter (c : Nat) : Bool := (Nat.ble 65 c && Nat.ble c 90) || (Nat.ble 97 c && Nat.ble c 122)
def own_digit (c : Nat) : Bool := Nat.ble 48 c && Nat.ble c 57
def own_hex (c : Nat) : Bool := own_digit c || (Nat.ble 65 c && Nat.ble c 70) || (Nat.ble 97 c && Nat.ble c 102)
def own_scheme (c : Nat) : Bool := own_letter c || own_digit c || c == 43 || c == 45 || c == 46
def own_host (c : Nat) : Bool := own_letter c || own_digit c || c == 45 || c == 46 || c == 95 || c == 126 || c == 33 || c == 36 || c == 38 || c == 39 || c == 40 || c == 41 || c == 42 || c == 43 || c == 44 || c == 59 || c == 61
def own_path (c : Nat) : Bool := own_host c || c == 58 || c == 64 || c == 47
def own_query (c : Nat) : Bool := own_path c || c == 63
def own_jar (b : Nat → Nat) (i j : Nat) : Bool := j == i + 3 && (b i == 106 || b i == 74) && (b (i + 1) == 97 || b (i + 1) == 65) && (b (i + 2) == 114 || b (i + 2) == 82)
/-- the digits of a port -/
def own_dg (b : Nat → Nat) (to : Nat) : Nat → Nat → Nat
  | 0, i => i
  | f + 1, i => if i < to then (if own_digit (b i) = true then own_dg b to f (i + 1) else i) else i
def own_f270 (to : Nat) : Option Nat → Bool
  | none => false
  | some e => if e = to then true else false
def own_f242 (b : Nat → Nat) (to : Nat) : Option Nat → Bool
  | none => own_f270 to none
  | some e => if e < to then (if b e = 35 then own_f270 to (own_sk b to 8 to (e + 1)) else own_f270 to (some e)) else own_f270 to (some e)
def own_f214 (b : Nat → Nat) (to : Nat) : Option Nat → Bool
  | none => own_f242 b to none
  | some e => if e < to then (if b e = 63 then own_f242 b to (own_sk b to 8 to (e + 1)) else own_f242 b to (some e)) else own_f242 b to (some e)
def own_f206 (b : Nat → Nat) (to e : Nat) : Bool := own_f214 b to (own_sk b to 4 to e)
def own_f171 (b : Nat → Nat) (to : Nat) : Option Nat → Bool
  | none => false
  | some e => if e < to then (if b e = 47 then own_f206 b to e else if b e = 63 then own_f206 b to e else if b e = 35 then own_f206 b to e else false) else own_f206 b to e
def own_f160 (b : Nat → Nat) (to p e : Nat) : Bool := if 9 < e - p then false else own_f171 b to (some e)
def own_f108 (b : Nat → Nat) (to : Nat) : Option Nat → Bool
  | none => own_f171 b to none
  | some e => if e < to then (if b e = 58 then own_f160 b to (e + 1) (own_dg b to to (e + 1)) else own_f171 b to (some e)) else own_f171 b to (some e)
def own_f81 (b : Nat → Nat) (to h : Nat) : Bool := if h = to then false else if own_letter (b h) = true then own_f108 b to (own_sk b to 2 to h) else false
def own_f51 (b : Nat → Nat) (to e : Nat) : Bool := if e + 1 < to then (if b e = 47 then (if b (e + 1) = 47 then own_f81 b to (e + 2) else own_f206 b to e) else own_f206 b to e) else own_f206 b to e
def own_f24 (b : Nat → Nat) (fr to : Nat) : Option Nat → Bool
  | none => false
  | some e => if e = to then false else if b e = 58 then (if own_jar b fr e = true then false else own_f51 b to (e + 1)) else false
def own_plain (b : Nat → Nat) (fr to : Nat) : Bool := if fr = to then false else if own_letter (b fr) = true then own_f24 b fr to (own_sk b to 1 to fr) else false
def own_eA (k c : Nat) : Bool := if k = 0 then own_letter c else if k = 4 then own_letter c else if k = 1 then c == 58 else if k = 5 then own_host c || c == 58 || c == 47 || c == 63 else if k = 6 then own_digit c || c == 47 || c == 63 else if k = 7 then c == 47 || c == 63 else if k = 11 then own_query c || c == 35 else own_query c
def own_eB (k c : Nat) : Bool := if k = 0 then own_letter c else if k = 1 then (own_scheme c && c != 97 && c != 65) || c == 58 else if k = 2 then own_scheme c || c == 58 else if k = 3 then c == 58
  else if k = 5 then own_hex c else if k = 6 then own_hex c else if k = 9 then own_hex c else if k = 10 then own_hex c else if k = 13 then own_hex c else if k = 14 then own_hex c else if k = 7 then own_query c else if k = 11 then own_query c || c == 35 else own_query c || c == 37
def own_eC (k c : Nat) : Bool := if k = 0 then false else if k = 1 then false else if k = 4 then false else if k = 6 then false else if k = 7 then false else if k = 2 then (own_query c || c == 35) && c != 47 else if k = 3 then (own_query c || c == 35) && c != 47 else if k = 8 then own_host c || c == 37 || c == 47 || c == 63 || c == 35 else c == 47 || c == 63 || c == 35
def own_tA : List Nat := [104, 58, 47, 47, 120, 58, 49, 47, 112, 63, 113, 35, 102]
def own_tB : List Nat := [106, 98, 114, 58, 37, 52, 70, 63, 37, 97, 48, 35, 37, 55, 101]
def own_tC : List Nat := [115, 58, 47, 47, 104, 37, 50, 97, 58, 49, 50, 51, 52, 53, 54, 55, 56, 57, 48]
def own_b (t : List Nat) (i : Nat) : Nat := t.getD (i - 1) 0
def own_allK (t : List Nat) (to : Nat) (E : Nat → Nat → Bool) (k : Nat) : Bool := (List.range 256).all fun c => own_plain (own_b (t.set k c)) 1 to == E k c
theorem own_sk_s (b : Nat → Nat) (to mask f i : Nat) : own_sk b to mask (f + 1) i = if i < to then
      (if own_kd (b i) &&& mask = 0 then
        (if b i = 37 then (if mask = 1 then some i else
          if i + 2 < to then
            (if own_kd (b (i + 1)) &&& 16 = 0 then none else if own_kd (b (i + 2)) &&& 16 = 0 then none else own_sk b to mask f (i + 3))
          else none)
         else some i)
       else own_sk b to mask f (i + 1))
    else some i := rfl
theorem own_sk_bd (b : Nat → Nat) (to mask : Nat) : ∀ f i e, i ≤ to → own_sk b to mask f i = some e → i ≤ e ∧ e ≤ to := by
  intro f
  induction f with
  | zero => intro i e hi h; cases h; exact ⟨Nat.le_refl _, hi⟩
  | succ f ih =>
    intro i e hi h
    rw [own_sk_s] at h
    repeat' (split at h)
    all_goals first
      | (cases h; done)
      | (cases h; omega)
      | (have := ih _ _ (by omega) h; omega)
theorem own_sk1 (b : Nat → Nat) (to : Nat) : ∀ f i, own_sk b to 1 f i ≠ none := by
  intro f
  induction f with
  | zero => intro i h; cases h
  | succ f ih =>
    intro i h
    rw [own_sk_s] at h
    repeat' (split at h)
    all_goals first
      | (cases h; done)
      | exact ih _ h
      | (rename_i q; exact absurd rfl q)
      | omega
def own_sb (u : Nat) : Int32 := (Int32.ofNat u).toInt8.toInt32
theorem own_o_toInt {a : Nat} (ha : a < 2 ^ 31) : (Int32.ofNat a).toInt = a := Int32.toInt_ofNat_of_lt ha
theorem own_oe {a b : Nat} (ha : a < 2 ^ 31) (hb : b < 2 ^ 31) : Int32.ofNat a = Int32.ofNat b ↔ a = b := by
  rw [← Int32.toInt_inj, own_o_toInt ha, own_o_toInt hb]; omega
theorem own_ol {a b : Nat} (ha : a < 2 ^ 31) (hb : b < 2 ^ 31) : Int32.ofNat a < Int32.ofNat b ↔ a < b := by
  rw [Int32.lt_iff_toInt_lt, own_o_toInt ha, own_o_toInt hb]; omega
theorem own_oadd (a b : Nat) : Int32.ofNat a + Int32.ofNat b = Int32.ofNat (a + b) := (Int32.ofNat_add a b).symm
theorem own_osub {a b : Nat} (h : b ≤ a) : Int32.ofNat a - Int32.ofNat b = Int32.ofNat (a - b) := by
  have e := own_oadd (a - b) b
  rw [Nat.sub_add_cancel h] at e
  rw [← e]; exact Int32.add_sub_cancel _ _
theorem own_oand (a b : Nat) : Int32.ofNat a &&& Int32.ofNat b = Int32.ofNat (a &&& b) := by
  apply Int32.toBitVec_inj.mp
  simp [Int32.toBitVec_and, BitVec.ofNat_and]
theorem own_sb_toInt : ∀ u : Fin 256, (own_sb u.1).toInt = if u.1 < 128 then (u.1 : Int) else (u.1 : Int) - 256 := by decide +kernel
theorem own_sb_i {u : Nat} (hu : u < 256) : (own_sb u).toInt = if u < 128 then (u : Int) else (u : Int) - 256 := own_sb_toInt ⟨u, hu⟩
theorem own_sbe {u k : Nat} (hu : u < 256) (hk : k < 128) : own_sb u = Int32.ofNat k ↔ u = k := by
  rw [← Int32.toInt_inj, own_o_toInt (by omega), own_sb_i hu]; split <;> omega
theorem own_sbl {u k : Nat} (hu : u < 256) (hk : k < 128) : own_sb u < Int32.ofNat k ↔ (u < k ∨ 128 ≤ u) := by
  rw [Int32.lt_iff_toInt_lt, own_o_toInt (by omega), own_sb_i hu]; split <;> omega
theorem own_sbg {u k : Nat} (hu : u < 256) (hk : k < 128) : Int32.ofNat k < own_sb u ↔ (k < u ∧ u < 128) := by
  rw [Int32.lt_iff_toInt_lt, own_o_toInt (by omega), own_sb_i hu]; split <;> omega
theorem own_sbm0 : ∀ u : Fin 256, own_sb u.1 &&& 255 = Int32.ofNat u.1 := by decide +kernel
theorem own_sbm {u : Nat} (hu : u < 256) : own_sb u &&& 255 = Int32.ofNat u := own_sbm0 ⟨u, hu⟩
theorem own_sbo0 : ∀ u : Fin 256, (own_sb u.1 ||| 32 = 106 ↔ (u.1 = 106 ∨ u.1 = 74)) ∧ (own_sb u.1 ||| 32 = 97 ↔ (u.1 = 97 ∨ u.1 = 65)) ∧ (own_sb u.1 ||| 32 = 114 ↔ (u.1 = 114 ∨ u.1 = 82)) := by decide +kernel
theorem own_sbo {u : Nat} (hu : u < 256) : (own_sb u ||| 32 = 106 ↔ (u = 106 ∨ u = 74)) ∧ (own_sb u ||| 32 = 97 ↔ (u = 97 ∨ u = 65)) ∧ (own_sb u ||| 32 = 114 ↔ (u = 114 ∨ u = 82)) := own_sbo0 ⟨u, hu⟩
theorem own_sb8 (u : Nat) : (own_sb u).toInt8.toInt32 = own_sb u := by unfold own_sb; rw [Int8.toInt8_toInt32]
theorem own_dg_bd (b : Nat → Nat) (to : Nat) : ∀ f i, i ≤ to → i ≤ own_dg b to f i ∧ own_dg b to f i ≤ to := by
  intro f
  induction f with
  | zero => intro i hi; exact ⟨Nat.le_refl _, hi⟩
  | succ f ih =>
    intro i hi
    show i ≤ (if i < to then (if own_digit (b i) = true then own_dg b to f (i + 1) else i) else i) ∧ (if i < to then (if own_digit (b i) = true then own_dg b to f (i + 1) else i) else i) ≤ to
    split
    · split
      · have := ih (i + 1) (by omega); omega
      · omega
    · omega
theorem own_kd_lt : ∀ u : Fin 256, own_kd u.1 < 32 := by decide +kernel
theorem own_mask (x : Int32) : ∃ c : Nat, c < 256 ∧ x &&& 255 = Int32.ofNat c := by
  refine ⟨(x &&& 255).toBitVec.toNat, ?_, ?_⟩
  · have h : (x &&& 255).toBitVec.toNat = x.toBitVec.toNat &&& 255 := by simp [Int32.toBitVec_and, BitVec.toNat_and]
    rw [h]; exact Nat.lt_of_le_of_lt Nat.and_le_right (by decide)
  · apply Int32.toBitVec_inj.mp
    simp
theorem own_bf (t : List Nat) (k c : Nat) (hc : c < 256) (ht : ∀ u ∈ t, u < 256) (i : Nat) : own_b (t.set k c) i < 256 := by
  unfold own_b
  rw [List.getD_eq_getElem?_getD]
  cases h : (t.set k c)[i - 1]? with
  | none => simp
  | some v =>
    have hm := List.mem_of_getElem? h
    rcases List.mem_or_eq_of_mem_set hm with q | q
    · simpa using ht v q
    · subst q; simpa using hc
theorem own_dg_s (b : Nat → Nat) (to f i : Nat) : own_dg b to (f + 1) i = if i < to then (if own_digit (b i) = true then own_dg b to f (i + 1) else i) else i := rfl

set_option maxRecDepth 100000 in
theorem own_lawA : (List.range 13).all (fun k => own_allK own_tA 14 own_eA k) = true := by decide +kernel
set_option maxRecDepth 100000 in
theorem own_lawB : (List.range 15).all (fun k => own_allK own_tB 16 own_eB k) = true := by decide +kernel
set_option maxRecDepth 100000 in
theorem own_lawC : (List.range 19).all (fun k => own_allK own_tC 20 own_eC k) = true := by decide +kernel
set_option maxRecDepth 100000 in
theorem own_lawD : (List.range 14).all (fun t => own_plain (own_b own_tA) 1 (1 + t) == (t != 0 && t != 1 && t != 4)) = true := by decide +kernel
theorem own_use {t : List Nat} {to n : Nat} {E : Nat → Nat → Bool} (h : (List.range n).all (fun k => own_allK t to E k) = true) {k c : Nat} (hk : k < n) (hc : c < 256) : own_plain (own_b (t.set k c)) 1 to = E k c := by
  have h1 := List.all_eq_true.mp h k (List.mem_range.mpr hk)
  have h2 := List.all_eq_true.mp h1 c (List.mem_range.mpr hc)
  exact beq_iff_eq.mp h2
theorem own_letter_iff {c : Nat} : own_letter c = true ↔ ((65 ≤ c ∧ c ≤ 90) ∨ (97 ≤ c ∧ c ≤ 122)) := by simp [own_letter]
theorem own_digit_iff {c : Nat} : own_digit c = true ↔ (48 ≤ c ∧ c ≤ 57) := by simp [own_digit]
theorem own_m1 {k : Nat} (h : k < 2 ^ 31) : ¬ (-1 : Int32) = Int32.ofNat k := fun q => by
  have e := congrArg Int32.toInt q
  rw [own_o_toInt h, show (-1 : Int32).toInt = -1 from rfl] at e
  omega
/-- an array of bytes, as far as it is read -/
def Byt (Z : State) (h : Heap) (a : Addr) (b : Nat → Nat) (to : Nat) : Prop := ∃ cl : Cell, Arr Z h a cl .byte ∧ ∀ i, 1 ≤ i → i < to → (¬ (Int32.ofNat i < 0 ∨ cl.slots.size ≤ (Int32.ofNat i).toNatClampNeg) ∧ cl.slots[(Int32.ofNat i).toNatClampNeg]? = some (.int (own_sb (b i))))
/-- the table of kinds -/
def Kds (Z : State) (h : Heap) (a : Addr) : Prop := ∃ cl : Cell, Arr Z h a cl .int ∧ ∀ u, u < 256 → (¬ (Int32.ofNat u < 0 ∨ cl.slots.size ≤ (Int32.ofNat u).toNatClampNeg) ∧ cl.slots[(Int32.ofNat u).toNatClampNeg]? = some (.int (Int32.ofNat (own_kd u))))

theorem ef_letter (m : MethodId) (x0 : Int32) : entryFrame m #[(.int x0)] 1 = mkF m 0 #[iv x0] [] := by first | (simp [entryFrame, mkF, argsToLocals, Value.category]; done) | rfl
theorem pn_letter : plainName "com/example/entayl/entayl/input/IriTableIsPlainIriPinLaw" = true := by first | (simp [plainName, overriddenIn]; done) | decide +kernel
def Q_letter (Z : State) (cu : Nat) (h0 : Heap) (n0 : Nat) (v : Option Value) (h : Heap) (L : List Loc) : Prop := (own_letter cu = true ∧ v = some (.int 1) ∧ Fr n0 L ∧ h = h0) ∨ (¬ own_letter cu = true ∧ v = some (.int 0) ∧ Fr n0 L ∧ h = h0)
set_option maxRecDepth 65536 in
set_option maxHeartbeats 40000000 in
theorem rm_letter (l : Launch) (Z : State) (a0 : Array Value) (hw : ∀ d ∈ tables_1, d.before a0 Z = true) (ws : List Jvm.Cond) (cu : Nat) (h0 : Heap) (n0 : Nat) (Z0 : n0 ≤ h0.size) (hc : cu < 256) :
    MetFree l (⟨"com/example/entayl/entayl/input/IriTableIsPlainIriPinLaw", "letter", "(I)Z"⟩ : MethodName) (head1 (Jvm.Cond.code (⟨"com/example/entayl/entayl/input/IriTableIsPlainIriPinLaw", "letter", "(I)Z"⟩ : MethodName) method_6_code 1 (some .boolean) :: ws) ({ frames := 0, cells := 0, slots := 0, locals := 0 } : Room)) (fun as_ U => as_ = #[(.int (Int32.ofNat cu))] ∧ Z.Warmed39 U.vm ∧ U.heap = h0) (fun _ _ _ _ _ => True) (fun _ U o U' => ∃ v L, o = .returned v ∧ Q_letter Z cu h0 n0 v U'.heap L ∧ FrameEnd U o U' L ({ frames := 0, cells := 0, slots := 0, locals := 0 } : Room).cells ({ frames := 0, cells := 0, slots := 0, locals := 0 } : Room).slots) := by
  refine MetFree.of_bodySF (plainFor_of_name pn_letter) hisR ?_
  intro p e s m args below meth c s₁ Bd hml0 hP hK
  obtain ⟨rfl, hZ, hh⟩ := hP
  have hx := Bd.exec
  have hby := Bd.bytes
  have hml : c.maxLocals = 1 := hml0
  have hown : s.vm.findClass "com/example/entayl/entayl/input/IriTableIsPlainIriPinLaw" = some m.cls := findClass_of_methodNamed Bd.named
  have hnm := (name_of_methodNamed Bd.named Bd.method).1
  have X0 : Stand p l e ({ frames := 0, cells := 0, slots := 0, locals := 0 } : Room) s m #[(.int (Int32.ofNat cu))] below meth c s₁ [] 0 0 := Stand.of_body Bd
  have e0 : s₁.heap = h0 := by rw [← hh, Bd.state]; rfl
  have N0 := Fr.nil n0
  refine Go.out ?_
  refine Go.pre (fun t k => castTop (ef_letter m (Int32.ofNat cu)) k) ?_
  show Go p e below _ (s₁.setTop (mkF m 0 #[iv (Int32.ofNat cu)] []))
  refine Go.pre (fun _ k => XS.iloadN X0.here hx rfl (hb hby d_method_6_0) rfl k) ?_
  show Go p e below _ (s₁.setTop (mkF m 1 #[iv (Int32.ofNat cu)] [(.int (Int32.ofNat cu))]))
  refine Go.pre (fun _ k => XS.bipush X0.here hx rfl (hb hby d_method_6_1) k) ?_
  show Go p e below _ (s₁.setTop (mkF m 3 #[iv (Int32.ofNat cu)] [(.int (65 : Int32)), (.int (Int32.ofNat cu))]))
  by_cases hc3_1 : cu < 65
  · skip
    refine Go.pre (fun _ k => XS.icmpYes X0.here hx rfl (pc0 := 3) (pc' := 12) rfl (hb hby d_method_6_3) rfl (tlt ((own_ol (a := cu) (b := 65) (by omega) (by omega)).mpr hc3_1)).1 (by decide) (by decide) k) ?_
    show Go p e below _ (s₁.setTop (mkF m 12 #[iv (Int32.ofNat cu)] []))
    refine Go.pre (fun _ k => XS.iloadN X0.here hx rfl (hb hby d_method_6_12) rfl k) ?_
    show Go p e below _ (s₁.setTop (mkF m 13 #[iv (Int32.ofNat cu)] [(.int (Int32.ofNat cu))]))
    refine Go.pre (fun _ k => XS.bipush X0.here hx rfl (hb hby d_method_6_13) k) ?_
    show Go p e below _ (s₁.setTop (mkF m 15 #[iv (Int32.ofNat cu)] [(.int (97 : Int32)), (.int (Int32.ofNat cu))]))
    by_cases hc15_2 : cu < 97
    · skip
      refine Go.pre (fun _ k => XS.icmpYes X0.here hx rfl (pc0 := 15) (pc' := 28) rfl (hb hby d_method_6_15) rfl (tlt ((own_ol (a := cu) (b := 97) (by omega) (by omega)).mpr hc15_2)).1 (by decide) (by decide) k) ?_
      show Go p e below _ (s₁.setTop (mkF m 28 #[iv (Int32.ofNat cu)] []))
      refine Go.pre (fun _ k => XS.iconst X0.here hx rfl (hb hby d_method_6_28) k) ?_
      show Go p e below _ (s₁.setTop (mkF m 29 #[iv (Int32.ofNat cu)] [(.int (0 : Int32))]))
      obtain ⟨fs, hr, hrun, hended, hW, hsame⟩ := X0.leave (v := some (.int (0 : Int32))) (fun h => by rw [Bd.returns] at h; cases h)
      refine Go.fin (retN X0 hx (t := .boolean) Bd.returns (by simp) (hb hby d_method_6_29) hr) ⟨hrun, hended, _, _, rfl, ?_, ⟨_, rfl⟩, hW, hsame.mono (by decide) (by decide)⟩
      show Q_letter Z cu h0 n0 _ s₁.heap _
      rw [e0]
      exact Or.inr ⟨fun q => by have q := own_letter_iff.mp q; omega, rfl, N0, rfl⟩
    · skip
      refine Go.pre (fun _ k => XS.icmpNo X0.here hx rfl (hb hby d_method_6_15) rfl (flt (fun q => hc15_2 ((own_ol (a := cu) (b := 97) (by omega) (by omega)).mp q))).1 k) ?_
      show Go p e below _ (s₁.setTop (mkF m 18 #[iv (Int32.ofNat cu)] []))
      refine Go.pre (fun _ k => XS.iloadN X0.here hx rfl (hb hby d_method_6_18) rfl k) ?_
      show Go p e below _ (s₁.setTop (mkF m 19 #[iv (Int32.ofNat cu)] [(.int (Int32.ofNat cu))]))
      refine Go.pre (fun _ k => XS.bipush X0.here hx rfl (hb hby d_method_6_19) k) ?_
      show Go p e below _ (s₁.setTop (mkF m 21 #[iv (Int32.ofNat cu)] [(.int (122 : Int32)), (.int (Int32.ofNat cu))]))
      by_cases hc21_3 : 122 < cu
      · skip
        refine Go.pre (fun _ k => XS.icmpYes X0.here hx rfl (pc0 := 21) (pc' := 28) rfl (hb hby d_method_6_21) rfl (tlt ((own_ol (a := 122) (b := cu) (by omega) (by omega)).mpr hc21_3)).2.2.1 (by decide) (by decide) k) ?_
        show Go p e below _ (s₁.setTop (mkF m 28 #[iv (Int32.ofNat cu)] []))
        refine Go.pre (fun _ k => XS.iconst X0.here hx rfl (hb hby d_method_6_28) k) ?_
        show Go p e below _ (s₁.setTop (mkF m 29 #[iv (Int32.ofNat cu)] [(.int (0 : Int32))]))
        obtain ⟨fs, hr, hrun, hended, hW, hsame⟩ := X0.leave (v := some (.int (0 : Int32))) (fun h => by rw [Bd.returns] at h; cases h)
        refine Go.fin (retN X0 hx (t := .boolean) Bd.returns (by simp) (hb hby d_method_6_29) hr) ⟨hrun, hended, _, _, rfl, ?_, ⟨_, rfl⟩, hW, hsame.mono (by decide) (by decide)⟩
        show Q_letter Z cu h0 n0 _ s₁.heap _
        rw [e0]
        exact Or.inr ⟨fun q => by have q := own_letter_iff.mp q; omega, rfl, N0, rfl⟩
      · skip
        refine Go.pre (fun _ k => XS.icmpNo X0.here hx rfl (hb hby d_method_6_21) rfl (flt (fun q => hc21_3 ((own_ol (a := 122) (b := cu) (by omega) (by omega)).mp q))).2.2.1 k) ?_
        show Go p e below _ (s₁.setTop (mkF m 24 #[iv (Int32.ofNat cu)] []))
        refine Go.pre (fun _ k => XS.iconst X0.here hx rfl (hb hby d_method_6_24) k) ?_
        show Go p e below _ (s₁.setTop (mkF m 25 #[iv (Int32.ofNat cu)] [(.int (1 : Int32))]))
        refine Go.pre (fun _ k => XS.goto X0.here hx rfl (pc0 := 25) (pc' := 29) rfl (hb hby d_method_6_25) (by decide) (by decide) k) ?_
        show Go p e below _ (s₁.setTop (mkF m 29 #[iv (Int32.ofNat cu)] [(.int (1 : Int32))]))
        obtain ⟨fs, hr, hrun, hended, hW, hsame⟩ := X0.leave (v := some (.int (1 : Int32))) (fun h => by rw [Bd.returns] at h; cases h)
        refine Go.fin (retN X0 hx (t := .boolean) Bd.returns (by simp) (hb hby d_method_6_29) hr) ⟨hrun, hended, _, _, rfl, ?_, ⟨_, rfl⟩, hW, hsame.mono (by decide) (by decide)⟩
        show Q_letter Z cu h0 n0 _ s₁.heap _
        rw [e0]
        exact Or.inl ⟨own_letter_iff.mpr (by omega), rfl, N0, rfl⟩
  · skip
    refine Go.pre (fun _ k => XS.icmpNo X0.here hx rfl (hb hby d_method_6_3) rfl (flt (fun q => hc3_1 ((own_ol (a := cu) (b := 65) (by omega) (by omega)).mp q))).1 k) ?_
    show Go p e below _ (s₁.setTop (mkF m 6 #[iv (Int32.ofNat cu)] []))
    refine Go.pre (fun _ k => XS.iloadN X0.here hx rfl (hb hby d_method_6_6) rfl k) ?_
    show Go p e below _ (s₁.setTop (mkF m 7 #[iv (Int32.ofNat cu)] [(.int (Int32.ofNat cu))]))
    refine Go.pre (fun _ k => XS.bipush X0.here hx rfl (hb hby d_method_6_7) k) ?_
    show Go p e below _ (s₁.setTop (mkF m 9 #[iv (Int32.ofNat cu)] [(.int (90 : Int32)), (.int (Int32.ofNat cu))]))
    by_cases hc9_4 : 90 < cu
    · skip
      refine Go.pre (fun _ k => XS.icmpNo X0.here hx rfl (hb hby d_method_6_9) rfl (tlt ((own_ol (a := 90) (b := cu) (by omega) (by omega)).mpr hc9_4)).2.2.2 k) ?_
      show Go p e below _ (s₁.setTop (mkF m 12 #[iv (Int32.ofNat cu)] []))
      refine Go.pre (fun _ k => XS.iloadN X0.here hx rfl (hb hby d_method_6_12) rfl k) ?_
      show Go p e below _ (s₁.setTop (mkF m 13 #[iv (Int32.ofNat cu)] [(.int (Int32.ofNat cu))]))
      refine Go.pre (fun _ k => XS.bipush X0.here hx rfl (hb hby d_method_6_13) k) ?_
      show Go p e below _ (s₁.setTop (mkF m 15 #[iv (Int32.ofNat cu)] [(.int (97 : Int32)), (.int (Int32.ofNat cu))]))
      by_cases hc15_5 : cu < 97
      · skip
        refine Go.pre (fun _ k => XS.icmpYes X0.here hx rfl (pc0 := 15) (pc' := 28) rfl (hb hby d_method_6_15) rfl (tlt ((own_ol (a := cu) (b := 97) (by omega) (by omega)).mpr hc15_5)).1 (by decide) (by decide) k) ?_
        show Go p e below _ (s₁.setTop (mkF m 28 #[iv (Int32.ofNat cu)] []))
        refine Go.pre (fun _ k => XS.iconst X0.here hx rfl (hb hby d_method_6_28) k) ?_
        show Go p e below _ (s₁.setTop (mkF m 29 #[iv (Int32.ofNat cu)] [(.int (0 : Int32))]))
        obtain ⟨fs, hr, hrun, hended, hW, hsame⟩ := X0.leave (v := some (.int (0 : Int32))) (fun h => by rw [Bd.returns] at h; cases h)
        refine Go.fin (retN X0 hx (t := .boolean) Bd.returns (by simp) (hb hby d_method_6_29) hr) ⟨hrun, hended, _, _, rfl, ?_, ⟨_, rfl⟩, hW, hsame.mono (by decide) (by decide)⟩
        show Q_letter Z cu h0 n0 _ s₁.heap _
        rw [e0]
        exact Or.inr ⟨fun q => by have q := own_letter_iff.mp q; omega, rfl, N0, rfl⟩
      · skip
        refine Go.pre (fun _ k => XS.icmpNo X0.here hx rfl (hb hby d_method_6_15) rfl (flt (fun q => hc15_5 ((own_ol (a := cu) (b := 97) (by omega) (by omega)).mp q))).1 k) ?_
        show Go p e below _ (s₁.setTop (mkF m 18 #[iv (Int32.ofNat cu)] []))
        refine Go.pre (fun _ k => XS.iloadN X0.here hx rfl (hb hby d_method_6_18) rfl k) ?_
        show Go p e below _ (s₁.setTop (mkF m 19 #[iv (Int32.ofNat cu)] [(.int (Int32.ofNat cu))]))
        refine Go.pre (fun _ k => XS.bipush X0.here hx rfl (hb hby d_method_6_19) k) ?_
        show Go p e below _ (s₁.setTop (mkF m 21 #[iv (Int32.ofNat cu)] [(.int (122 : Int32)), (.int (Int32.ofNat cu))]))
        by_cases hc21_6 : 122 < cu
        · skip
          refine Go.pre (fun _ k => XS.icmpYes X0.here hx rfl (pc0 := 21) (pc' := 28) rfl (hb hby d_method_6_21) rfl (tlt ((own_ol (a := 122) (b := cu) (by omega) (by omega)).mpr hc21_6)).2.2.1 (by decide) (by decide) k) ?_
          show Go p e below _ (s₁.setTop (mkF m 28 #[iv (Int32.ofNat cu)] []))
          refine Go.pre (fun _ k => XS.iconst X0.here hx rfl (hb hby d_method_6_28) k) ?_
          show Go p e below _ (s₁.setTop (mkF m 29 #[iv (Int32.ofNat cu)] [(.int (0 : Int32))]))
          obtain ⟨fs, hr, hrun, hended, hW, hsame⟩ := X0.leave (v := some (.int (0 : Int32))) (fun h => by rw [Bd.returns] at h; cases h)
          refine Go.fin (retN X0 hx (t := .boolean) Bd.returns (by simp) (hb hby d_method_6_29) hr) ⟨hrun, hended, _, _, rfl, ?_, ⟨_, rfl⟩, hW, hsame.mono (by decide) (by decide)⟩
          show Q_letter Z cu h0 n0 _ s₁.heap _
          rw [e0]
          exact Or.inr ⟨fun q => by have q := own_letter_iff.mp q; omega, rfl, N0, rfl⟩
        · skip
          refine Go.pre (fun _ k => XS.icmpNo X0.here hx rfl (hb hby d_method_6_21) rfl (flt (fun q => hc21_6 ((own_ol (a := 122) (b := cu) (by omega) (by omega)).mp q))).2.2.1 k) ?_
          show Go p e below _ (s₁.setTop (mkF m 24 #[iv (Int32.ofNat cu)] []))
          refine Go.pre (fun _ k => XS.iconst X0.here hx rfl (hb hby d_method_6_24) k) ?_
          show Go p e below _ (s₁.setTop (mkF m 25 #[iv (Int32.ofNat cu)] [(.int (1 : Int32))]))
          refine Go.pre (fun _ k => XS.goto X0.here hx rfl (pc0 := 25) (pc' := 29) rfl (hb hby d_method_6_25) (by decide) (by decide) k) ?_
          show Go p e below _ (s₁.setTop (mkF m 29 #[iv (Int32.ofNat cu)] [(.int (1 : Int32))]))
          obtain ⟨fs, hr, hrun, hended, hW, hsame⟩ := X0.leave (v := some (.int (1 : Int32))) (fun h => by rw [Bd.returns] at h; cases h)
          refine Go.fin (retN X0 hx (t := .boolean) Bd.returns (by simp) (hb hby d_method_6_29) hr) ⟨hrun, hended, _, _, rfl, ?_, ⟨_, rfl⟩, hW, hsame.mono (by decide) (by decide)⟩
          show Q_letter Z cu h0 n0 _ s₁.heap _
          rw [e0]
          exact Or.inl ⟨own_letter_iff.mpr (by omega), rfl, N0, rfl⟩
    · skip
      refine Go.pre (fun _ k => XS.icmpYes X0.here hx rfl (pc0 := 9) (pc' := 24) rfl (hb hby d_method_6_9) rfl (flt (fun q => hc9_4 ((own_ol (a := 90) (b := cu) (by omega) (by omega)).mp q))).2.2.2 (by decide) (by decide) k) ?_
      show Go p e below _ (s₁.setTop (mkF m 24 #[iv (Int32.ofNat cu)] []))
      refine Go.pre (fun _ k => XS.iconst X0.here hx rfl (hb hby d_method_6_24) k) ?_
      show Go p e below _ (s₁.setTop (mkF m 25 #[iv (Int32.ofNat cu)] [(.int (1 : Int32))]))
      refine Go.pre (fun _ k => XS.goto X0.here hx rfl (pc0 := 25) (pc' := 29) rfl (hb hby d_method_6_25) (by decide) (by decide) k) ?_
      show Go p e below _ (s₁.setTop (mkF m 29 #[iv (Int32.ofNat cu)] [(.int (1 : Int32))]))
      obtain ⟨fs, hr, hrun, hended, hW, hsame⟩ := X0.leave (v := some (.int (1 : Int32))) (fun h => by rw [Bd.returns] at h; cases h)
      refine Go.fin (retN X0 hx (t := .boolean) Bd.returns (by simp) (hb hby d_method_6_29) hr) ⟨hrun, hended, _, _, rfl, ?_, ⟨_, rfl⟩, hW, hsame.mono (by decide) (by decide)⟩
      show Q_letter Z cu h0 n0 _ s₁.heap _
      rw [e0]
      exact Or.inl ⟨own_letter_iff.mpr (by omega), rfl, N0, rfl⟩

theorem ef_digit (m : MethodId) (x0 : Int32) : entryFrame m #[(.int x0)] 1 = mkF m 0 #[iv x0] [] := by first | (simp [entryFrame, mkF, argsToLocals, Value.category]; done) | rfl
theorem pn_digit : plainName "com/example/entayl/entayl/input/IriTableIsPlainIriPinLaw" = true := by first | (simp [plainName, overriddenIn]; done) | decide +kernel
def Q_digit (Z : State) (cu : Nat) (h0 : Heap) (n0 : Nat) (v : Option Value) (h : Heap) (L : List Loc) : Prop := (own_digit cu = true ∧ v = some (.int 1) ∧ Fr n0 L ∧ h = h0) ∨ (¬ own_digit cu = true ∧ v = some (.int 0) ∧ Fr n0 L ∧ h = h0)
set_option maxRecDepth 65536 in
set_option maxHeartbeats 40000000 in
theorem rm_digit (l : Launch) (Z : State) (a0 : Array Value) (hw : ∀ d ∈ tables_1, d.before a0 Z = true) (ws : List Jvm.Cond) (cu : Nat) (h0 : Heap) (n0 : Nat) (Z0 : n0 ≤ h0.size) (hc : cu < 256) :
    MetFree l (⟨"com/example/entayl/entayl/input/IriTableIsPlainIriPinLaw", "digit", "(I)Z"⟩ : MethodName) (head1 (Jvm.Cond.code (⟨"com/example/entayl/entayl/input/IriTableIsPlainIriPinLaw", "digit", "(I)Z"⟩ : MethodName) method_7_code 1 (some .boolean) :: ws) ({ frames := 0, cells := 0, slots := 0, locals := 0 } : Room)) (fun as_ U => as_ = #[(.int (Int32.ofNat cu))] ∧ Z.Warmed39 U.vm ∧ U.heap = h0) (fun _ _ _ _ _ => True) (fun _ U o U' => ∃ v L, o = .returned v ∧ Q_digit Z cu h0 n0 v U'.heap L ∧ FrameEnd U o U' L ({ frames := 0, cells := 0, slots := 0, locals := 0 } : Room).cells ({ frames := 0, cells := 0, slots := 0, locals := 0 } : Room).slots) := by
  refine MetFree.of_bodySF (plainFor_of_name pn_digit) hisR ?_
  intro p e s m args below meth c s₁ Bd hml0 hP hK
  obtain ⟨rfl, hZ, hh⟩ := hP
  have hx := Bd.exec
  have hby := Bd.bytes
  have hml : c.maxLocals = 1 := hml0
  have hown : s.vm.findClass "com/example/entayl/entayl/input/IriTableIsPlainIriPinLaw" = some m.cls := findClass_of_methodNamed Bd.named
  have hnm := (name_of_methodNamed Bd.named Bd.method).1
  have X0 : Stand p l e ({ frames := 0, cells := 0, slots := 0, locals := 0 } : Room) s m #[(.int (Int32.ofNat cu))] below meth c s₁ [] 0 0 := Stand.of_body Bd
  have e0 : s₁.heap = h0 := by rw [← hh, Bd.state]; rfl
  have N0 := Fr.nil n0
  refine Go.out ?_
  refine Go.pre (fun t k => castTop (ef_digit m (Int32.ofNat cu)) k) ?_
  show Go p e below _ (s₁.setTop (mkF m 0 #[iv (Int32.ofNat cu)] []))
  refine Go.pre (fun _ k => XS.iloadN X0.here hx rfl (hb hby d_method_7_0) rfl k) ?_
  show Go p e below _ (s₁.setTop (mkF m 1 #[iv (Int32.ofNat cu)] [(.int (Int32.ofNat cu))]))
  refine Go.pre (fun _ k => XS.bipush X0.here hx rfl (hb hby d_method_7_1) k) ?_
  show Go p e below _ (s₁.setTop (mkF m 3 #[iv (Int32.ofNat cu)] [(.int (48 : Int32)), (.int (Int32.ofNat cu))]))
  by_cases hc3_1 : cu < 48
  · skip
    refine Go.pre (fun _ k => XS.icmpYes X0.here hx rfl (pc0 := 3) (pc' := 16) rfl (hb hby d_method_7_3) rfl (tlt ((own_ol (a := cu) (b := 48) (by omega) (by omega)).mpr hc3_1)).1 (by decide) (by decide) k) ?_
    show Go p e below _ (s₁.setTop (mkF m 16 #[iv (Int32.ofNat cu)] []))
    refine Go.pre (fun _ k => XS.iconst X0.here hx rfl (hb hby d_method_7_16) k) ?_
    show Go p e below _ (s₁.setTop (mkF m 17 #[iv (Int32.ofNat cu)] [(.int (0 : Int32))]))
    obtain ⟨fs, hr, hrun, hended, hW, hsame⟩ := X0.leave (v := some (.int (0 : Int32))) (fun h => by rw [Bd.returns] at h; cases h)
    refine Go.fin (retN X0 hx (t := .boolean) Bd.returns (by simp) (hb hby d_method_7_17) hr) ⟨hrun, hended, _, _, rfl, ?_, ⟨_, rfl⟩, hW, hsame.mono (by decide) (by decide)⟩
    show Q_digit Z cu h0 n0 _ s₁.heap _
    rw [e0]
    exact Or.inr ⟨fun q => by have q := own_digit_iff.mp q; omega, rfl, N0, rfl⟩
  · skip
    refine Go.pre (fun _ k => XS.icmpNo X0.here hx rfl (hb hby d_method_7_3) rfl (flt (fun q => hc3_1 ((own_ol (a := cu) (b := 48) (by omega) (by omega)).mp q))).1 k) ?_
    show Go p e below _ (s₁.setTop (mkF m 6 #[iv (Int32.ofNat cu)] []))
    refine Go.pre (fun _ k => XS.iloadN X0.here hx rfl (hb hby d_method_7_6) rfl k) ?_
    show Go p e below _ (s₁.setTop (mkF m 7 #[iv (Int32.ofNat cu)] [(.int (Int32.ofNat cu))]))
    refine Go.pre (fun _ k => XS.bipush X0.here hx rfl (hb hby d_method_7_7) k) ?_
    show Go p e below _ (s₁.setTop (mkF m 9 #[iv (Int32.ofNat cu)] [(.int (57 : Int32)), (.int (Int32.ofNat cu))]))
    by_cases hc9_2 : 57 < cu
    · skip
      refine Go.pre (fun _ k => XS.icmpYes X0.here hx rfl (pc0 := 9) (pc' := 16) rfl (hb hby d_method_7_9) rfl (tlt ((own_ol (a := 57) (b := cu) (by omega) (by omega)).mpr hc9_2)).2.2.1 (by decide) (by decide) k) ?_
      show Go p e below _ (s₁.setTop (mkF m 16 #[iv (Int32.ofNat cu)] []))
      refine Go.pre (fun _ k => XS.iconst X0.here hx rfl (hb hby d_method_7_16) k) ?_
      show Go p e below _ (s₁.setTop (mkF m 17 #[iv (Int32.ofNat cu)] [(.int (0 : Int32))]))
      obtain ⟨fs, hr, hrun, hended, hW, hsame⟩ := X0.leave (v := some (.int (0 : Int32))) (fun h => by rw [Bd.returns] at h; cases h)
      refine Go.fin (retN X0 hx (t := .boolean) Bd.returns (by simp) (hb hby d_method_7_17) hr) ⟨hrun, hended, _, _, rfl, ?_, ⟨_, rfl⟩, hW, hsame.mono (by decide) (by decide)⟩
      show Q_digit Z cu h0 n0 _ s₁.heap _
      rw [e0]
      exact Or.inr ⟨fun q => by have q := own_digit_iff.mp q; omega, rfl, N0, rfl⟩
    · skip
      refine Go.pre (fun _ k => XS.icmpNo X0.here hx rfl (hb hby d_method_7_9) rfl (flt (fun q => hc9_2 ((own_ol (a := 57) (b := cu) (by omega) (by omega)).mp q))).2.2.1 k) ?_
      show Go p e below _ (s₁.setTop (mkF m 12 #[iv (Int32.ofNat cu)] []))
      refine Go.pre (fun _ k => XS.iconst X0.here hx rfl (hb hby d_method_7_12) k) ?_
      show Go p e below _ (s₁.setTop (mkF m 13 #[iv (Int32.ofNat cu)] [(.int (1 : Int32))]))
      refine Go.pre (fun _ k => XS.goto X0.here hx rfl (pc0 := 13) (pc' := 17) rfl (hb hby d_method_7_13) (by decide) (by decide) k) ?_
      show Go p e below _ (s₁.setTop (mkF m 17 #[iv (Int32.ofNat cu)] [(.int (1 : Int32))]))
      obtain ⟨fs, hr, hrun, hended, hW, hsame⟩ := X0.leave (v := some (.int (1 : Int32))) (fun h => by rw [Bd.returns] at h; cases h)
      refine Go.fin (retN X0 hx (t := .boolean) Bd.returns (by simp) (hb hby d_method_7_17) hr) ⟨hrun, hended, _, _, rfl, ?_, ⟨_, rfl⟩, hW, hsame.mono (by decide) (by decide)⟩
      show Q_digit Z cu h0 n0 _ s₁.heap _
      rw [e0]
      exact Or.inl ⟨own_digit_iff.mpr (by omega), rfl, N0, rfl⟩

theorem ef_hex (m : MethodId) (x0 : Int32) : entryFrame m #[(.int x0)] 1 = mkF m 0 #[iv x0] [] := by first | (simp [entryFrame, mkF, argsToLocals, Value.category]; done) | rfl
theorem pn_hex : plainName "com/example/entayl/entayl/input/IriTableIsPlainIriPinLaw" = true := by first | (simp [plainName, overriddenIn]; done) | decide +kernel
def Q_hex (Z : State) (cu : Nat) (h0 : Heap) (n0 : Nat) (v : Option Value) (h : Heap) (L : List Loc) : Prop := (own_hex cu = true ∧ v = some (.int 1) ∧ Fr n0 L ∧ h = h0) ∨ (¬ own_hex cu = true ∧ v = some (.int 0) ∧ Fr n0 L ∧ h = h0)
set_option maxRecDepth 65536 in
set_option maxHeartbeats 40000000 in
theorem rm_hex (l : Launch) (Z : State) (a0 : Array Value) (hw : ∀ d ∈ tables_1, d.before a0 Z = true) (ws : List Jvm.Cond) (cu : Nat) (h0 : Heap) (n0 : Nat) (Z0 : n0 ≤ h0.size) (hc : cu < 256) :
    MetFree l (⟨"com/example/entayl/entayl/input/IriTableIsPlainIriPinLaw", "hex", "(I)Z"⟩ : MethodName) (head1 (Jvm.Cond.code (⟨"com/example/entayl/entayl/input/IriTableIsPlainIriPinLaw", "hex", "(I)Z"⟩ : MethodName) method_8_code 1 (some .boolean) :: ws) ({ frames := 1, cells := 0, slots := 0, locals := 12 } : Room)) (fun as_ U => as_ = #[(.int (Int32.ofNat cu))] ∧ Z.Warmed39 U.vm ∧ U.heap = h0) (fun _ _ _ _ _ => True) (fun _ U o U' => ∃ v L, o = .returned v ∧ Q_hex Z cu h0 n0 v U'.heap L ∧ FrameEnd U o U' L ({ frames := 1, cells := 0, slots := 0, locals := 12 } : Room).cells ({ frames := 1, cells := 0, slots := 0, locals := 12 } : Room).slots) := by
  refine MetFree.of_bodySF (plainFor_of_name pn_hex) hisR ?_
  intro p e s m args below meth c s₁ Bd hml0 hP hK
  obtain ⟨rfl, hZ, hh⟩ := hP
  have hx := Bd.exec
  have hby := Bd.bytes
  have hml : c.maxLocals = 1 := hml0
  have hown : s.vm.findClass "com/example/entayl/entayl/input/IriTableIsPlainIriPinLaw" = some m.cls := findClass_of_methodNamed Bd.named
  have hnm := (name_of_methodNamed Bd.named Bd.method).1
  have X0 : Stand p l e ({ frames := 1, cells := 0, slots := 0, locals := 12 } : Room) s m #[(.int (Int32.ofNat cu))] below meth c s₁ [] 0 0 := Stand.of_body Bd
  have e0 : s₁.heap = h0 := by rw [← hh, Bd.state]; rfl
  have N0 := Fr.nil n0
  refine Go.out ?_
  refine Go.pre (fun t k => castTop (ef_hex m (Int32.ofNat cu)) k) ?_
  show Go p e below _ (s₁.setTop (mkF m 0 #[iv (Int32.ofNat cu)] []))
  refine Go.pre (fun _ k => XS.iloadN X0.here hx rfl (hb hby d_method_8_0) rfl k) ?_
  show Go p e below _ (s₁.setTop (mkF m 1 #[iv (Int32.ofNat cu)] [(.int (Int32.ofNat cu))]))
  obtain ⟨_, _, ⟨T1, L1, k1, n1⟩, -, X1, ⟨Lc1, hQ1, l1, y1, z1⟩, st1⟩ := Jvm.LawKit.callS X0 hx (y := (⟨"com/example/entayl/entayl/input/IriTableIsPlainIriPinLaw", "digit", "(I)Z"⟩ : MethodName)) hown (mvT hZ (hw _ (List.mem_of_getElem? (i := 33) rfl))) (mvT hZ (hw _ (List.mem_of_getElem? (i := 34) rfl))) (mvT hZ (hw _ (List.mem_of_getElem? (i := 19) rfl))) (mvT hZ (hw _ (List.mem_of_getElem? (i := 35) rfl))) (by decide) (backOf (W := 0) (rm_digit l Z a0 hw [] cu h0 n0 Z0 hc) hZ (hw _ (List.mem_of_getElem? (i := 35) rfl)) (hw _ (List.mem_of_getElem? (i := 19) rfl)) (by decide) (by decide)) (g := (mkF m 1 #[iv (Int32.ofNat cu)] [(.int (Int32.ofNat cu))])) rfl (by rw [hml]; rfl) (argsL := [(.int (Int32.ofNat cu))]) (rest := []) (lenOf pd_0 rfl) rfl (by show 2 * 0 + _ ≤ _; exact Nat.le_of_eq rfl) (hb hby d_method_8_1) (fun _ _ => ⟨rfl, e0, (by decide : 0 + 0 ≤ _), (by decide : 0 + 0 ≤ _)⟩)
  dsimp only [Pt.U, Pt.locs, Pt.cells, Pt.slots] at X1 l1 y1 z1 st1 hQ1
  subst l1 y1 z1
  refine Go.pre st1 ?_
  rcases hQ1 with ⟨hp1, rfl, N1q, eh1⟩ | ⟨hp1, rfl, N1q, eh1⟩
  · skip
    have N1 := Fr.app N0 N1q
    show Go p e below _ (T1.setTop (mkF m 4 #[iv (Int32.ofNat cu)] [(.int (1 : Int32))]))
    refine Go.pre (fun _ k => XS.ifYes X1.here hx rfl (pc0 := 4) (pc' := 31) rfl (hb hby d_method_8_4) rfl ((if0 _ _).trans (feq (by decide : ¬ ((1 : Int32) = (0 : Int32)))).2) (by decide) (by decide) k) ?_
    show Go p e below _ (T1.setTop (mkF m 31 #[iv (Int32.ofNat cu)] []))
    refine Go.pre (fun _ k => XS.iconst X1.here hx rfl (hb hby d_method_8_31) k) ?_
    show Go p e below _ (T1.setTop (mkF m 32 #[iv (Int32.ofNat cu)] [(.int (1 : Int32))]))
    refine Go.pre (fun _ k => XS.goto X1.here hx rfl (pc0 := 32) (pc' := 36) rfl (hb hby d_method_8_32) (by decide) (by decide) k) ?_
    show Go p e below _ (T1.setTop (mkF m 36 #[iv (Int32.ofNat cu)] [(.int (1 : Int32))]))
    obtain ⟨fs, hr, hrun, hended, hW, hsame⟩ := X1.leave (v := some (.int (1 : Int32))) (fun h => by rw [Bd.returns] at h; cases h)
    refine Go.fin (retN X1 hx (t := .boolean) Bd.returns (by simp) (hb hby d_method_8_36) hr) ⟨hrun, hended, _, _, rfl, ?_, ⟨_, rfl⟩, hW, hsame.mono (by decide) (by decide)⟩
    show Q_hex Z cu h0 n0 _ T1.heap _
    rw [eh1]
    exact Or.inl ⟨by first | (simp [own_hex, hp1]; done) | (simp [own_hex, hp1]; omega), rfl, N1, rfl⟩
  · skip
    have N1 := Fr.app N0 N1q
    show Go p e below _ (T1.setTop (mkF m 4 #[iv (Int32.ofNat cu)] [(.int (0 : Int32))]))
    refine Go.pre (fun _ k => XS.ifNo X1.here hx rfl (hb hby d_method_8_4) rfl ((if0 _ _).trans (teq (by decide : (0 : Int32) = (0 : Int32))).2) k) ?_
    show Go p e below _ (T1.setTop (mkF m 7 #[iv (Int32.ofNat cu)] []))
    refine Go.pre (fun _ k => XS.iloadN X1.here hx rfl (hb hby d_method_8_7) rfl k) ?_
    show Go p e below _ (T1.setTop (mkF m 8 #[iv (Int32.ofNat cu)] [(.int (Int32.ofNat cu))]))
    refine Go.pre (fun _ k => XS.bipush X1.here hx rfl (hb hby d_method_8_8) k) ?_
    show Go p e below _ (T1.setTop (mkF m 10 #[iv (Int32.ofNat cu)] [(.int (65 : Int32)), (.int (Int32.ofNat cu))]))
    by_cases hc10_2 : cu < 65
    · skip
      refine Go.pre (fun _ k => XS.icmpYes X1.here hx rfl (pc0 := 10) (pc' := 19) rfl (hb hby d_method_8_10) rfl (tlt ((own_ol (a := cu) (b := 65) (by omega) (by omega)).mpr hc10_2)).1 (by decide) (by decide) k) ?_
      show Go p e below _ (T1.setTop (mkF m 19 #[iv (Int32.ofNat cu)] []))
      refine Go.pre (fun _ k => XS.iloadN X1.here hx rfl (hb hby d_method_8_19) rfl k) ?_
      show Go p e below _ (T1.setTop (mkF m 20 #[iv (Int32.ofNat cu)] [(.int (Int32.ofNat cu))]))
      refine Go.pre (fun _ k => XS.bipush X1.here hx rfl (hb hby d_method_8_20) k) ?_
      show Go p e below _ (T1.setTop (mkF m 22 #[iv (Int32.ofNat cu)] [(.int (97 : Int32)), (.int (Int32.ofNat cu))]))
      by_cases hc22_3 : cu < 97
      · skip
        refine Go.pre (fun _ k => XS.icmpYes X1.here hx rfl (pc0 := 22) (pc' := 35) rfl (hb hby d_method_8_22) rfl (tlt ((own_ol (a := cu) (b := 97) (by omega) (by omega)).mpr hc22_3)).1 (by decide) (by decide) k) ?_
        show Go p e below _ (T1.setTop (mkF m 35 #[iv (Int32.ofNat cu)] []))
        refine Go.pre (fun _ k => XS.iconst X1.here hx rfl (hb hby d_method_8_35) k) ?_
        show Go p e below _ (T1.setTop (mkF m 36 #[iv (Int32.ofNat cu)] [(.int (0 : Int32))]))
        obtain ⟨fs, hr, hrun, hended, hW, hsame⟩ := X1.leave (v := some (.int (0 : Int32))) (fun h => by rw [Bd.returns] at h; cases h)
        refine Go.fin (retN X1 hx (t := .boolean) Bd.returns (by simp) (hb hby d_method_8_36) hr) ⟨hrun, hended, _, _, rfl, ?_, ⟨_, rfl⟩, hW, hsame.mono (by decide) (by decide)⟩
        show Q_hex Z cu h0 n0 _ T1.heap _
        rw [eh1]
        exact Or.inr ⟨by first | (simp [own_hex, hp1, hc10_2, hc22_3]; done) | (simp [own_hex, hp1, hc10_2, hc22_3]; omega), rfl, N1, rfl⟩
      · skip
        refine Go.pre (fun _ k => XS.icmpNo X1.here hx rfl (hb hby d_method_8_22) rfl (flt (fun q => hc22_3 ((own_ol (a := cu) (b := 97) (by omega) (by omega)).mp q))).1 k) ?_
        show Go p e below _ (T1.setTop (mkF m 25 #[iv (Int32.ofNat cu)] []))
        refine Go.pre (fun _ k => XS.iloadN X1.here hx rfl (hb hby d_method_8_25) rfl k) ?_
        show Go p e below _ (T1.setTop (mkF m 26 #[iv (Int32.ofNat cu)] [(.int (Int32.ofNat cu))]))
        refine Go.pre (fun _ k => XS.bipush X1.here hx rfl (hb hby d_method_8_26) k) ?_
        show Go p e below _ (T1.setTop (mkF m 28 #[iv (Int32.ofNat cu)] [(.int (102 : Int32)), (.int (Int32.ofNat cu))]))
        by_cases hc28_4 : 102 < cu
        · skip
          refine Go.pre (fun _ k => XS.icmpYes X1.here hx rfl (pc0 := 28) (pc' := 35) rfl (hb hby d_method_8_28) rfl (tlt ((own_ol (a := 102) (b := cu) (by omega) (by omega)).mpr hc28_4)).2.2.1 (by decide) (by decide) k) ?_
          show Go p e below _ (T1.setTop (mkF m 35 #[iv (Int32.ofNat cu)] []))
          refine Go.pre (fun _ k => XS.iconst X1.here hx rfl (hb hby d_method_8_35) k) ?_
          show Go p e below _ (T1.setTop (mkF m 36 #[iv (Int32.ofNat cu)] [(.int (0 : Int32))]))
          obtain ⟨fs, hr, hrun, hended, hW, hsame⟩ := X1.leave (v := some (.int (0 : Int32))) (fun h => by rw [Bd.returns] at h; cases h)
          refine Go.fin (retN X1 hx (t := .boolean) Bd.returns (by simp) (hb hby d_method_8_36) hr) ⟨hrun, hended, _, _, rfl, ?_, ⟨_, rfl⟩, hW, hsame.mono (by decide) (by decide)⟩
          show Q_hex Z cu h0 n0 _ T1.heap _
          rw [eh1]
          exact Or.inr ⟨by first | (simp [own_hex, hp1, hc10_2, hc22_3, hc28_4]; done) | (simp [own_hex, hp1, hc10_2, hc22_3, hc28_4]; omega), rfl, N1, rfl⟩
        · skip
          refine Go.pre (fun _ k => XS.icmpNo X1.here hx rfl (hb hby d_method_8_28) rfl (flt (fun q => hc28_4 ((own_ol (a := 102) (b := cu) (by omega) (by omega)).mp q))).2.2.1 k) ?_
          show Go p e below _ (T1.setTop (mkF m 31 #[iv (Int32.ofNat cu)] []))
          refine Go.pre (fun _ k => XS.iconst X1.here hx rfl (hb hby d_method_8_31) k) ?_
          show Go p e below _ (T1.setTop (mkF m 32 #[iv (Int32.ofNat cu)] [(.int (1 : Int32))]))
          refine Go.pre (fun _ k => XS.goto X1.here hx rfl (pc0 := 32) (pc' := 36) rfl (hb hby d_method_8_32) (by decide) (by decide) k) ?_
          show Go p e below _ (T1.setTop (mkF m 36 #[iv (Int32.ofNat cu)] [(.int (1 : Int32))]))
          obtain ⟨fs, hr, hrun, hended, hW, hsame⟩ := X1.leave (v := some (.int (1 : Int32))) (fun h => by rw [Bd.returns] at h; cases h)
          refine Go.fin (retN X1 hx (t := .boolean) Bd.returns (by simp) (hb hby d_method_8_36) hr) ⟨hrun, hended, _, _, rfl, ?_, ⟨_, rfl⟩, hW, hsame.mono (by decide) (by decide)⟩
          show Q_hex Z cu h0 n0 _ T1.heap _
          rw [eh1]
          exact Or.inl ⟨by first | (simp [own_hex, hp1, hc10_2, hc22_3, hc28_4]; done) | (simp [own_hex, hp1, hc10_2, hc22_3, hc28_4]; omega), rfl, N1, rfl⟩
    · skip
      refine Go.pre (fun _ k => XS.icmpNo X1.here hx rfl (hb hby d_method_8_10) rfl (flt (fun q => hc10_2 ((own_ol (a := cu) (b := 65) (by omega) (by omega)).mp q))).1 k) ?_
      show Go p e below _ (T1.setTop (mkF m 13 #[iv (Int32.ofNat cu)] []))
      refine Go.pre (fun _ k => XS.iloadN X1.here hx rfl (hb hby d_method_8_13) rfl k) ?_
      show Go p e below _ (T1.setTop (mkF m 14 #[iv (Int32.ofNat cu)] [(.int (Int32.ofNat cu))]))
      refine Go.pre (fun _ k => XS.bipush X1.here hx rfl (hb hby d_method_8_14) k) ?_
      show Go p e below _ (T1.setTop (mkF m 16 #[iv (Int32.ofNat cu)] [(.int (70 : Int32)), (.int (Int32.ofNat cu))]))
      by_cases hc16_5 : 70 < cu
      · skip
        refine Go.pre (fun _ k => XS.icmpNo X1.here hx rfl (hb hby d_method_8_16) rfl (tlt ((own_ol (a := 70) (b := cu) (by omega) (by omega)).mpr hc16_5)).2.2.2 k) ?_
        show Go p e below _ (T1.setTop (mkF m 19 #[iv (Int32.ofNat cu)] []))
        refine Go.pre (fun _ k => XS.iloadN X1.here hx rfl (hb hby d_method_8_19) rfl k) ?_
        show Go p e below _ (T1.setTop (mkF m 20 #[iv (Int32.ofNat cu)] [(.int (Int32.ofNat cu))]))
        refine Go.pre (fun _ k => XS.bipush X1.here hx rfl (hb hby d_method_8_20) k) ?_
        show Go p e below _ (T1.setTop (mkF m 22 #[iv (Int32.ofNat cu)] [(.int (97 : Int32)), (.int (Int32.ofNat cu))]))
        by_cases hc22_6 : cu < 97
        · skip
          refine Go.pre (fun _ k => XS.icmpYes X1.here hx rfl (pc0 := 22) (pc' := 35) rfl (hb hby d_method_8_22) rfl (tlt ((own_ol (a := cu) (b := 97) (by omega) (by omega)).mpr hc22_6)).1 (by decide) (by decide) k) ?_
          show Go p e below _ (T1.setTop (mkF m 35 #[iv (Int32.ofNat cu)] []))
          refine Go.pre (fun _ k => XS.iconst X1.here hx rfl (hb hby d_method_8_35) k) ?_
          show Go p e below _ (T1.setTop (mkF m 36 #[iv (Int32.ofNat cu)] [(.int (0 : Int32))]))
          obtain ⟨fs, hr, hrun, hended, hW, hsame⟩ := X1.leave (v := some (.int (0 : Int32))) (fun h => by rw [Bd.returns] at h; cases h)
          refine Go.fin (retN X1 hx (t := .boolean) Bd.returns (by simp) (hb hby d_method_8_36) hr) ⟨hrun, hended, _, _, rfl, ?_, ⟨_, rfl⟩, hW, hsame.mono (by decide) (by decide)⟩
          show Q_hex Z cu h0 n0 _ T1.heap _
          rw [eh1]
          exact Or.inr ⟨by first | (simp [own_hex, hp1, hc10_2, hc16_5, hc22_6]; done) | (simp [own_hex, hp1, hc10_2, hc16_5, hc22_6]; omega), rfl, N1, rfl⟩
        · skip
          refine Go.pre (fun _ k => XS.icmpNo X1.here hx rfl (hb hby d_method_8_22) rfl (flt (fun q => hc22_6 ((own_ol (a := cu) (b := 97) (by omega) (by omega)).mp q))).1 k) ?_
          show Go p e below _ (T1.setTop (mkF m 25 #[iv (Int32.ofNat cu)] []))
          refine Go.pre (fun _ k => XS.iloadN X1.here hx rfl (hb hby d_method_8_25) rfl k) ?_
          show Go p e below _ (T1.setTop (mkF m 26 #[iv (Int32.ofNat cu)] [(.int (Int32.ofNat cu))]))
          refine Go.pre (fun _ k => XS.bipush X1.here hx rfl (hb hby d_method_8_26) k) ?_
          show Go p e below _ (T1.setTop (mkF m 28 #[iv (Int32.ofNat cu)] [(.int (102 : Int32)), (.int (Int32.ofNat cu))]))
          by_cases hc28_7 : 102 < cu
          · skip
            refine Go.pre (fun _ k => XS.icmpYes X1.here hx rfl (pc0 := 28) (pc' := 35) rfl (hb hby d_method_8_28) rfl (tlt ((own_ol (a := 102) (b := cu) (by omega) (by omega)).mpr hc28_7)).2.2.1 (by decide) (by decide) k) ?_
            show Go p e below _ (T1.setTop (mkF m 35 #[iv (Int32.ofNat cu)] []))
            refine Go.pre (fun _ k => XS.iconst X1.here hx rfl (hb hby d_method_8_35) k) ?_
            show Go p e below _ (T1.setTop (mkF m 36 #[iv (Int32.ofNat cu)] [(.int (0 : Int32))]))
            obtain ⟨fs, hr, hrun, hended, hW, hsame⟩ := X1.leave (v := some (.int (0 : Int32))) (fun h => by rw [Bd.returns] at h; cases h)
            refine Go.fin (retN X1 hx (t := .boolean) Bd.returns (by simp) (hb hby d_method_8_36) hr) ⟨hrun, hended, _, _, rfl, ?_, ⟨_, rfl⟩, hW, hsame.mono (by decide) (by decide)⟩
            show Q_hex Z cu h0 n0 _ T1.heap _
            rw [eh1]
            exact Or.inr ⟨by first | (simp [own_hex, hp1, hc10_2, hc16_5, hc22_6, hc28_7]; done) | (simp [own_hex, hp1, hc10_2, hc16_5, hc22_6, hc28_7]; omega), rfl, N1, rfl⟩
          · skip
            refine Go.pre (fun _ k => XS.icmpNo X1.here hx rfl (hb hby d_method_8_28) rfl (flt (fun q => hc28_7 ((own_ol (a := 102) (b := cu) (by omega) (by omega)).mp q))).2.2.1 k) ?_
            show Go p e below _ (T1.setTop (mkF m 31 #[iv (Int32.ofNat cu)] []))
            refine Go.pre (fun _ k => XS.iconst X1.here hx rfl (hb hby d_method_8_31) k) ?_
            show Go p e below _ (T1.setTop (mkF m 32 #[iv (Int32.ofNat cu)] [(.int (1 : Int32))]))
            refine Go.pre (fun _ k => XS.goto X1.here hx rfl (pc0 := 32) (pc' := 36) rfl (hb hby d_method_8_32) (by decide) (by decide) k) ?_
            show Go p e below _ (T1.setTop (mkF m 36 #[iv (Int32.ofNat cu)] [(.int (1 : Int32))]))
            obtain ⟨fs, hr, hrun, hended, hW, hsame⟩ := X1.leave (v := some (.int (1 : Int32))) (fun h => by rw [Bd.returns] at h; cases h)
            refine Go.fin (retN X1 hx (t := .boolean) Bd.returns (by simp) (hb hby d_method_8_36) hr) ⟨hrun, hended, _, _, rfl, ?_, ⟨_, rfl⟩, hW, hsame.mono (by decide) (by decide)⟩
            show Q_hex Z cu h0 n0 _ T1.heap _
            rw [eh1]
            exact Or.inl ⟨by first | (simp [own_hex, hp1, hc10_2, hc16_5, hc22_6, hc28_7]; done) | (simp [own_hex, hp1, hc10_2, hc16_5, hc22_6, hc28_7]; omega), rfl, N1, rfl⟩
      · skip
        refine Go.pre (fun _ k => XS.icmpYes X1.here hx rfl (pc0 := 16) (pc' := 31) rfl (hb hby d_method_8_16) rfl (flt (fun q => hc16_5 ((own_ol (a := 70) (b := cu) (by omega) (by omega)).mp q))).2.2.2 (by decide) (by decide) k) ?_
        show Go p e below _ (T1.setTop (mkF m 31 #[iv (Int32.ofNat cu)] []))
        refine Go.pre (fun _ k => XS.iconst X1.here hx rfl (hb hby d_method_8_31) k) ?_
        show Go p e below _ (T1.setTop (mkF m 32 #[iv (Int32.ofNat cu)] [(.int (1 : Int32))]))
        refine Go.pre (fun _ k => XS.goto X1.here hx rfl (pc0 := 32) (pc' := 36) rfl (hb hby d_method_8_32) (by decide) (by decide) k) ?_
        show Go p e below _ (T1.setTop (mkF m 36 #[iv (Int32.ofNat cu)] [(.int (1 : Int32))]))
        obtain ⟨fs, hr, hrun, hended, hW, hsame⟩ := X1.leave (v := some (.int (1 : Int32))) (fun h => by rw [Bd.returns] at h; cases h)
        refine Go.fin (retN X1 hx (t := .boolean) Bd.returns (by simp) (hb hby d_method_8_36) hr) ⟨hrun, hended, _, _, rfl, ?_, ⟨_, rfl⟩, hW, hsame.mono (by decide) (by decide)⟩
        show Q_hex Z cu h0 n0 _ T1.heap _
        rw [eh1]
        exact Or.inl ⟨by first | (simp [own_hex, hp1, hc10_2, hc16_5]; done) | (simp [own_hex, hp1, hc10_2, hc16_5]; omega), rfl, N1, rfl⟩

theorem ef_scheme (m : MethodId) (x0 : Int32) : entryFrame m #[(.int x0)] 1 = mkF m 0 #[iv x0] [] := by first | (simp [entryFrame, mkF, argsToLocals, Value.category]; done) | rfl
theorem pn_scheme : plainName "com/example/entayl/entayl/input/IriTableIsPlainIriPinLaw" = true := by first | (simp [plainName, overriddenIn]; done) | decide +kernel
def Q_scheme (Z : State) (cu : Nat) (h0 : Heap) (n0 : Nat) (v : Option Value) (h : Heap) (L : List Loc) : Prop := (own_scheme cu = true ∧ v = some (.int 1) ∧ Fr n0 L ∧ h = h0) ∨ (¬ own_scheme cu = true ∧ v = some (.int 0) ∧ Fr n0 L ∧ h = h0)
set_option maxRecDepth 65536 in
set_option maxHeartbeats 40000000 in
theorem rm_scheme (l : Launch) (Z : State) (a0 : Array Value) (hw : ∀ d ∈ tables_1, d.before a0 Z = true) (ws : List Jvm.Cond) (cu : Nat) (h0 : Heap) (n0 : Nat) (Z0 : n0 ≤ h0.size) (hc : cu < 256) :
    MetFree l (⟨"com/example/entayl/entayl/input/IriTableIsPlainIriPinLaw", "scheme", "(I)Z"⟩ : MethodName) (head1 (Jvm.Cond.code (⟨"com/example/entayl/entayl/input/IriTableIsPlainIriPinLaw", "scheme", "(I)Z"⟩ : MethodName) method_9_code 1 (some .boolean) :: ws) ({ frames := 1, cells := 0, slots := 0, locals := 12 } : Room)) (fun as_ U => as_ = #[(.int (Int32.ofNat cu))] ∧ Z.Warmed39 U.vm ∧ U.heap = h0) (fun _ _ _ _ _ => True) (fun _ U o U' => ∃ v L, o = .returned v ∧ Q_scheme Z cu h0 n0 v U'.heap L ∧ FrameEnd U o U' L ({ frames := 1, cells := 0, slots := 0, locals := 12 } : Room).cells ({ frames := 1, cells := 0, slots := 0, locals := 12 } : Room).slots) := by
  refine MetFree.of_bodySF (plainFor_of_name pn_scheme) hisR ?_
  intro p e s m args below meth c s₁ Bd hml0 hP hK
  obtain ⟨rfl, hZ, hh⟩ := hP
  have hx := Bd.exec
  have hby := Bd.bytes
  have hml : c.maxLocals = 1 := hml0
  have hown : s.vm.findClass "com/example/entayl/entayl/input/IriTableIsPlainIriPinLaw" = some m.cls := findClass_of_methodNamed Bd.named
  have hnm := (name_of_methodNamed Bd.named Bd.method).1
  have X0 : Stand p l e ({ frames := 1, cells := 0, slots := 0, locals := 12 } : Room) s m #[(.int (Int32.ofNat cu))] below meth c s₁ [] 0 0 := Stand.of_body Bd
  have e0 : s₁.heap = h0 := by rw [← hh, Bd.state]; rfl
  have N0 := Fr.nil n0
  refine Go.out ?_
  refine Go.pre (fun t k => castTop (ef_scheme m (Int32.ofNat cu)) k) ?_
  show Go p e below _ (s₁.setTop (mkF m 0 #[iv (Int32.ofNat cu)] []))
  refine Go.pre (fun _ k => XS.iloadN X0.here hx rfl (hb hby d_method_9_0) rfl k) ?_
  show Go p e below _ (s₁.setTop (mkF m 1 #[iv (Int32.ofNat cu)] [(.int (Int32.ofNat cu))]))
  obtain ⟨_, _, ⟨T1, L1, k1, n1⟩, -, X1, ⟨Lc1, hQ1, l1, y1, z1⟩, st1⟩ := Jvm.LawKit.callS X0 hx (y := (⟨"com/example/entayl/entayl/input/IriTableIsPlainIriPinLaw", "letter", "(I)Z"⟩ : MethodName)) hown (mvT hZ (hw _ (List.mem_of_getElem? (i := 30) rfl))) (mvT hZ (hw _ (List.mem_of_getElem? (i := 31) rfl))) (mvT hZ (hw _ (List.mem_of_getElem? (i := 19) rfl))) (mvT hZ (hw _ (List.mem_of_getElem? (i := 32) rfl))) (by decide) (backOf (W := 0) (rm_letter l Z a0 hw [] cu h0 n0 Z0 hc) hZ (hw _ (List.mem_of_getElem? (i := 32) rfl)) (hw _ (List.mem_of_getElem? (i := 19) rfl)) (by decide) (by decide)) (g := (mkF m 1 #[iv (Int32.ofNat cu)] [(.int (Int32.ofNat cu))])) rfl (by rw [hml]; rfl) (argsL := [(.int (Int32.ofNat cu))]) (rest := []) (lenOf pd_0 rfl) rfl (by show 2 * 0 + _ ≤ _; exact Nat.le_of_eq rfl) (hb hby d_method_9_1) (fun _ _ => ⟨rfl, e0, (by decide : 0 + 0 ≤ _), (by decide : 0 + 0 ≤ _)⟩)
  dsimp only [Pt.U, Pt.locs, Pt.cells, Pt.slots] at X1 l1 y1 z1 st1 hQ1
  subst l1 y1 z1
  refine Go.pre st1 ?_
  rcases hQ1 with ⟨hp1, rfl, N1q, eh1⟩ | ⟨hp1, rfl, N1q, eh1⟩
  · skip
    have N1 := Fr.app N0 N1q
    show Go p e below _ (T1.setTop (mkF m 4 #[iv (Int32.ofNat cu)] [(.int (1 : Int32))]))
    refine Go.pre (fun _ k => XS.ifYes X1.here hx rfl (pc0 := 4) (pc' := 32) rfl (hb hby d_method_9_4) rfl ((if0 _ _).trans (feq (by decide : ¬ ((1 : Int32) = (0 : Int32)))).2) (by decide) (by decide) k) ?_
    show Go p e below _ (T1.setTop (mkF m 32 #[iv (Int32.ofNat cu)] []))
    refine Go.pre (fun _ k => XS.iconst X1.here hx rfl (hb hby d_method_9_32) k) ?_
    show Go p e below _ (T1.setTop (mkF m 33 #[iv (Int32.ofNat cu)] [(.int (1 : Int32))]))
    refine Go.pre (fun _ k => XS.goto X1.here hx rfl (pc0 := 33) (pc' := 37) rfl (hb hby d_method_9_33) (by decide) (by decide) k) ?_
    show Go p e below _ (T1.setTop (mkF m 37 #[iv (Int32.ofNat cu)] [(.int (1 : Int32))]))
    obtain ⟨fs, hr, hrun, hended, hW, hsame⟩ := X1.leave (v := some (.int (1 : Int32))) (fun h => by rw [Bd.returns] at h; cases h)
    refine Go.fin (retN X1 hx (t := .boolean) Bd.returns (by simp) (hb hby d_method_9_37) hr) ⟨hrun, hended, _, _, rfl, ?_, ⟨_, rfl⟩, hW, hsame.mono (by decide) (by decide)⟩
    show Q_scheme Z cu h0 n0 _ T1.heap _
    rw [eh1]
    exact Or.inl ⟨by first | (simp [own_scheme, hp1]; done) | (simp [own_scheme, hp1]; omega), rfl, N1, rfl⟩
  · skip
    have N1 := Fr.app N0 N1q
    show Go p e below _ (T1.setTop (mkF m 4 #[iv (Int32.ofNat cu)] [(.int (0 : Int32))]))
    refine Go.pre (fun _ k => XS.ifNo X1.here hx rfl (hb hby d_method_9_4) rfl ((if0 _ _).trans (teq (by decide : (0 : Int32) = (0 : Int32))).2) k) ?_
    show Go p e below _ (T1.setTop (mkF m 7 #[iv (Int32.ofNat cu)] []))
    refine Go.pre (fun _ k => XS.iloadN X1.here hx rfl (hb hby d_method_9_7) rfl k) ?_
    show Go p e below _ (T1.setTop (mkF m 8 #[iv (Int32.ofNat cu)] [(.int (Int32.ofNat cu))]))
    obtain ⟨_, _, ⟨T2, L2, k2, n2⟩, -, X2, ⟨Lc2, hQ2, l2, y2, z2⟩, st2⟩ := Jvm.LawKit.callS X1 hx (y := (⟨"com/example/entayl/entayl/input/IriTableIsPlainIriPinLaw", "digit", "(I)Z"⟩ : MethodName)) hown (mvT hZ (hw _ (List.mem_of_getElem? (i := 33) rfl))) (mvT hZ (hw _ (List.mem_of_getElem? (i := 34) rfl))) (mvT hZ (hw _ (List.mem_of_getElem? (i := 19) rfl))) (mvT hZ (hw _ (List.mem_of_getElem? (i := 35) rfl))) (by decide) (backOf (W := 0) (rm_digit l Z a0 hw [] cu h0 n0 Z0 hc) hZ (hw _ (List.mem_of_getElem? (i := 35) rfl)) (hw _ (List.mem_of_getElem? (i := 19) rfl)) (by decide) (by decide)) (g := (mkF m 8 #[iv (Int32.ofNat cu)] [(.int (Int32.ofNat cu))])) rfl (by rw [hml]; rfl) (argsL := [(.int (Int32.ofNat cu))]) (rest := []) (lenOf pd_0 rfl) rfl (by show 2 * 0 + _ ≤ _; exact Nat.le_of_eq rfl) (hb hby d_method_9_8) (fun _ _ => ⟨rfl, eh1, (by decide : 0 + 0 ≤ _), (by decide : 0 + 0 ≤ _)⟩)
    dsimp only [Pt.U, Pt.locs, Pt.cells, Pt.slots] at X2 l2 y2 z2 st2 hQ2
    subst l2 y2 z2
    refine Go.pre st2 ?_
    rcases hQ2 with ⟨hp2, rfl, N2q, eh2⟩ | ⟨hp2, rfl, N2q, eh2⟩
    · skip
      have N2 := Fr.app N1 N2q
      show Go p e below _ (T2.setTop (mkF m 11 #[iv (Int32.ofNat cu)] [(.int (1 : Int32))]))
      refine Go.pre (fun _ k => XS.ifYes X2.here hx rfl (pc0 := 11) (pc' := 32) rfl (hb hby d_method_9_11) rfl ((if0 _ _).trans (feq (by decide : ¬ ((1 : Int32) = (0 : Int32)))).2) (by decide) (by decide) k) ?_
      show Go p e below _ (T2.setTop (mkF m 32 #[iv (Int32.ofNat cu)] []))
      refine Go.pre (fun _ k => XS.iconst X2.here hx rfl (hb hby d_method_9_32) k) ?_
      show Go p e below _ (T2.setTop (mkF m 33 #[iv (Int32.ofNat cu)] [(.int (1 : Int32))]))
      refine Go.pre (fun _ k => XS.goto X2.here hx rfl (pc0 := 33) (pc' := 37) rfl (hb hby d_method_9_33) (by decide) (by decide) k) ?_
      show Go p e below _ (T2.setTop (mkF m 37 #[iv (Int32.ofNat cu)] [(.int (1 : Int32))]))
      obtain ⟨fs, hr, hrun, hended, hW, hsame⟩ := X2.leave (v := some (.int (1 : Int32))) (fun h => by rw [Bd.returns] at h; cases h)
      refine Go.fin (retN X2 hx (t := .boolean) Bd.returns (by simp) (hb hby d_method_9_37) hr) ⟨hrun, hended, _, _, rfl, ?_, ⟨_, rfl⟩, hW, hsame.mono (by decide) (by decide)⟩
      show Q_scheme Z cu h0 n0 _ T2.heap _
      rw [eh2]
      exact Or.inl ⟨by first | (simp [own_scheme, hp1, hp2]; done) | (simp [own_scheme, hp1, hp2]; omega), rfl, N2, rfl⟩
    · skip
      have N2 := Fr.app N1 N2q
      show Go p e below _ (T2.setTop (mkF m 11 #[iv (Int32.ofNat cu)] [(.int (0 : Int32))]))
      refine Go.pre (fun _ k => XS.ifNo X2.here hx rfl (hb hby d_method_9_11) rfl ((if0 _ _).trans (teq (by decide : (0 : Int32) = (0 : Int32))).2) k) ?_
      show Go p e below _ (T2.setTop (mkF m 14 #[iv (Int32.ofNat cu)] []))
      refine Go.pre (fun _ k => XS.iloadN X2.here hx rfl (hb hby d_method_9_14) rfl k) ?_
      show Go p e below _ (T2.setTop (mkF m 15 #[iv (Int32.ofNat cu)] [(.int (Int32.ofNat cu))]))
      refine Go.pre (fun _ k => XS.bipush X2.here hx rfl (hb hby d_method_9_15) k) ?_
      show Go p e below _ (T2.setTop (mkF m 17 #[iv (Int32.ofNat cu)] [(.int (43 : Int32)), (.int (Int32.ofNat cu))]))
      by_cases hc17_3 : cu = 43
      · skip
        refine Go.pre (fun _ k => XS.icmpYes X2.here hx rfl (pc0 := 17) (pc' := 32) rfl (hb hby d_method_9_17) rfl (teq ((own_oe (a := cu) (b := 43) (by omega) (by omega)).mpr hc17_3)).1 (by decide) (by decide) k) ?_
        show Go p e below _ (T2.setTop (mkF m 32 #[iv (Int32.ofNat cu)] []))
        refine Go.pre (fun _ k => XS.iconst X2.here hx rfl (hb hby d_method_9_32) k) ?_
        show Go p e below _ (T2.setTop (mkF m 33 #[iv (Int32.ofNat cu)] [(.int (1 : Int32))]))
        refine Go.pre (fun _ k => XS.goto X2.here hx rfl (pc0 := 33) (pc' := 37) rfl (hb hby d_method_9_33) (by decide) (by decide) k) ?_
        show Go p e below _ (T2.setTop (mkF m 37 #[iv (Int32.ofNat cu)] [(.int (1 : Int32))]))
        obtain ⟨fs, hr, hrun, hended, hW, hsame⟩ := X2.leave (v := some (.int (1 : Int32))) (fun h => by rw [Bd.returns] at h; cases h)
        refine Go.fin (retN X2 hx (t := .boolean) Bd.returns (by simp) (hb hby d_method_9_37) hr) ⟨hrun, hended, _, _, rfl, ?_, ⟨_, rfl⟩, hW, hsame.mono (by decide) (by decide)⟩
        show Q_scheme Z cu h0 n0 _ T2.heap _
        rw [eh2]
        exact Or.inl ⟨by first | (simp [own_scheme, hp1, hp2, hc17_3]; done) | (simp [own_scheme, hp1, hp2, hc17_3]; omega), rfl, N2, rfl⟩
      · skip
        refine Go.pre (fun _ k => XS.icmpNo X2.here hx rfl (hb hby d_method_9_17) rfl (feq (fun q => hc17_3 ((own_oe (a := cu) (b := 43) (by omega) (by omega)).mp q))).1 k) ?_
        show Go p e below _ (T2.setTop (mkF m 20 #[iv (Int32.ofNat cu)] []))
        refine Go.pre (fun _ k => XS.iloadN X2.here hx rfl (hb hby d_method_9_20) rfl k) ?_
        show Go p e below _ (T2.setTop (mkF m 21 #[iv (Int32.ofNat cu)] [(.int (Int32.ofNat cu))]))
        refine Go.pre (fun _ k => XS.bipush X2.here hx rfl (hb hby d_method_9_21) k) ?_
        show Go p e below _ (T2.setTop (mkF m 23 #[iv (Int32.ofNat cu)] [(.int (45 : Int32)), (.int (Int32.ofNat cu))]))
        by_cases hc23_4 : cu = 45
        · skip
          refine Go.pre (fun _ k => XS.icmpYes X2.here hx rfl (pc0 := 23) (pc' := 32) rfl (hb hby d_method_9_23) rfl (teq ((own_oe (a := cu) (b := 45) (by omega) (by omega)).mpr hc23_4)).1 (by decide) (by decide) k) ?_
          show Go p e below _ (T2.setTop (mkF m 32 #[iv (Int32.ofNat cu)] []))
          refine Go.pre (fun _ k => XS.iconst X2.here hx rfl (hb hby d_method_9_32) k) ?_
          show Go p e below _ (T2.setTop (mkF m 33 #[iv (Int32.ofNat cu)] [(.int (1 : Int32))]))
          refine Go.pre (fun _ k => XS.goto X2.here hx rfl (pc0 := 33) (pc' := 37) rfl (hb hby d_method_9_33) (by decide) (by decide) k) ?_
          show Go p e below _ (T2.setTop (mkF m 37 #[iv (Int32.ofNat cu)] [(.int (1 : Int32))]))
          obtain ⟨fs, hr, hrun, hended, hW, hsame⟩ := X2.leave (v := some (.int (1 : Int32))) (fun h => by rw [Bd.returns] at h; cases h)
          refine Go.fin (retN X2 hx (t := .boolean) Bd.returns (by simp) (hb hby d_method_9_37) hr) ⟨hrun, hended, _, _, rfl, ?_, ⟨_, rfl⟩, hW, hsame.mono (by decide) (by decide)⟩
          show Q_scheme Z cu h0 n0 _ T2.heap _
          rw [eh2]
          exact Or.inl ⟨by first | (simp [own_scheme, hp1, hp2, hc17_3, hc23_4]; done) | (simp [own_scheme, hp1, hp2, hc17_3, hc23_4]; omega), rfl, N2, rfl⟩
        · skip
          refine Go.pre (fun _ k => XS.icmpNo X2.here hx rfl (hb hby d_method_9_23) rfl (feq (fun q => hc23_4 ((own_oe (a := cu) (b := 45) (by omega) (by omega)).mp q))).1 k) ?_
          show Go p e below _ (T2.setTop (mkF m 26 #[iv (Int32.ofNat cu)] []))
          refine Go.pre (fun _ k => XS.iloadN X2.here hx rfl (hb hby d_method_9_26) rfl k) ?_
          show Go p e below _ (T2.setTop (mkF m 27 #[iv (Int32.ofNat cu)] [(.int (Int32.ofNat cu))]))
          refine Go.pre (fun _ k => XS.bipush X2.here hx rfl (hb hby d_method_9_27) k) ?_
          show Go p e below _ (T2.setTop (mkF m 29 #[iv (Int32.ofNat cu)] [(.int (46 : Int32)), (.int (Int32.ofNat cu))]))
          by_cases hc29_5 : cu = 46
          · skip
            refine Go.pre (fun _ k => XS.icmpNo X2.here hx rfl (hb hby d_method_9_29) rfl (teq ((own_oe (a := cu) (b := 46) (by omega) (by omega)).mpr hc29_5)).2 k) ?_
            show Go p e below _ (T2.setTop (mkF m 32 #[iv (Int32.ofNat cu)] []))
            refine Go.pre (fun _ k => XS.iconst X2.here hx rfl (hb hby d_method_9_32) k) ?_
            show Go p e below _ (T2.setTop (mkF m 33 #[iv (Int32.ofNat cu)] [(.int (1 : Int32))]))
            refine Go.pre (fun _ k => XS.goto X2.here hx rfl (pc0 := 33) (pc' := 37) rfl (hb hby d_method_9_33) (by decide) (by decide) k) ?_
            show Go p e below _ (T2.setTop (mkF m 37 #[iv (Int32.ofNat cu)] [(.int (1 : Int32))]))
            obtain ⟨fs, hr, hrun, hended, hW, hsame⟩ := X2.leave (v := some (.int (1 : Int32))) (fun h => by rw [Bd.returns] at h; cases h)
            refine Go.fin (retN X2 hx (t := .boolean) Bd.returns (by simp) (hb hby d_method_9_37) hr) ⟨hrun, hended, _, _, rfl, ?_, ⟨_, rfl⟩, hW, hsame.mono (by decide) (by decide)⟩
            show Q_scheme Z cu h0 n0 _ T2.heap _
            rw [eh2]
            exact Or.inl ⟨by first | (simp [own_scheme, hp1, hp2, hc17_3, hc23_4, hc29_5]; done) | (simp [own_scheme, hp1, hp2, hc17_3, hc23_4, hc29_5]; omega), rfl, N2, rfl⟩
          · skip
            refine Go.pre (fun _ k => XS.icmpYes X2.here hx rfl (pc0 := 29) (pc' := 36) rfl (hb hby d_method_9_29) rfl (feq (fun q => hc29_5 ((own_oe (a := cu) (b := 46) (by omega) (by omega)).mp q))).2 (by decide) (by decide) k) ?_
            show Go p e below _ (T2.setTop (mkF m 36 #[iv (Int32.ofNat cu)] []))
            refine Go.pre (fun _ k => XS.iconst X2.here hx rfl (hb hby d_method_9_36) k) ?_
            show Go p e below _ (T2.setTop (mkF m 37 #[iv (Int32.ofNat cu)] [(.int (0 : Int32))]))
            obtain ⟨fs, hr, hrun, hended, hW, hsame⟩ := X2.leave (v := some (.int (0 : Int32))) (fun h => by rw [Bd.returns] at h; cases h)
            refine Go.fin (retN X2 hx (t := .boolean) Bd.returns (by simp) (hb hby d_method_9_37) hr) ⟨hrun, hended, _, _, rfl, ?_, ⟨_, rfl⟩, hW, hsame.mono (by decide) (by decide)⟩
            show Q_scheme Z cu h0 n0 _ T2.heap _
            rw [eh2]
            exact Or.inr ⟨by first | (simp [own_scheme, hp1, hp2, hc17_3, hc23_4, hc29_5]; done) | (simp [own_scheme, hp1, hp2, hc17_3, hc23_4, hc29_5]; omega), rfl, N2, rfl⟩

theorem ef_host (m : MethodId) (x0 : Int32) : entryFrame m #[(.int x0)] 1 = mkF m 0 #[iv x0] [] := by first | (simp [entryFrame, mkF, argsToLocals, Value.category]; done) | rfl
theorem pn_host : plainName "com/example/entayl/entayl/input/IriTableIsPlainIriPinLaw" = true := by first | (simp [plainName, overriddenIn]; done) | decide +kernel
def Q_host (Z : State) (cu : Nat) (h0 : Heap) (n0 : Nat) (v : Option Value) (h : Heap) (L : List Loc) : Prop := (own_host cu = true ∧ v = some (.int 1) ∧ Fr n0 L ∧ h = h0) ∨ (¬ own_host cu = true ∧ v = some (.int 0) ∧ Fr n0 L ∧ h = h0)
set_option maxRecDepth 65536 in
set_option maxHeartbeats 40000000 in
theorem rm_host (l : Launch) (Z : State) (a0 : Array Value) (hw : ∀ d ∈ tables_1, d.before a0 Z = true) (ws : List Jvm.Cond) (cu : Nat) (h0 : Heap) (n0 : Nat) (Z0 : n0 ≤ h0.size) (hc : cu < 256) :
    MetFree l (⟨"com/example/entayl/entayl/input/IriTableIsPlainIriPinLaw", "host", "(I)Z"⟩ : MethodName) (head1 (Jvm.Cond.code (⟨"com/example/entayl/entayl/input/IriTableIsPlainIriPinLaw", "host", "(I)Z"⟩ : MethodName) method_10_code 1 (some .boolean) :: ws) ({ frames := 1, cells := 0, slots := 0, locals := 12 } : Room)) (fun as_ U => as_ = #[(.int (Int32.ofNat cu))] ∧ Z.Warmed39 U.vm ∧ U.heap = h0) (fun _ _ _ _ _ => True) (fun _ U o U' => ∃ v L, o = .returned v ∧ Q_host Z cu h0 n0 v U'.heap L ∧ FrameEnd U o U' L ({ frames := 1, cells := 0, slots := 0, locals := 12 } : Room).cells ({ frames := 1, cells := 0, slots := 0, locals := 12 } : Room).slots) := by
  refine MetFree.of_bodySF (plainFor_of_name pn_host) hisR ?_
  intro p e s m args below meth c s₁ Bd hml0 hP hK
  obtain ⟨rfl, hZ, hh⟩ := hP
  have hx := Bd.exec
  have hby := Bd.bytes
  have hml : c.maxLocals = 1 := hml0
  have hown : s.vm.findClass "com/example/entayl/entayl/input/IriTableIsPlainIriPinLaw" = some m.cls := findClass_of_methodNamed Bd.named
  have hnm := (name_of_methodNamed Bd.named Bd.method).1
  have X0 : Stand p l e ({ frames := 1, cells := 0, slots := 0, locals := 12 } : Room) s m #[(.int (Int32.ofNat cu))] below meth c s₁ [] 0 0 := Stand.of_body Bd
  have e0 : s₁.heap = h0 := by rw [← hh, Bd.state]; rfl
  have N0 := Fr.nil n0
  refine Go.out ?_
  refine Go.pre (fun t k => castTop (ef_host m (Int32.ofNat cu)) k) ?_
  show Go p e below _ (s₁.setTop (mkF m 0 #[iv (Int32.ofNat cu)] []))
  refine Go.pre (fun _ k => XS.iloadN X0.here hx rfl (hb hby d_method_10_0) rfl k) ?_
  show Go p e below _ (s₁.setTop (mkF m 1 #[iv (Int32.ofNat cu)] [(.int (Int32.ofNat cu))]))
  obtain ⟨_, _, ⟨T1, L1, k1, n1⟩, -, X1, ⟨Lc1, hQ1, l1, y1, z1⟩, st1⟩ := Jvm.LawKit.callS X0 hx (y := (⟨"com/example/entayl/entayl/input/IriTableIsPlainIriPinLaw", "letter", "(I)Z"⟩ : MethodName)) hown (mvT hZ (hw _ (List.mem_of_getElem? (i := 30) rfl))) (mvT hZ (hw _ (List.mem_of_getElem? (i := 31) rfl))) (mvT hZ (hw _ (List.mem_of_getElem? (i := 19) rfl))) (mvT hZ (hw _ (List.mem_of_getElem? (i := 32) rfl))) (by decide) (backOf (W := 0) (rm_letter l Z a0 hw [] cu h0 n0 Z0 hc) hZ (hw _ (List.mem_of_getElem? (i := 32) rfl)) (hw _ (List.mem_of_getElem? (i := 19) rfl)) (by decide) (by decide)) (g := (mkF m 1 #[iv (Int32.ofNat cu)] [(.int (Int32.ofNat cu))])) rfl (by rw [hml]; rfl) (argsL := [(.int (Int32.ofNat cu))]) (rest := []) (lenOf pd_0 rfl) rfl (by show 2 * 0 + _ ≤ _; exact Nat.le_of_eq rfl) (hb hby d_method_10_1) (fun _ _ => ⟨rfl, e0, (by decide : 0 + 0 ≤ _), (by decide : 0 + 0 ≤ _)⟩)
  dsimp only [Pt.U, Pt.locs, Pt.cells, Pt.slots] at X1 l1 y1 z1 st1 hQ1
  subst l1 y1 z1
  refine Go.pre st1 ?_
  rcases hQ1 with ⟨hp1, rfl, N1q, eh1⟩ | ⟨hp1, rfl, N1q, eh1⟩
  · skip
    have N1 := Fr.app N0 N1q
    show Go p e below _ (T1.setTop (mkF m 4 #[iv (Int32.ofNat cu)] [(.int (1 : Int32))]))
    refine Go.pre (fun _ k => XS.ifYes X1.here hx rfl (pc0 := 4) (pc' := 104) rfl (hb hby d_method_10_4) rfl ((if0 _ _).trans (feq (by decide : ¬ ((1 : Int32) = (0 : Int32)))).2) (by decide) (by decide) k) ?_
    show Go p e below _ (T1.setTop (mkF m 104 #[iv (Int32.ofNat cu)] []))
    refine Go.pre (fun _ k => XS.iconst X1.here hx rfl (hb hby d_method_10_104) k) ?_
    show Go p e below _ (T1.setTop (mkF m 105 #[iv (Int32.ofNat cu)] [(.int (1 : Int32))]))
    refine Go.pre (fun _ k => XS.goto X1.here hx rfl (pc0 := 105) (pc' := 109) rfl (hb hby d_method_10_105) (by decide) (by decide) k) ?_
    show Go p e below _ (T1.setTop (mkF m 109 #[iv (Int32.ofNat cu)] [(.int (1 : Int32))]))
    obtain ⟨fs, hr, hrun, hended, hW, hsame⟩ := X1.leave (v := some (.int (1 : Int32))) (fun h => by rw [Bd.returns] at h; cases h)
    refine Go.fin (retN X1 hx (t := .boolean) Bd.returns (by simp) (hb hby d_method_10_109) hr) ⟨hrun, hended, _, _, rfl, ?_, ⟨_, rfl⟩, hW, hsame.mono (by decide) (by decide)⟩
    show Q_host Z cu h0 n0 _ T1.heap _
    rw [eh1]
    exact Or.inl ⟨by first | (simp [own_host, hp1]; done) | (simp [own_host, hp1]; omega), rfl, N1, rfl⟩
  · skip
    have N1 := Fr.app N0 N1q
    show Go p e below _ (T1.setTop (mkF m 4 #[iv (Int32.ofNat cu)] [(.int (0 : Int32))]))
    refine Go.pre (fun _ k => XS.ifNo X1.here hx rfl (hb hby d_method_10_4) rfl ((if0 _ _).trans (teq (by decide : (0 : Int32) = (0 : Int32))).2) k) ?_
    show Go p e below _ (T1.setTop (mkF m 7 #[iv (Int32.ofNat cu)] []))
    refine Go.pre (fun _ k => XS.iloadN X1.here hx rfl (hb hby d_method_10_7) rfl k) ?_
    show Go p e below _ (T1.setTop (mkF m 8 #[iv (Int32.ofNat cu)] [(.int (Int32.ofNat cu))]))
    obtain ⟨_, _, ⟨T2, L2, k2, n2⟩, -, X2, ⟨Lc2, hQ2, l2, y2, z2⟩, st2⟩ := Jvm.LawKit.callS X1 hx (y := (⟨"com/example/entayl/entayl/input/IriTableIsPlainIriPinLaw", "digit", "(I)Z"⟩ : MethodName)) hown (mvT hZ (hw _ (List.mem_of_getElem? (i := 33) rfl))) (mvT hZ (hw _ (List.mem_of_getElem? (i := 34) rfl))) (mvT hZ (hw _ (List.mem_of_getElem? (i := 19) rfl))) (mvT hZ (hw _ (List.mem_of_getElem? (i := 35) rfl))) (by decide) (backOf (W := 0) (rm_digit l Z a0 hw [] cu h0 n0 Z0 hc) hZ (hw _ (List.mem_of_getElem? (i := 35) rfl)) (hw _ (List.mem_of_getElem? (i := 19) rfl)) (by decide) (by decide)) (g := (mkF m 8 #[iv (Int32.ofNat cu)] [(.int (Int32.ofNat cu))])) rfl (by rw [hml]; rfl) (argsL := [(.int (Int32.ofNat cu))]) (rest := []) (lenOf pd_0 rfl) rfl (by show 2 * 0 + _ ≤ _; exact Nat.le_of_eq rfl) (hb hby d_method_10_8) (fun _ _ => ⟨rfl, eh1, (by decide : 0 + 0 ≤ _), (by decide : 0 + 0 ≤ _)⟩)
    dsimp only [Pt.U, Pt.locs, Pt.cells, Pt.slots] at X2 l2 y2 z2 st2 hQ2
    subst l2 y2 z2
    refine Go.pre st2 ?_
    rcases hQ2 with ⟨hp2, rfl, N2q, eh2⟩ | ⟨hp2, rfl, N2q, eh2⟩
    · skip
      have N2 := Fr.app N1 N2q
      show Go p e below _ (T2.setTop (mkF m 11 #[iv (Int32.ofNat cu)] [(.int (1 : Int32))]))
      refine Go.pre (fun _ k => XS.ifYes X2.here hx rfl (pc0 := 11) (pc' := 104) rfl (hb hby d_method_10_11) rfl ((if0 _ _).trans (feq (by decide : ¬ ((1 : Int32) = (0 : Int32)))).2) (by decide) (by decide) k) ?_
      show Go p e below _ (T2.setTop (mkF m 104 #[iv (Int32.ofNat cu)] []))
      refine Go.pre (fun _ k => XS.iconst X2.here hx rfl (hb hby d_method_10_104) k) ?_
      show Go p e below _ (T2.setTop (mkF m 105 #[iv (Int32.ofNat cu)] [(.int (1 : Int32))]))
      refine Go.pre (fun _ k => XS.goto X2.here hx rfl (pc0 := 105) (pc' := 109) rfl (hb hby d_method_10_105) (by decide) (by decide) k) ?_
      show Go p e below _ (T2.setTop (mkF m 109 #[iv (Int32.ofNat cu)] [(.int (1 : Int32))]))
      obtain ⟨fs, hr, hrun, hended, hW, hsame⟩ := X2.leave (v := some (.int (1 : Int32))) (fun h => by rw [Bd.returns] at h; cases h)
      refine Go.fin (retN X2 hx (t := .boolean) Bd.returns (by simp) (hb hby d_method_10_109) hr) ⟨hrun, hended, _, _, rfl, ?_, ⟨_, rfl⟩, hW, hsame.mono (by decide) (by decide)⟩
      show Q_host Z cu h0 n0 _ T2.heap _
      rw [eh2]
      exact Or.inl ⟨by first | (simp [own_host, hp1, hp2]; done) | (simp [own_host, hp1, hp2]; omega), rfl, N2, rfl⟩
    · skip
      have N2 := Fr.app N1 N2q
      show Go p e below _ (T2.setTop (mkF m 11 #[iv (Int32.ofNat cu)] [(.int (0 : Int32))]))
      refine Go.pre (fun _ k => XS.ifNo X2.here hx rfl (hb hby d_method_10_11) rfl ((if0 _ _).trans (teq (by decide : (0 : Int32) = (0 : Int32))).2) k) ?_
      show Go p e below _ (T2.setTop (mkF m 14 #[iv (Int32.ofNat cu)] []))
      refine Go.pre (fun _ k => XS.iloadN X2.here hx rfl (hb hby d_method_10_14) rfl k) ?_
      show Go p e below _ (T2.setTop (mkF m 15 #[iv (Int32.ofNat cu)] [(.int (Int32.ofNat cu))]))
      refine Go.pre (fun _ k => XS.bipush X2.here hx rfl (hb hby d_method_10_15) k) ?_
      show Go p e below _ (T2.setTop (mkF m 17 #[iv (Int32.ofNat cu)] [(.int (45 : Int32)), (.int (Int32.ofNat cu))]))
      by_cases hc17_3 : cu = 45
      · skip
        refine Go.pre (fun _ k => XS.icmpYes X2.here hx rfl (pc0 := 17) (pc' := 104) rfl (hb hby d_method_10_17) rfl (teq ((own_oe (a := cu) (b := 45) (by omega) (by omega)).mpr hc17_3)).1 (by decide) (by decide) k) ?_
        show Go p e below _ (T2.setTop (mkF m 104 #[iv (Int32.ofNat cu)] []))
        refine Go.pre (fun _ k => XS.iconst X2.here hx rfl (hb hby d_method_10_104) k) ?_
        show Go p e below _ (T2.setTop (mkF m 105 #[iv (Int32.ofNat cu)] [(.int (1 : Int32))]))
        refine Go.pre (fun _ k => XS.goto X2.here hx rfl (pc0 := 105) (pc' := 109) rfl (hb hby d_method_10_105) (by decide) (by decide) k) ?_
        show Go p e below _ (T2.setTop (mkF m 109 #[iv (Int32.ofNat cu)] [(.int (1 : Int32))]))
        obtain ⟨fs, hr, hrun, hended, hW, hsame⟩ := X2.leave (v := some (.int (1 : Int32))) (fun h => by rw [Bd.returns] at h; cases h)
        refine Go.fin (retN X2 hx (t := .boolean) Bd.returns (by simp) (hb hby d_method_10_109) hr) ⟨hrun, hended, _, _, rfl, ?_, ⟨_, rfl⟩, hW, hsame.mono (by decide) (by decide)⟩
        show Q_host Z cu h0 n0 _ T2.heap _
        rw [eh2]
        exact Or.inl ⟨by first | (simp [own_host, hp1, hp2, hc17_3]; done) | (simp [own_host, hp1, hp2, hc17_3]; omega), rfl, N2, rfl⟩
      · skip
        refine Go.pre (fun _ k => XS.icmpNo X2.here hx rfl (hb hby d_method_10_17) rfl (feq (fun q => hc17_3 ((own_oe (a := cu) (b := 45) (by omega) (by omega)).mp q))).1 k) ?_
        show Go p e below _ (T2.setTop (mkF m 20 #[iv (Int32.ofNat cu)] []))
        refine Go.pre (fun _ k => XS.iloadN X2.here hx rfl (hb hby d_method_10_20) rfl k) ?_
        show Go p e below _ (T2.setTop (mkF m 21 #[iv (Int32.ofNat cu)] [(.int (Int32.ofNat cu))]))
        refine Go.pre (fun _ k => XS.bipush X2.here hx rfl (hb hby d_method_10_21) k) ?_
        show Go p e below _ (T2.setTop (mkF m 23 #[iv (Int32.ofNat cu)] [(.int (46 : Int32)), (.int (Int32.ofNat cu))]))
        by_cases hc23_4 : cu = 46
        · skip
          refine Go.pre (fun _ k => XS.icmpYes X2.here hx rfl (pc0 := 23) (pc' := 104) rfl (hb hby d_method_10_23) rfl (teq ((own_oe (a := cu) (b := 46) (by omega) (by omega)).mpr hc23_4)).1 (by decide) (by decide) k) ?_
          show Go p e below _ (T2.setTop (mkF m 104 #[iv (Int32.ofNat cu)] []))
          refine Go.pre (fun _ k => XS.iconst X2.here hx rfl (hb hby d_method_10_104) k) ?_
          show Go p e below _ (T2.setTop (mkF m 105 #[iv (Int32.ofNat cu)] [(.int (1 : Int32))]))
          refine Go.pre (fun _ k => XS.goto X2.here hx rfl (pc0 := 105) (pc' := 109) rfl (hb hby d_method_10_105) (by decide) (by decide) k) ?_
          show Go p e below _ (T2.setTop (mkF m 109 #[iv (Int32.ofNat cu)] [(.int (1 : Int32))]))
          obtain ⟨fs, hr, hrun, hended, hW, hsame⟩ := X2.leave (v := some (.int (1 : Int32))) (fun h => by rw [Bd.returns] at h; cases h)
          refine Go.fin (retN X2 hx (t := .boolean) Bd.returns (by simp) (hb hby d_method_10_109) hr) ⟨hrun, hended, _, _, rfl, ?_, ⟨_, rfl⟩, hW, hsame.mono (by decide) (by decide)⟩
          show Q_host Z cu h0 n0 _ T2.heap _
          rw [eh2]
          exact Or.inl ⟨by first | (simp [own_host, hp1, hp2, hc17_3, hc23_4]; done) | (simp [own_host, hp1, hp2, hc17_3, hc23_4]; omega), rfl, N2, rfl⟩
        · skip
          refine Go.pre (fun _ k => XS.icmpNo X2.here hx rfl (hb hby d_method_10_23) rfl (feq (fun q => hc23_4 ((own_oe (a := cu) (b := 46) (by omega) (by omega)).mp q))).1 k) ?_
          show Go p e below _ (T2.setTop (mkF m 26 #[iv (Int32.ofNat cu)] []))
          refine Go.pre (fun _ k => XS.iloadN X2.here hx rfl (hb hby d_method_10_26) rfl k) ?_
          show Go p e below _ (T2.setTop (mkF m 27 #[iv (Int32.ofNat cu)] [(.int (Int32.ofNat cu))]))
          refine Go.pre (fun _ k => XS.bipush X2.here hx rfl (hb hby d_method_10_27) k) ?_
          show Go p e below _ (T2.setTop (mkF m 29 #[iv (Int32.ofNat cu)] [(.int (95 : Int32)), (.int (Int32.ofNat cu))]))
          by_cases hc29_5 : cu = 95
          · skip
            refine Go.pre (fun _ k => XS.icmpYes X2.here hx rfl (pc0 := 29) (pc' := 104) rfl (hb hby d_method_10_29) rfl (teq ((own_oe (a := cu) (b := 95) (by omega) (by omega)).mpr hc29_5)).1 (by decide) (by decide) k) ?_
            show Go p e below _ (T2.setTop (mkF m 104 #[iv (Int32.ofNat cu)] []))
            refine Go.pre (fun _ k => XS.iconst X2.here hx rfl (hb hby d_method_10_104) k) ?_
            show Go p e below _ (T2.setTop (mkF m 105 #[iv (Int32.ofNat cu)] [(.int (1 : Int32))]))
            refine Go.pre (fun _ k => XS.goto X2.here hx rfl (pc0 := 105) (pc' := 109) rfl (hb hby d_method_10_105) (by decide) (by decide) k) ?_
            show Go p e below _ (T2.setTop (mkF m 109 #[iv (Int32.ofNat cu)] [(.int (1 : Int32))]))
            obtain ⟨fs, hr, hrun, hended, hW, hsame⟩ := X2.leave (v := some (.int (1 : Int32))) (fun h => by rw [Bd.returns] at h; cases h)
            refine Go.fin (retN X2 hx (t := .boolean) Bd.returns (by simp) (hb hby d_method_10_109) hr) ⟨hrun, hended, _, _, rfl, ?_, ⟨_, rfl⟩, hW, hsame.mono (by decide) (by decide)⟩
            show Q_host Z cu h0 n0 _ T2.heap _
            rw [eh2]
            exact Or.inl ⟨by first | (simp [own_host, hp1, hp2, hc17_3, hc23_4, hc29_5]; done) | (simp [own_host, hp1, hp2, hc17_3, hc23_4, hc29_5]; omega), rfl, N2, rfl⟩
          · skip
            refine Go.pre (fun _ k => XS.icmpNo X2.here hx rfl (hb hby d_method_10_29) rfl (feq (fun q => hc29_5 ((own_oe (a := cu) (b := 95) (by omega) (by omega)).mp q))).1 k) ?_
            show Go p e below _ (T2.setTop (mkF m 32 #[iv (Int32.ofNat cu)] []))
            refine Go.pre (fun _ k => XS.iloadN X2.here hx rfl (hb hby d_method_10_32) rfl k) ?_
            show Go p e below _ (T2.setTop (mkF m 33 #[iv (Int32.ofNat cu)] [(.int (Int32.ofNat cu))]))
            refine Go.pre (fun _ k => XS.bipush X2.here hx rfl (hb hby d_method_10_33) k) ?_
            show Go p e below _ (T2.setTop (mkF m 35 #[iv (Int32.ofNat cu)] [(.int (126 : Int32)), (.int (Int32.ofNat cu))]))
            by_cases hc35_6 : cu = 126
            · skip
              refine Go.pre (fun _ k => XS.icmpYes X2.here hx rfl (pc0 := 35) (pc' := 104) rfl (hb hby d_method_10_35) rfl (teq ((own_oe (a := cu) (b := 126) (by omega) (by omega)).mpr hc35_6)).1 (by decide) (by decide) k) ?_
              show Go p e below _ (T2.setTop (mkF m 104 #[iv (Int32.ofNat cu)] []))
              refine Go.pre (fun _ k => XS.iconst X2.here hx rfl (hb hby d_method_10_104) k) ?_
              show Go p e below _ (T2.setTop (mkF m 105 #[iv (Int32.ofNat cu)] [(.int (1 : Int32))]))
              refine Go.pre (fun _ k => XS.goto X2.here hx rfl (pc0 := 105) (pc' := 109) rfl (hb hby d_method_10_105) (by decide) (by decide) k) ?_
              show Go p e below _ (T2.setTop (mkF m 109 #[iv (Int32.ofNat cu)] [(.int (1 : Int32))]))
              obtain ⟨fs, hr, hrun, hended, hW, hsame⟩ := X2.leave (v := some (.int (1 : Int32))) (fun h => by rw [Bd.returns] at h; cases h)
              refine Go.fin (retN X2 hx (t := .boolean) Bd.returns (by simp) (hb hby d_method_10_109) hr) ⟨hrun, hended, _, _, rfl, ?_, ⟨_, rfl⟩, hW, hsame.mono (by decide) (by decide)⟩
              show Q_host Z cu h0 n0 _ T2.heap _
              rw [eh2]
              exact Or.inl ⟨by first | (simp [own_host, hp1, hp2, hc17_3, hc23_4, hc29_5, hc35_6]; done) | (simp [own_host, hp1, hp2, hc17_3, hc23_4, hc29_5, hc35_6]; omega), rfl, N2, rfl⟩
            · skip
              refine Go.pre (fun _ k => XS.icmpNo X2.here hx rfl (hb hby d_method_10_35) rfl (feq (fun q => hc35_6 ((own_oe (a := cu) (b := 126) (by omega) (by omega)).mp q))).1 k) ?_
              show Go p e below _ (T2.setTop (mkF m 38 #[iv (Int32.ofNat cu)] []))
              refine Go.pre (fun _ k => XS.iloadN X2.here hx rfl (hb hby d_method_10_38) rfl k) ?_
              show Go p e below _ (T2.setTop (mkF m 39 #[iv (Int32.ofNat cu)] [(.int (Int32.ofNat cu))]))
              refine Go.pre (fun _ k => XS.bipush X2.here hx rfl (hb hby d_method_10_39) k) ?_
              show Go p e below _ (T2.setTop (mkF m 41 #[iv (Int32.ofNat cu)] [(.int (33 : Int32)), (.int (Int32.ofNat cu))]))
              by_cases hc41_7 : cu = 33
              · skip
                refine Go.pre (fun _ k => XS.icmpYes X2.here hx rfl (pc0 := 41) (pc' := 104) rfl (hb hby d_method_10_41) rfl (teq ((own_oe (a := cu) (b := 33) (by omega) (by omega)).mpr hc41_7)).1 (by decide) (by decide) k) ?_
                show Go p e below _ (T2.setTop (mkF m 104 #[iv (Int32.ofNat cu)] []))
                refine Go.pre (fun _ k => XS.iconst X2.here hx rfl (hb hby d_method_10_104) k) ?_
                show Go p e below _ (T2.setTop (mkF m 105 #[iv (Int32.ofNat cu)] [(.int (1 : Int32))]))
                refine Go.pre (fun _ k => XS.goto X2.here hx rfl (pc0 := 105) (pc' := 109) rfl (hb hby d_method_10_105) (by decide) (by decide) k) ?_
                show Go p e below _ (T2.setTop (mkF m 109 #[iv (Int32.ofNat cu)] [(.int (1 : Int32))]))
                obtain ⟨fs, hr, hrun, hended, hW, hsame⟩ := X2.leave (v := some (.int (1 : Int32))) (fun h => by rw [Bd.returns] at h; cases h)
                refine Go.fin (retN X2 hx (t := .boolean) Bd.returns (by simp) (hb hby d_method_10_109) hr) ⟨hrun, hended, _, _, rfl, ?_, ⟨_, rfl⟩, hW, hsame.mono (by decide) (by decide)⟩
                show Q_host Z cu h0 n0 _ T2.heap _
                rw [eh2]
                exact Or.inl ⟨by first | (simp [own_host, hp1, hp2, hc17_3, hc23_4, hc29_5, hc35_6, hc41_7]; done) | (simp [own_host, hp1, hp2, hc17_3, hc23_4, hc29_5, hc35_6, hc41_7]; omega), rfl, N2, rfl⟩
              · skip
                refine Go.pre (fun _ k => XS.icmpNo X2.here hx rfl (hb hby d_method_10_41) rfl (feq (fun q => hc41_7 ((own_oe (a := cu) (b := 33) (by omega) (by omega)).mp q))).1 k) ?_
                show Go p e below _ (T2.setTop (mkF m 44 #[iv (Int32.ofNat cu)] []))
                refine Go.pre (fun _ k => XS.iloadN X2.here hx rfl (hb hby d_method_10_44) rfl k) ?_
                show Go p e below _ (T2.setTop (mkF m 45 #[iv (Int32.ofNat cu)] [(.int (Int32.ofNat cu))]))
                refine Go.pre (fun _ k => XS.bipush X2.here hx rfl (hb hby d_method_10_45) k) ?_
                show Go p e below _ (T2.setTop (mkF m 47 #[iv (Int32.ofNat cu)] [(.int (36 : Int32)), (.int (Int32.ofNat cu))]))
                by_cases hc47_8 : cu = 36
                · skip
                  refine Go.pre (fun _ k => XS.icmpYes X2.here hx rfl (pc0 := 47) (pc' := 104) rfl (hb hby d_method_10_47) rfl (teq ((own_oe (a := cu) (b := 36) (by omega) (by omega)).mpr hc47_8)).1 (by decide) (by decide) k) ?_
                  show Go p e below _ (T2.setTop (mkF m 104 #[iv (Int32.ofNat cu)] []))
                  refine Go.pre (fun _ k => XS.iconst X2.here hx rfl (hb hby d_method_10_104) k) ?_
                  show Go p e below _ (T2.setTop (mkF m 105 #[iv (Int32.ofNat cu)] [(.int (1 : Int32))]))
                  refine Go.pre (fun _ k => XS.goto X2.here hx rfl (pc0 := 105) (pc' := 109) rfl (hb hby d_method_10_105) (by decide) (by decide) k) ?_
                  show Go p e below _ (T2.setTop (mkF m 109 #[iv (Int32.ofNat cu)] [(.int (1 : Int32))]))
                  obtain ⟨fs, hr, hrun, hended, hW, hsame⟩ := X2.leave (v := some (.int (1 : Int32))) (fun h => by rw [Bd.returns] at h; cases h)
                  refine Go.fin (retN X2 hx (t := .boolean) Bd.returns (by simp) (hb hby d_method_10_109) hr) ⟨hrun, hended, _, _, rfl, ?_, ⟨_, rfl⟩, hW, hsame.mono (by decide) (by decide)⟩
                  show Q_host Z cu h0 n0 _ T2.heap _
                  rw [eh2]
                  exact Or.inl ⟨by first | (simp [own_host, hp1, hp2, hc17_3, hc23_4, hc29_5, hc35_6, hc41_7, hc47_8]; done) | (simp [own_host, hp1, hp2, hc17_3, hc23_4, hc29_5, hc35_6, hc41_7, hc47_8]; omega), rfl, N2, rfl⟩
                · skip
                  refine Go.pre (fun _ k => XS.icmpNo X2.here hx rfl (hb hby d_method_10_47) rfl (feq (fun q => hc47_8 ((own_oe (a := cu) (b := 36) (by omega) (by omega)).mp q))).1 k) ?_
                  show Go p e below _ (T2.setTop (mkF m 50 #[iv (Int32.ofNat cu)] []))
                  refine Go.pre (fun _ k => XS.iloadN X2.here hx rfl (hb hby d_method_10_50) rfl k) ?_
                  show Go p e below _ (T2.setTop (mkF m 51 #[iv (Int32.ofNat cu)] [(.int (Int32.ofNat cu))]))
                  refine Go.pre (fun _ k => XS.bipush X2.here hx rfl (hb hby d_method_10_51) k) ?_
                  show Go p e below _ (T2.setTop (mkF m 53 #[iv (Int32.ofNat cu)] [(.int (38 : Int32)), (.int (Int32.ofNat cu))]))
                  by_cases hc53_9 : cu = 38
                  · skip
                    refine Go.pre (fun _ k => XS.icmpYes X2.here hx rfl (pc0 := 53) (pc' := 104) rfl (hb hby d_method_10_53) rfl (teq ((own_oe (a := cu) (b := 38) (by omega) (by omega)).mpr hc53_9)).1 (by decide) (by decide) k) ?_
                    show Go p e below _ (T2.setTop (mkF m 104 #[iv (Int32.ofNat cu)] []))
                    refine Go.pre (fun _ k => XS.iconst X2.here hx rfl (hb hby d_method_10_104) k) ?_
                    show Go p e below _ (T2.setTop (mkF m 105 #[iv (Int32.ofNat cu)] [(.int (1 : Int32))]))
                    refine Go.pre (fun _ k => XS.goto X2.here hx rfl (pc0 := 105) (pc' := 109) rfl (hb hby d_method_10_105) (by decide) (by decide) k) ?_
                    show Go p e below _ (T2.setTop (mkF m 109 #[iv (Int32.ofNat cu)] [(.int (1 : Int32))]))
                    obtain ⟨fs, hr, hrun, hended, hW, hsame⟩ := X2.leave (v := some (.int (1 : Int32))) (fun h => by rw [Bd.returns] at h; cases h)
                    refine Go.fin (retN X2 hx (t := .boolean) Bd.returns (by simp) (hb hby d_method_10_109) hr) ⟨hrun, hended, _, _, rfl, ?_, ⟨_, rfl⟩, hW, hsame.mono (by decide) (by decide)⟩
                    show Q_host Z cu h0 n0 _ T2.heap _
                    rw [eh2]
                    exact Or.inl ⟨by first | (simp [own_host, hp1, hp2, hc17_3, hc23_4, hc29_5, hc35_6, hc41_7, hc47_8, hc53_9]; done) | (simp [own_host, hp1, hp2, hc17_3, hc23_4, hc29_5, hc35_6, hc41_7, hc47_8, hc53_9]; omega), rfl, N2, rfl⟩
                  · skip
                    refine Go.pre (fun _ k => XS.icmpNo X2.here hx rfl (hb hby d_method_10_53) rfl (feq (fun q => hc53_9 ((own_oe (a := cu) (b := 38) (by omega) (by omega)).mp q))).1 k) ?_
                    show Go p e below _ (T2.setTop (mkF m 56 #[iv (Int32.ofNat cu)] []))
                    refine Go.pre (fun _ k => XS.iloadN X2.here hx rfl (hb hby d_method_10_56) rfl k) ?_
                    show Go p e below _ (T2.setTop (mkF m 57 #[iv (Int32.ofNat cu)] [(.int (Int32.ofNat cu))]))
                    refine Go.pre (fun _ k => XS.bipush X2.here hx rfl (hb hby d_method_10_57) k) ?_
                    show Go p e below _ (T2.setTop (mkF m 59 #[iv (Int32.ofNat cu)] [(.int (39 : Int32)), (.int (Int32.ofNat cu))]))
                    by_cases hc59_10 : cu = 39
                    · skip
                      refine Go.pre (fun _ k => XS.icmpYes X2.here hx rfl (pc0 := 59) (pc' := 104) rfl (hb hby d_method_10_59) rfl (teq ((own_oe (a := cu) (b := 39) (by omega) (by omega)).mpr hc59_10)).1 (by decide) (by decide) k) ?_
                      show Go p e below _ (T2.setTop (mkF m 104 #[iv (Int32.ofNat cu)] []))
                      refine Go.pre (fun _ k => XS.iconst X2.here hx rfl (hb hby d_method_10_104) k) ?_
                      show Go p e below _ (T2.setTop (mkF m 105 #[iv (Int32.ofNat cu)] [(.int (1 : Int32))]))
                      refine Go.pre (fun _ k => XS.goto X2.here hx rfl (pc0 := 105) (pc' := 109) rfl (hb hby d_method_10_105) (by decide) (by decide) k) ?_
                      show Go p e below _ (T2.setTop (mkF m 109 #[iv (Int32.ofNat cu)] [(.int (1 : Int32))]))
                      obtain ⟨fs, hr, hrun, hended, hW, hsame⟩ := X2.leave (v := some (.int (1 : Int32))) (fun h => by rw [Bd.returns] at h; cases h)
                      refine Go.fin (retN X2 hx (t := .boolean) Bd.returns (by simp) (hb hby d_method_10_109) hr) ⟨hrun, hended, _, _, rfl, ?_, ⟨_, rfl⟩, hW, hsame.mono (by decide) (by decide)⟩
                      show Q_host Z cu h0 n0 _ T2.heap _
                      rw [eh2]
                      exact Or.inl ⟨by first | (simp [own_host, hp1, hp2, hc17_3, hc23_4, hc29_5, hc35_6, hc41_7, hc47_8, hc53_9, hc59_10]; done) | (simp [own_host, hp1, hp2, hc17_3, hc23_4, hc29_5, hc35_6, hc41_7, hc47_8, hc53_9, hc59_10]; omega), rfl, N2, rfl⟩
                    · skip
                      refine Go.pre (fun _ k => XS.icmpNo X2.here hx rfl (hb hby d_method_10_59) rfl (feq (fun q => hc59_10 ((own_oe (a := cu) (b := 39) (by omega) (by omega)).mp q))).1 k) ?_
                      show Go p e below _ (T2.setTop (mkF m 62 #[iv (Int32.ofNat cu)] []))
                      refine Go.pre (fun _ k => XS.iloadN X2.here hx rfl (hb hby d_method_10_62) rfl k) ?_
                      show Go p e below _ (T2.setTop (mkF m 63 #[iv (Int32.ofNat cu)] [(.int (Int32.ofNat cu))]))
                      refine Go.pre (fun _ k => XS.bipush X2.here hx rfl (hb hby d_method_10_63) k) ?_
                      show Go p e below _ (T2.setTop (mkF m 65 #[iv (Int32.ofNat cu)] [(.int (40 : Int32)), (.int (Int32.ofNat cu))]))
                      by_cases hc65_11 : cu = 40
                      · skip
                        refine Go.pre (fun _ k => XS.icmpYes X2.here hx rfl (pc0 := 65) (pc' := 104) rfl (hb hby d_method_10_65) rfl (teq ((own_oe (a := cu) (b := 40) (by omega) (by omega)).mpr hc65_11)).1 (by decide) (by decide) k) ?_
                        show Go p e below _ (T2.setTop (mkF m 104 #[iv (Int32.ofNat cu)] []))
                        refine Go.pre (fun _ k => XS.iconst X2.here hx rfl (hb hby d_method_10_104) k) ?_
                        show Go p e below _ (T2.setTop (mkF m 105 #[iv (Int32.ofNat cu)] [(.int (1 : Int32))]))
                        refine Go.pre (fun _ k => XS.goto X2.here hx rfl (pc0 := 105) (pc' := 109) rfl (hb hby d_method_10_105) (by decide) (by decide) k) ?_
                        show Go p e below _ (T2.setTop (mkF m 109 #[iv (Int32.ofNat cu)] [(.int (1 : Int32))]))
                        obtain ⟨fs, hr, hrun, hended, hW, hsame⟩ := X2.leave (v := some (.int (1 : Int32))) (fun h => by rw [Bd.returns] at h; cases h)
                        refine Go.fin (retN X2 hx (t := .boolean) Bd.returns (by simp) (hb hby d_method_10_109) hr) ⟨hrun, hended, _, _, rfl, ?_, ⟨_, rfl⟩, hW, hsame.mono (by decide) (by decide)⟩
                        show Q_host Z cu h0 n0 _ T2.heap _
                        rw [eh2]
                        exact Or.inl ⟨by first | (simp [own_host, hp1, hp2, hc17_3, hc23_4, hc29_5, hc35_6, hc41_7, hc47_8, hc53_9, hc59_10, hc65_11]; done) | (simp [own_host, hp1, hp2, hc17_3, hc23_4, hc29_5, hc35_6, hc41_7, hc47_8, hc53_9, hc59_10, hc65_11]; omega), rfl, N2, rfl⟩
                      · skip
                        refine Go.pre (fun _ k => XS.icmpNo X2.here hx rfl (hb hby d_method_10_65) rfl (feq (fun q => hc65_11 ((own_oe (a := cu) (b := 40) (by omega) (by omega)).mp q))).1 k) ?_
                        show Go p e below _ (T2.setTop (mkF m 68 #[iv (Int32.ofNat cu)] []))
                        refine Go.pre (fun _ k => XS.iloadN X2.here hx rfl (hb hby d_method_10_68) rfl k) ?_
                        show Go p e below _ (T2.setTop (mkF m 69 #[iv (Int32.ofNat cu)] [(.int (Int32.ofNat cu))]))
                        refine Go.pre (fun _ k => XS.bipush X2.here hx rfl (hb hby d_method_10_69) k) ?_
                        show Go p e below _ (T2.setTop (mkF m 71 #[iv (Int32.ofNat cu)] [(.int (41 : Int32)), (.int (Int32.ofNat cu))]))
                        by_cases hc71_12 : cu = 41
                        · skip
                          refine Go.pre (fun _ k => XS.icmpYes X2.here hx rfl (pc0 := 71) (pc' := 104) rfl (hb hby d_method_10_71) rfl (teq ((own_oe (a := cu) (b := 41) (by omega) (by omega)).mpr hc71_12)).1 (by decide) (by decide) k) ?_
                          show Go p e below _ (T2.setTop (mkF m 104 #[iv (Int32.ofNat cu)] []))
                          refine Go.pre (fun _ k => XS.iconst X2.here hx rfl (hb hby d_method_10_104) k) ?_
                          show Go p e below _ (T2.setTop (mkF m 105 #[iv (Int32.ofNat cu)] [(.int (1 : Int32))]))
                          refine Go.pre (fun _ k => XS.goto X2.here hx rfl (pc0 := 105) (pc' := 109) rfl (hb hby d_method_10_105) (by decide) (by decide) k) ?_
                          show Go p e below _ (T2.setTop (mkF m 109 #[iv (Int32.ofNat cu)] [(.int (1 : Int32))]))
                          obtain ⟨fs, hr, hrun, hended, hW, hsame⟩ := X2.leave (v := some (.int (1 : Int32))) (fun h => by rw [Bd.returns] at h; cases h)
                          refine Go.fin (retN X2 hx (t := .boolean) Bd.returns (by simp) (hb hby d_method_10_109) hr) ⟨hrun, hended, _, _, rfl, ?_, ⟨_, rfl⟩, hW, hsame.mono (by decide) (by decide)⟩
                          show Q_host Z cu h0 n0 _ T2.heap _
                          rw [eh2]
                          exact Or.inl ⟨by first | (simp [own_host, hp1, hp2, hc17_3, hc23_4, hc29_5, hc35_6, hc41_7, hc47_8, hc53_9, hc59_10, hc65_11, hc71_12]; done) | (simp [own_host, hp1, hp2, hc17_3, hc23_4, hc29_5, hc35_6, hc41_7, hc47_8, hc53_9, hc59_10, hc65_11, hc71_12]; omega), rfl, N2, rfl⟩
                        · skip
                          refine Go.pre (fun _ k => XS.icmpNo X2.here hx rfl (hb hby d_method_10_71) rfl (feq (fun q => hc71_12 ((own_oe (a := cu) (b := 41) (by omega) (by omega)).mp q))).1 k) ?_
                          show Go p e below _ (T2.setTop (mkF m 74 #[iv (Int32.ofNat cu)] []))
                          refine Go.pre (fun _ k => XS.iloadN X2.here hx rfl (hb hby d_method_10_74) rfl k) ?_
                          show Go p e below _ (T2.setTop (mkF m 75 #[iv (Int32.ofNat cu)] [(.int (Int32.ofNat cu))]))
                          refine Go.pre (fun _ k => XS.bipush X2.here hx rfl (hb hby d_method_10_75) k) ?_
                          show Go p e below _ (T2.setTop (mkF m 77 #[iv (Int32.ofNat cu)] [(.int (42 : Int32)), (.int (Int32.ofNat cu))]))
                          by_cases hc77_13 : cu = 42
                          · skip
                            refine Go.pre (fun _ k => XS.icmpYes X2.here hx rfl (pc0 := 77) (pc' := 104) rfl (hb hby d_method_10_77) rfl (teq ((own_oe (a := cu) (b := 42) (by omega) (by omega)).mpr hc77_13)).1 (by decide) (by decide) k) ?_
                            show Go p e below _ (T2.setTop (mkF m 104 #[iv (Int32.ofNat cu)] []))
                            refine Go.pre (fun _ k => XS.iconst X2.here hx rfl (hb hby d_method_10_104) k) ?_
                            show Go p e below _ (T2.setTop (mkF m 105 #[iv (Int32.ofNat cu)] [(.int (1 : Int32))]))
                            refine Go.pre (fun _ k => XS.goto X2.here hx rfl (pc0 := 105) (pc' := 109) rfl (hb hby d_method_10_105) (by decide) (by decide) k) ?_
                            show Go p e below _ (T2.setTop (mkF m 109 #[iv (Int32.ofNat cu)] [(.int (1 : Int32))]))
                            obtain ⟨fs, hr, hrun, hended, hW, hsame⟩ := X2.leave (v := some (.int (1 : Int32))) (fun h => by rw [Bd.returns] at h; cases h)
                            refine Go.fin (retN X2 hx (t := .boolean) Bd.returns (by simp) (hb hby d_method_10_109) hr) ⟨hrun, hended, _, _, rfl, ?_, ⟨_, rfl⟩, hW, hsame.mono (by decide) (by decide)⟩
                            show Q_host Z cu h0 n0 _ T2.heap _
                            rw [eh2]
                            exact Or.inl ⟨by first | (simp [own_host, hp1, hp2, hc17_3, hc23_4, hc29_5, hc35_6, hc41_7, hc47_8, hc53_9, hc59_10, hc65_11, hc71_12, hc77_13]; done) | (simp [own_host, hp1, hp2, hc17_3, hc23_4, hc29_5, hc35_6, hc41_7, hc47_8, hc53_9, hc59_10, hc65_11, hc71_12, hc77_13]; omega), rfl, N2, rfl⟩
                          · skip
                            refine Go.pre (fun _ k => XS.icmpNo X2.here hx rfl (hb hby d_method_10_77) rfl (feq (fun q => hc77_13 ((own_oe (a := cu) (b := 42) (by omega) (by omega)).mp q))).1 k) ?_
                            show Go p e below _ (T2.setTop (mkF m 80 #[iv (Int32.ofNat cu)] []))
                            refine Go.pre (fun _ k => XS.iloadN X2.here hx rfl (hb hby d_method_10_80) rfl k) ?_
                            show Go p e below _ (T2.setTop (mkF m 81 #[iv (Int32.ofNat cu)] [(.int (Int32.ofNat cu))]))
                            refine Go.pre (fun _ k => XS.bipush X2.here hx rfl (hb hby d_method_10_81) k) ?_
                            show Go p e below _ (T2.setTop (mkF m 83 #[iv (Int32.ofNat cu)] [(.int (43 : Int32)), (.int (Int32.ofNat cu))]))
                            by_cases hc83_14 : cu = 43
                            · skip
                              refine Go.pre (fun _ k => XS.icmpYes X2.here hx rfl (pc0 := 83) (pc' := 104) rfl (hb hby d_method_10_83) rfl (teq ((own_oe (a := cu) (b := 43) (by omega) (by omega)).mpr hc83_14)).1 (by decide) (by decide) k) ?_
                              show Go p e below _ (T2.setTop (mkF m 104 #[iv (Int32.ofNat cu)] []))
                              refine Go.pre (fun _ k => XS.iconst X2.here hx rfl (hb hby d_method_10_104) k) ?_
                              show Go p e below _ (T2.setTop (mkF m 105 #[iv (Int32.ofNat cu)] [(.int (1 : Int32))]))
                              refine Go.pre (fun _ k => XS.goto X2.here hx rfl (pc0 := 105) (pc' := 109) rfl (hb hby d_method_10_105) (by decide) (by decide) k) ?_
                              show Go p e below _ (T2.setTop (mkF m 109 #[iv (Int32.ofNat cu)] [(.int (1 : Int32))]))
                              obtain ⟨fs, hr, hrun, hended, hW, hsame⟩ := X2.leave (v := some (.int (1 : Int32))) (fun h => by rw [Bd.returns] at h; cases h)
                              refine Go.fin (retN X2 hx (t := .boolean) Bd.returns (by simp) (hb hby d_method_10_109) hr) ⟨hrun, hended, _, _, rfl, ?_, ⟨_, rfl⟩, hW, hsame.mono (by decide) (by decide)⟩
                              show Q_host Z cu h0 n0 _ T2.heap _
                              rw [eh2]
                              exact Or.inl ⟨by first | (simp [own_host, hp1, hp2, hc17_3, hc23_4, hc29_5, hc35_6, hc41_7, hc47_8, hc53_9, hc59_10, hc65_11, hc71_12, hc77_13, hc83_14]; done) | (simp [own_host, hp1, hp2, hc17_3, hc23_4, hc29_5, hc35_6, hc41_7, hc47_8, hc53_9, hc59_10, hc65_11, hc71_12, hc77_13, hc83_14]; omega), rfl, N2, rfl⟩
                            · skip
                              refine Go.pre (fun _ k => XS.icmpNo X2.here hx rfl (hb hby d_method_10_83) rfl (feq (fun q => hc83_14 ((own_oe (a := cu) (b := 43) (by omega) (by omega)).mp q))).1 k) ?_
                              show Go p e below _ (T2.setTop (mkF m 86 #[iv (Int32.ofNat cu)] []))
                              refine Go.pre (fun _ k => XS.iloadN X2.here hx rfl (hb hby d_method_10_86) rfl k) ?_
                              show Go p e below _ (T2.setTop (mkF m 87 #[iv (Int32.ofNat cu)] [(.int (Int32.ofNat cu))]))
                              refine Go.pre (fun _ k => XS.bipush X2.here hx rfl (hb hby d_method_10_87) k) ?_
                              show Go p e below _ (T2.setTop (mkF m 89 #[iv (Int32.ofNat cu)] [(.int (44 : Int32)), (.int (Int32.ofNat cu))]))
                              by_cases hc89_15 : cu = 44
                              · skip
                                refine Go.pre (fun _ k => XS.icmpYes X2.here hx rfl (pc0 := 89) (pc' := 104) rfl (hb hby d_method_10_89) rfl (teq ((own_oe (a := cu) (b := 44) (by omega) (by omega)).mpr hc89_15)).1 (by decide) (by decide) k) ?_
                                show Go p e below _ (T2.setTop (mkF m 104 #[iv (Int32.ofNat cu)] []))
                                refine Go.pre (fun _ k => XS.iconst X2.here hx rfl (hb hby d_method_10_104) k) ?_
                                show Go p e below _ (T2.setTop (mkF m 105 #[iv (Int32.ofNat cu)] [(.int (1 : Int32))]))
                                refine Go.pre (fun _ k => XS.goto X2.here hx rfl (pc0 := 105) (pc' := 109) rfl (hb hby d_method_10_105) (by decide) (by decide) k) ?_
                                show Go p e below _ (T2.setTop (mkF m 109 #[iv (Int32.ofNat cu)] [(.int (1 : Int32))]))
                                obtain ⟨fs, hr, hrun, hended, hW, hsame⟩ := X2.leave (v := some (.int (1 : Int32))) (fun h => by rw [Bd.returns] at h; cases h)
                                refine Go.fin (retN X2 hx (t := .boolean) Bd.returns (by simp) (hb hby d_method_10_109) hr) ⟨hrun, hended, _, _, rfl, ?_, ⟨_, rfl⟩, hW, hsame.mono (by decide) (by decide)⟩
                                show Q_host Z cu h0 n0 _ T2.heap _
                                rw [eh2]
                                exact Or.inl ⟨by first | (simp [own_host, hp1, hp2, hc17_3, hc23_4, hc29_5, hc35_6, hc41_7, hc47_8, hc53_9, hc59_10, hc65_11, hc71_12, hc77_13, hc83_14, hc89_15]; done) | (simp [own_host, hp1, hp2, hc17_3, hc23_4, hc29_5, hc35_6, hc41_7, hc47_8, hc53_9, hc59_10, hc65_11, hc71_12, hc77_13, hc83_14, hc89_15]; omega), rfl, N2, rfl⟩
                              · skip
                                refine Go.pre (fun _ k => XS.icmpNo X2.here hx rfl (hb hby d_method_10_89) rfl (feq (fun q => hc89_15 ((own_oe (a := cu) (b := 44) (by omega) (by omega)).mp q))).1 k) ?_
                                show Go p e below _ (T2.setTop (mkF m 92 #[iv (Int32.ofNat cu)] []))
                                refine Go.pre (fun _ k => XS.iloadN X2.here hx rfl (hb hby d_method_10_92) rfl k) ?_
                                show Go p e below _ (T2.setTop (mkF m 93 #[iv (Int32.ofNat cu)] [(.int (Int32.ofNat cu))]))
                                refine Go.pre (fun _ k => XS.bipush X2.here hx rfl (hb hby d_method_10_93) k) ?_
                                show Go p e below _ (T2.setTop (mkF m 95 #[iv (Int32.ofNat cu)] [(.int (59 : Int32)), (.int (Int32.ofNat cu))]))
                                by_cases hc95_16 : cu = 59
                                · skip
                                  refine Go.pre (fun _ k => XS.icmpYes X2.here hx rfl (pc0 := 95) (pc' := 104) rfl (hb hby d_method_10_95) rfl (teq ((own_oe (a := cu) (b := 59) (by omega) (by omega)).mpr hc95_16)).1 (by decide) (by decide) k) ?_
                                  show Go p e below _ (T2.setTop (mkF m 104 #[iv (Int32.ofNat cu)] []))
                                  refine Go.pre (fun _ k => XS.iconst X2.here hx rfl (hb hby d_method_10_104) k) ?_
                                  show Go p e below _ (T2.setTop (mkF m 105 #[iv (Int32.ofNat cu)] [(.int (1 : Int32))]))
                                  refine Go.pre (fun _ k => XS.goto X2.here hx rfl (pc0 := 105) (pc' := 109) rfl (hb hby d_method_10_105) (by decide) (by decide) k) ?_
                                  show Go p e below _ (T2.setTop (mkF m 109 #[iv (Int32.ofNat cu)] [(.int (1 : Int32))]))
                                  obtain ⟨fs, hr, hrun, hended, hW, hsame⟩ := X2.leave (v := some (.int (1 : Int32))) (fun h => by rw [Bd.returns] at h; cases h)
                                  refine Go.fin (retN X2 hx (t := .boolean) Bd.returns (by simp) (hb hby d_method_10_109) hr) ⟨hrun, hended, _, _, rfl, ?_, ⟨_, rfl⟩, hW, hsame.mono (by decide) (by decide)⟩
                                  show Q_host Z cu h0 n0 _ T2.heap _
                                  rw [eh2]
                                  exact Or.inl ⟨by first | (simp [own_host, hp1, hp2, hc17_3, hc23_4, hc29_5, hc35_6, hc41_7, hc47_8, hc53_9, hc59_10, hc65_11, hc71_12, hc77_13, hc83_14, hc89_15, hc95_16]; done) | (simp [own_host, hp1, hp2, hc17_3, hc23_4, hc29_5, hc35_6, hc41_7, hc47_8, hc53_9, hc59_10, hc65_11, hc71_12, hc77_13, hc83_14, hc89_15, hc95_16]; omega), rfl, N2, rfl⟩
                                · skip
                                  refine Go.pre (fun _ k => XS.icmpNo X2.here hx rfl (hb hby d_method_10_95) rfl (feq (fun q => hc95_16 ((own_oe (a := cu) (b := 59) (by omega) (by omega)).mp q))).1 k) ?_
                                  show Go p e below _ (T2.setTop (mkF m 98 #[iv (Int32.ofNat cu)] []))
                                  refine Go.pre (fun _ k => XS.iloadN X2.here hx rfl (hb hby d_method_10_98) rfl k) ?_
                                  show Go p e below _ (T2.setTop (mkF m 99 #[iv (Int32.ofNat cu)] [(.int (Int32.ofNat cu))]))
                                  refine Go.pre (fun _ k => XS.bipush X2.here hx rfl (hb hby d_method_10_99) k) ?_
                                  show Go p e below _ (T2.setTop (mkF m 101 #[iv (Int32.ofNat cu)] [(.int (61 : Int32)), (.int (Int32.ofNat cu))]))
                                  by_cases hc101_17 : cu = 61
                                  · skip
                                    refine Go.pre (fun _ k => XS.icmpNo X2.here hx rfl (hb hby d_method_10_101) rfl (teq ((own_oe (a := cu) (b := 61) (by omega) (by omega)).mpr hc101_17)).2 k) ?_
                                    show Go p e below _ (T2.setTop (mkF m 104 #[iv (Int32.ofNat cu)] []))
                                    refine Go.pre (fun _ k => XS.iconst X2.here hx rfl (hb hby d_method_10_104) k) ?_
                                    show Go p e below _ (T2.setTop (mkF m 105 #[iv (Int32.ofNat cu)] [(.int (1 : Int32))]))
                                    refine Go.pre (fun _ k => XS.goto X2.here hx rfl (pc0 := 105) (pc' := 109) rfl (hb hby d_method_10_105) (by decide) (by decide) k) ?_
                                    show Go p e below _ (T2.setTop (mkF m 109 #[iv (Int32.ofNat cu)] [(.int (1 : Int32))]))
                                    obtain ⟨fs, hr, hrun, hended, hW, hsame⟩ := X2.leave (v := some (.int (1 : Int32))) (fun h => by rw [Bd.returns] at h; cases h)
                                    refine Go.fin (retN X2 hx (t := .boolean) Bd.returns (by simp) (hb hby d_method_10_109) hr) ⟨hrun, hended, _, _, rfl, ?_, ⟨_, rfl⟩, hW, hsame.mono (by decide) (by decide)⟩
                                    show Q_host Z cu h0 n0 _ T2.heap _
                                    rw [eh2]
                                    exact Or.inl ⟨by first | (simp [own_host, hp1, hp2, hc17_3, hc23_4, hc29_5, hc35_6, hc41_7, hc47_8, hc53_9, hc59_10, hc65_11, hc71_12, hc77_13, hc83_14, hc89_15, hc95_16, hc101_17]; done) | (simp [own_host, hp1, hp2, hc17_3, hc23_4, hc29_5, hc35_6, hc41_7, hc47_8, hc53_9, hc59_10, hc65_11, hc71_12, hc77_13, hc83_14, hc89_15, hc95_16, hc101_17]; omega), rfl, N2, rfl⟩
                                  · skip
                                    refine Go.pre (fun _ k => XS.icmpYes X2.here hx rfl (pc0 := 101) (pc' := 108) rfl (hb hby d_method_10_101) rfl (feq (fun q => hc101_17 ((own_oe (a := cu) (b := 61) (by omega) (by omega)).mp q))).2 (by decide) (by decide) k) ?_
                                    show Go p e below _ (T2.setTop (mkF m 108 #[iv (Int32.ofNat cu)] []))
                                    refine Go.pre (fun _ k => XS.iconst X2.here hx rfl (hb hby d_method_10_108) k) ?_
                                    show Go p e below _ (T2.setTop (mkF m 109 #[iv (Int32.ofNat cu)] [(.int (0 : Int32))]))
                                    obtain ⟨fs, hr, hrun, hended, hW, hsame⟩ := X2.leave (v := some (.int (0 : Int32))) (fun h => by rw [Bd.returns] at h; cases h)
                                    refine Go.fin (retN X2 hx (t := .boolean) Bd.returns (by simp) (hb hby d_method_10_109) hr) ⟨hrun, hended, _, _, rfl, ?_, ⟨_, rfl⟩, hW, hsame.mono (by decide) (by decide)⟩
                                    show Q_host Z cu h0 n0 _ T2.heap _
                                    rw [eh2]
                                    exact Or.inr ⟨by first | (simp [own_host, hp1, hp2, hc17_3, hc23_4, hc29_5, hc35_6, hc41_7, hc47_8, hc53_9, hc59_10, hc65_11, hc71_12, hc77_13, hc83_14, hc89_15, hc95_16, hc101_17]; done) | (simp [own_host, hp1, hp2, hc17_3, hc23_4, hc29_5, hc35_6, hc41_7, hc47_8, hc53_9, hc59_10, hc65_11, hc71_12, hc77_13, hc83_14, hc89_15, hc95_16, hc101_17]; omega), rfl, N2, rfl⟩

theorem ef_path (m : MethodId) (x0 : Int32) : entryFrame m #[(.int x0)] 1 = mkF m 0 #[iv x0] [] := by first | (simp [entryFrame, mkF, argsToLocals, Value.category]; done) | rfl
theorem pn_path : plainName "com/example/entayl/entayl/input/IriTableIsPlainIriPinLaw" = true := by first | (simp [plainName, overriddenIn]; done) | decide +kernel
def Q_path (Z : State) (cu : Nat) (h0 : Heap) (n0 : Nat) (v : Option Value) (h : Heap) (L : List Loc) : Prop := (own_path cu = true ∧ v = some (.int 1) ∧ Fr n0 L ∧ h = h0) ∨ (¬ own_path cu = true ∧ v = some (.int 0) ∧ Fr n0 L ∧ h = h0)
set_option maxRecDepth 65536 in
set_option maxHeartbeats 40000000 in
theorem rm_path (l : Launch) (Z : State) (a0 : Array Value) (hw : ∀ d ∈ tables_1, d.before a0 Z = true) (ws : List Jvm.Cond) (cu : Nat) (h0 : Heap) (n0 : Nat) (Z0 : n0 ≤ h0.size) (hc : cu < 256) :
    MetFree l (⟨"com/example/entayl/entayl/input/IriTableIsPlainIriPinLaw", "path", "(I)Z"⟩ : MethodName) (head1 (Jvm.Cond.code (⟨"com/example/entayl/entayl/input/IriTableIsPlainIriPinLaw", "path", "(I)Z"⟩ : MethodName) method_11_code 1 (some .boolean) :: ws) ({ frames := 2, cells := 0, slots := 0, locals := 24 } : Room)) (fun as_ U => as_ = #[(.int (Int32.ofNat cu))] ∧ Z.Warmed39 U.vm ∧ U.heap = h0) (fun _ _ _ _ _ => True) (fun _ U o U' => ∃ v L, o = .returned v ∧ Q_path Z cu h0 n0 v U'.heap L ∧ FrameEnd U o U' L ({ frames := 2, cells := 0, slots := 0, locals := 24 } : Room).cells ({ frames := 2, cells := 0, slots := 0, locals := 24 } : Room).slots) := by
  refine MetFree.of_bodySF (plainFor_of_name pn_path) hisR ?_
  intro p e s m args below meth c s₁ Bd hml0 hP hK
  obtain ⟨rfl, hZ, hh⟩ := hP
  have hx := Bd.exec
  have hby := Bd.bytes
  have hml : c.maxLocals = 1 := hml0
  have hown : s.vm.findClass "com/example/entayl/entayl/input/IriTableIsPlainIriPinLaw" = some m.cls := findClass_of_methodNamed Bd.named
  have hnm := (name_of_methodNamed Bd.named Bd.method).1
  have X0 : Stand p l e ({ frames := 2, cells := 0, slots := 0, locals := 24 } : Room) s m #[(.int (Int32.ofNat cu))] below meth c s₁ [] 0 0 := Stand.of_body Bd
  have e0 : s₁.heap = h0 := by rw [← hh, Bd.state]; rfl
  have N0 := Fr.nil n0
  refine Go.out ?_
  refine Go.pre (fun t k => castTop (ef_path m (Int32.ofNat cu)) k) ?_
  show Go p e below _ (s₁.setTop (mkF m 0 #[iv (Int32.ofNat cu)] []))
  refine Go.pre (fun _ k => XS.iloadN X0.here hx rfl (hb hby d_method_11_0) rfl k) ?_
  show Go p e below _ (s₁.setTop (mkF m 1 #[iv (Int32.ofNat cu)] [(.int (Int32.ofNat cu))]))
  obtain ⟨_, _, ⟨T1, L1, k1, n1⟩, -, X1, ⟨Lc1, hQ1, l1, y1, z1⟩, st1⟩ := Jvm.LawKit.callS X0 hx (y := (⟨"com/example/entayl/entayl/input/IriTableIsPlainIriPinLaw", "host", "(I)Z"⟩ : MethodName)) hown (mvT hZ (hw _ (List.mem_of_getElem? (i := 27) rfl))) (mvT hZ (hw _ (List.mem_of_getElem? (i := 28) rfl))) (mvT hZ (hw _ (List.mem_of_getElem? (i := 19) rfl))) (mvT hZ (hw _ (List.mem_of_getElem? (i := 29) rfl))) (by decide) (backOf (W := 0) (rm_host l Z a0 hw [] cu h0 n0 Z0 hc) hZ (hw _ (List.mem_of_getElem? (i := 29) rfl)) (hw _ (List.mem_of_getElem? (i := 19) rfl)) (by decide) (by decide)) (g := (mkF m 1 #[iv (Int32.ofNat cu)] [(.int (Int32.ofNat cu))])) rfl (by rw [hml]; rfl) (argsL := [(.int (Int32.ofNat cu))]) (rest := []) (lenOf pd_0 rfl) rfl (by show 2 * 0 + _ ≤ _; exact Nat.le_of_eq rfl) (hb hby d_method_11_1) (fun _ _ => ⟨rfl, e0, (by decide : 0 + 0 ≤ _), (by decide : 0 + 0 ≤ _)⟩)
  dsimp only [Pt.U, Pt.locs, Pt.cells, Pt.slots] at X1 l1 y1 z1 st1 hQ1
  subst l1 y1 z1
  refine Go.pre st1 ?_
  rcases hQ1 with ⟨hp1, rfl, N1q, eh1⟩ | ⟨hp1, rfl, N1q, eh1⟩
  · skip
    have N1 := Fr.app N0 N1q
    show Go p e below _ (T1.setTop (mkF m 4 #[iv (Int32.ofNat cu)] [(.int (1 : Int32))]))
    refine Go.pre (fun _ k => XS.ifYes X1.here hx rfl (pc0 := 4) (pc' := 25) rfl (hb hby d_method_11_4) rfl ((if0 _ _).trans (feq (by decide : ¬ ((1 : Int32) = (0 : Int32)))).2) (by decide) (by decide) k) ?_
    show Go p e below _ (T1.setTop (mkF m 25 #[iv (Int32.ofNat cu)] []))
    refine Go.pre (fun _ k => XS.iconst X1.here hx rfl (hb hby d_method_11_25) k) ?_
    show Go p e below _ (T1.setTop (mkF m 26 #[iv (Int32.ofNat cu)] [(.int (1 : Int32))]))
    refine Go.pre (fun _ k => XS.goto X1.here hx rfl (pc0 := 26) (pc' := 30) rfl (hb hby d_method_11_26) (by decide) (by decide) k) ?_
    show Go p e below _ (T1.setTop (mkF m 30 #[iv (Int32.ofNat cu)] [(.int (1 : Int32))]))
    obtain ⟨fs, hr, hrun, hended, hW, hsame⟩ := X1.leave (v := some (.int (1 : Int32))) (fun h => by rw [Bd.returns] at h; cases h)
    refine Go.fin (retN X1 hx (t := .boolean) Bd.returns (by simp) (hb hby d_method_11_30) hr) ⟨hrun, hended, _, _, rfl, ?_, ⟨_, rfl⟩, hW, hsame.mono (by decide) (by decide)⟩
    show Q_path Z cu h0 n0 _ T1.heap _
    rw [eh1]
    exact Or.inl ⟨by first | (simp [own_path, hp1]; done) | (simp [own_path, hp1]; omega), rfl, N1, rfl⟩
  · skip
    have N1 := Fr.app N0 N1q
    show Go p e below _ (T1.setTop (mkF m 4 #[iv (Int32.ofNat cu)] [(.int (0 : Int32))]))
    refine Go.pre (fun _ k => XS.ifNo X1.here hx rfl (hb hby d_method_11_4) rfl ((if0 _ _).trans (teq (by decide : (0 : Int32) = (0 : Int32))).2) k) ?_
    show Go p e below _ (T1.setTop (mkF m 7 #[iv (Int32.ofNat cu)] []))
    refine Go.pre (fun _ k => XS.iloadN X1.here hx rfl (hb hby d_method_11_7) rfl k) ?_
    show Go p e below _ (T1.setTop (mkF m 8 #[iv (Int32.ofNat cu)] [(.int (Int32.ofNat cu))]))
    refine Go.pre (fun _ k => XS.bipush X1.here hx rfl (hb hby d_method_11_8) k) ?_
    show Go p e below _ (T1.setTop (mkF m 10 #[iv (Int32.ofNat cu)] [(.int (58 : Int32)), (.int (Int32.ofNat cu))]))
    by_cases hc10_2 : cu = 58
    · skip
      refine Go.pre (fun _ k => XS.icmpYes X1.here hx rfl (pc0 := 10) (pc' := 25) rfl (hb hby d_method_11_10) rfl (teq ((own_oe (a := cu) (b := 58) (by omega) (by omega)).mpr hc10_2)).1 (by decide) (by decide) k) ?_
      show Go p e below _ (T1.setTop (mkF m 25 #[iv (Int32.ofNat cu)] []))
      refine Go.pre (fun _ k => XS.iconst X1.here hx rfl (hb hby d_method_11_25) k) ?_
      show Go p e below _ (T1.setTop (mkF m 26 #[iv (Int32.ofNat cu)] [(.int (1 : Int32))]))
      refine Go.pre (fun _ k => XS.goto X1.here hx rfl (pc0 := 26) (pc' := 30) rfl (hb hby d_method_11_26) (by decide) (by decide) k) ?_
      show Go p e below _ (T1.setTop (mkF m 30 #[iv (Int32.ofNat cu)] [(.int (1 : Int32))]))
      obtain ⟨fs, hr, hrun, hended, hW, hsame⟩ := X1.leave (v := some (.int (1 : Int32))) (fun h => by rw [Bd.returns] at h; cases h)
      refine Go.fin (retN X1 hx (t := .boolean) Bd.returns (by simp) (hb hby d_method_11_30) hr) ⟨hrun, hended, _, _, rfl, ?_, ⟨_, rfl⟩, hW, hsame.mono (by decide) (by decide)⟩
      show Q_path Z cu h0 n0 _ T1.heap _
      rw [eh1]
      exact Or.inl ⟨by first | (simp [own_path, hp1, hc10_2]; done) | (simp [own_path, hp1, hc10_2]; omega), rfl, N1, rfl⟩
    · skip
      refine Go.pre (fun _ k => XS.icmpNo X1.here hx rfl (hb hby d_method_11_10) rfl (feq (fun q => hc10_2 ((own_oe (a := cu) (b := 58) (by omega) (by omega)).mp q))).1 k) ?_
      show Go p e below _ (T1.setTop (mkF m 13 #[iv (Int32.ofNat cu)] []))
      refine Go.pre (fun _ k => XS.iloadN X1.here hx rfl (hb hby d_method_11_13) rfl k) ?_
      show Go p e below _ (T1.setTop (mkF m 14 #[iv (Int32.ofNat cu)] [(.int (Int32.ofNat cu))]))
      refine Go.pre (fun _ k => XS.bipush X1.here hx rfl (hb hby d_method_11_14) k) ?_
      show Go p e below _ (T1.setTop (mkF m 16 #[iv (Int32.ofNat cu)] [(.int (64 : Int32)), (.int (Int32.ofNat cu))]))
      by_cases hc16_3 : cu = 64
      · skip
        refine Go.pre (fun _ k => XS.icmpYes X1.here hx rfl (pc0 := 16) (pc' := 25) rfl (hb hby d_method_11_16) rfl (teq ((own_oe (a := cu) (b := 64) (by omega) (by omega)).mpr hc16_3)).1 (by decide) (by decide) k) ?_
        show Go p e below _ (T1.setTop (mkF m 25 #[iv (Int32.ofNat cu)] []))
        refine Go.pre (fun _ k => XS.iconst X1.here hx rfl (hb hby d_method_11_25) k) ?_
        show Go p e below _ (T1.setTop (mkF m 26 #[iv (Int32.ofNat cu)] [(.int (1 : Int32))]))
        refine Go.pre (fun _ k => XS.goto X1.here hx rfl (pc0 := 26) (pc' := 30) rfl (hb hby d_method_11_26) (by decide) (by decide) k) ?_
        show Go p e below _ (T1.setTop (mkF m 30 #[iv (Int32.ofNat cu)] [(.int (1 : Int32))]))
        obtain ⟨fs, hr, hrun, hended, hW, hsame⟩ := X1.leave (v := some (.int (1 : Int32))) (fun h => by rw [Bd.returns] at h; cases h)
        refine Go.fin (retN X1 hx (t := .boolean) Bd.returns (by simp) (hb hby d_method_11_30) hr) ⟨hrun, hended, _, _, rfl, ?_, ⟨_, rfl⟩, hW, hsame.mono (by decide) (by decide)⟩
        show Q_path Z cu h0 n0 _ T1.heap _
        rw [eh1]
        exact Or.inl ⟨by first | (simp [own_path, hp1, hc10_2, hc16_3]; done) | (simp [own_path, hp1, hc10_2, hc16_3]; omega), rfl, N1, rfl⟩
      · skip
        refine Go.pre (fun _ k => XS.icmpNo X1.here hx rfl (hb hby d_method_11_16) rfl (feq (fun q => hc16_3 ((own_oe (a := cu) (b := 64) (by omega) (by omega)).mp q))).1 k) ?_
        show Go p e below _ (T1.setTop (mkF m 19 #[iv (Int32.ofNat cu)] []))
        refine Go.pre (fun _ k => XS.iloadN X1.here hx rfl (hb hby d_method_11_19) rfl k) ?_
        show Go p e below _ (T1.setTop (mkF m 20 #[iv (Int32.ofNat cu)] [(.int (Int32.ofNat cu))]))
        refine Go.pre (fun _ k => XS.bipush X1.here hx rfl (hb hby d_method_11_20) k) ?_
        show Go p e below _ (T1.setTop (mkF m 22 #[iv (Int32.ofNat cu)] [(.int (47 : Int32)), (.int (Int32.ofNat cu))]))
        by_cases hc22_4 : cu = 47
        · skip
          refine Go.pre (fun _ k => XS.icmpNo X1.here hx rfl (hb hby d_method_11_22) rfl (teq ((own_oe (a := cu) (b := 47) (by omega) (by omega)).mpr hc22_4)).2 k) ?_
          show Go p e below _ (T1.setTop (mkF m 25 #[iv (Int32.ofNat cu)] []))
          refine Go.pre (fun _ k => XS.iconst X1.here hx rfl (hb hby d_method_11_25) k) ?_
          show Go p e below _ (T1.setTop (mkF m 26 #[iv (Int32.ofNat cu)] [(.int (1 : Int32))]))
          refine Go.pre (fun _ k => XS.goto X1.here hx rfl (pc0 := 26) (pc' := 30) rfl (hb hby d_method_11_26) (by decide) (by decide) k) ?_
          show Go p e below _ (T1.setTop (mkF m 30 #[iv (Int32.ofNat cu)] [(.int (1 : Int32))]))
          obtain ⟨fs, hr, hrun, hended, hW, hsame⟩ := X1.leave (v := some (.int (1 : Int32))) (fun h => by rw [Bd.returns] at h; cases h)
          refine Go.fin (retN X1 hx (t := .boolean) Bd.returns (by simp) (hb hby d_method_11_30) hr) ⟨hrun, hended, _, _, rfl, ?_, ⟨_, rfl⟩, hW, hsame.mono (by decide) (by decide)⟩
          show Q_path Z cu h0 n0 _ T1.heap _
          rw [eh1]
          exact Or.inl ⟨by first | (simp [own_path, hp1, hc10_2, hc16_3, hc22_4]; done) | (simp [own_path, hp1, hc10_2, hc16_3, hc22_4]; omega), rfl, N1, rfl⟩
        · skip
          refine Go.pre (fun _ k => XS.icmpYes X1.here hx rfl (pc0 := 22) (pc' := 29) rfl (hb hby d_method_11_22) rfl (feq (fun q => hc22_4 ((own_oe (a := cu) (b := 47) (by omega) (by omega)).mp q))).2 (by decide) (by decide) k) ?_
          show Go p e below _ (T1.setTop (mkF m 29 #[iv (Int32.ofNat cu)] []))
          refine Go.pre (fun _ k => XS.iconst X1.here hx rfl (hb hby d_method_11_29) k) ?_
          show Go p e below _ (T1.setTop (mkF m 30 #[iv (Int32.ofNat cu)] [(.int (0 : Int32))]))
          obtain ⟨fs, hr, hrun, hended, hW, hsame⟩ := X1.leave (v := some (.int (0 : Int32))) (fun h => by rw [Bd.returns] at h; cases h)
          refine Go.fin (retN X1 hx (t := .boolean) Bd.returns (by simp) (hb hby d_method_11_30) hr) ⟨hrun, hended, _, _, rfl, ?_, ⟨_, rfl⟩, hW, hsame.mono (by decide) (by decide)⟩
          show Q_path Z cu h0 n0 _ T1.heap _
          rw [eh1]
          exact Or.inr ⟨by first | (simp [own_path, hp1, hc10_2, hc16_3, hc22_4]; done) | (simp [own_path, hp1, hc10_2, hc16_3, hc22_4]; omega), rfl, N1, rfl⟩

theorem ef_query (m : MethodId) (x0 : Int32) : entryFrame m #[(.int x0)] 1 = mkF m 0 #[iv x0] [] := by first | (simp [entryFrame, mkF, argsToLocals, Value.category]; done) | rfl
theorem pn_query : plainName "com/example/entayl/entayl/input/IriTableIsPlainIriPinLaw" = true := by first | (simp [plainName, overriddenIn]; done) | decide +kernel
def Q_query (Z : State) (cu : Nat) (h0 : Heap) (n0 : Nat) (v : Option Value) (h : Heap) (L : List Loc) : Prop := (own_query cu = true ∧ v = some (.int 1) ∧ Fr n0 L ∧ h = h0) ∨ (¬ own_query cu = true ∧ v = some (.int 0) ∧ Fr n0 L ∧ h = h0)
set_option maxRecDepth 65536 in
set_option maxHeartbeats 40000000 in
theorem rm_query (l : Launch) (Z : State) (a0 : Array Value) (hw : ∀ d ∈ tables_1, d.before a0 Z = true) (ws : List Jvm.Cond) (cu : Nat) (h0 : Heap) (n0 : Nat) (Z0 : n0 ≤ h0.size) (hc : cu < 256) :
    MetFree l (⟨"com/example/entayl/entayl/input/IriTableIsPlainIriPinLaw", "query", "(I)Z"⟩ : MethodName) (head1 (Jvm.Cond.code (⟨"com/example/entayl/entayl/input/IriTableIsPlainIriPinLaw", "query", "(I)Z"⟩ : MethodName) method_12_code 1 (some .boolean) :: ws) ({ frames := 3, cells := 0, slots := 0, locals := 36 } : Room)) (fun as_ U => as_ = #[(.int (Int32.ofNat cu))] ∧ Z.Warmed39 U.vm ∧ U.heap = h0) (fun _ _ _ _ _ => True) (fun _ U o U' => ∃ v L, o = .returned v ∧ Q_query Z cu h0 n0 v U'.heap L ∧ FrameEnd U o U' L ({ frames := 3, cells := 0, slots := 0, locals := 36 } : Room).cells ({ frames := 3, cells := 0, slots := 0, locals := 36 } : Room).slots) := by
  refine MetFree.of_bodySF (plainFor_of_name pn_query) hisR ?_
  intro p e s m args below meth c s₁ Bd hml0 hP hK
  obtain ⟨rfl, hZ, hh⟩ := hP
  have hx := Bd.exec
  have hby := Bd.bytes
  have hml : c.maxLocals = 1 := hml0
  have hown : s.vm.findClass "com/example/entayl/entayl/input/IriTableIsPlainIriPinLaw" = some m.cls := findClass_of_methodNamed Bd.named
  have hnm := (name_of_methodNamed Bd.named Bd.method).1
  have X0 : Stand p l e ({ frames := 3, cells := 0, slots := 0, locals := 36 } : Room) s m #[(.int (Int32.ofNat cu))] below meth c s₁ [] 0 0 := Stand.of_body Bd
  have e0 : s₁.heap = h0 := by rw [← hh, Bd.state]; rfl
  have N0 := Fr.nil n0
  refine Go.out ?_
  refine Go.pre (fun t k => castTop (ef_query m (Int32.ofNat cu)) k) ?_
  show Go p e below _ (s₁.setTop (mkF m 0 #[iv (Int32.ofNat cu)] []))
  refine Go.pre (fun _ k => XS.iloadN X0.here hx rfl (hb hby d_method_12_0) rfl k) ?_
  show Go p e below _ (s₁.setTop (mkF m 1 #[iv (Int32.ofNat cu)] [(.int (Int32.ofNat cu))]))
  obtain ⟨_, _, ⟨T1, L1, k1, n1⟩, -, X1, ⟨Lc1, hQ1, l1, y1, z1⟩, st1⟩ := Jvm.LawKit.callS X0 hx (y := (⟨"com/example/entayl/entayl/input/IriTableIsPlainIriPinLaw", "path", "(I)Z"⟩ : MethodName)) hown (mvT hZ (hw _ (List.mem_of_getElem? (i := 24) rfl))) (mvT hZ (hw _ (List.mem_of_getElem? (i := 25) rfl))) (mvT hZ (hw _ (List.mem_of_getElem? (i := 19) rfl))) (mvT hZ (hw _ (List.mem_of_getElem? (i := 26) rfl))) (by decide) (backOf (W := 0) (rm_path l Z a0 hw [] cu h0 n0 Z0 hc) hZ (hw _ (List.mem_of_getElem? (i := 26) rfl)) (hw _ (List.mem_of_getElem? (i := 19) rfl)) (by decide) (by decide)) (g := (mkF m 1 #[iv (Int32.ofNat cu)] [(.int (Int32.ofNat cu))])) rfl (by rw [hml]; rfl) (argsL := [(.int (Int32.ofNat cu))]) (rest := []) (lenOf pd_0 rfl) rfl (by show 2 * 0 + _ ≤ _; exact Nat.le_of_eq rfl) (hb hby d_method_12_1) (fun _ _ => ⟨rfl, e0, (by decide : 0 + 0 ≤ _), (by decide : 0 + 0 ≤ _)⟩)
  dsimp only [Pt.U, Pt.locs, Pt.cells, Pt.slots] at X1 l1 y1 z1 st1 hQ1
  subst l1 y1 z1
  refine Go.pre st1 ?_
  rcases hQ1 with ⟨hp1, rfl, N1q, eh1⟩ | ⟨hp1, rfl, N1q, eh1⟩
  · skip
    have N1 := Fr.app N0 N1q
    show Go p e below _ (T1.setTop (mkF m 4 #[iv (Int32.ofNat cu)] [(.int (1 : Int32))]))
    refine Go.pre (fun _ k => XS.ifYes X1.here hx rfl (pc0 := 4) (pc' := 13) rfl (hb hby d_method_12_4) rfl ((if0 _ _).trans (feq (by decide : ¬ ((1 : Int32) = (0 : Int32)))).2) (by decide) (by decide) k) ?_
    show Go p e below _ (T1.setTop (mkF m 13 #[iv (Int32.ofNat cu)] []))
    refine Go.pre (fun _ k => XS.iconst X1.here hx rfl (hb hby d_method_12_13) k) ?_
    show Go p e below _ (T1.setTop (mkF m 14 #[iv (Int32.ofNat cu)] [(.int (1 : Int32))]))
    refine Go.pre (fun _ k => XS.goto X1.here hx rfl (pc0 := 14) (pc' := 18) rfl (hb hby d_method_12_14) (by decide) (by decide) k) ?_
    show Go p e below _ (T1.setTop (mkF m 18 #[iv (Int32.ofNat cu)] [(.int (1 : Int32))]))
    obtain ⟨fs, hr, hrun, hended, hW, hsame⟩ := X1.leave (v := some (.int (1 : Int32))) (fun h => by rw [Bd.returns] at h; cases h)
    refine Go.fin (retN X1 hx (t := .boolean) Bd.returns (by simp) (hb hby d_method_12_18) hr) ⟨hrun, hended, _, _, rfl, ?_, ⟨_, rfl⟩, hW, hsame.mono (by decide) (by decide)⟩
    show Q_query Z cu h0 n0 _ T1.heap _
    rw [eh1]
    exact Or.inl ⟨by first | (simp [own_query, hp1]; done) | (simp [own_query, hp1]; omega), rfl, N1, rfl⟩
  · skip
    have N1 := Fr.app N0 N1q
    show Go p e below _ (T1.setTop (mkF m 4 #[iv (Int32.ofNat cu)] [(.int (0 : Int32))]))
    refine Go.pre (fun _ k => XS.ifNo X1.here hx rfl (hb hby d_method_12_4) rfl ((if0 _ _).trans (teq (by decide : (0 : Int32) = (0 : Int32))).2) k) ?_
    show Go p e below _ (T1.setTop (mkF m 7 #[iv (Int32.ofNat cu)] []))
    refine Go.pre (fun _ k => XS.iloadN X1.here hx rfl (hb hby d_method_12_7) rfl k) ?_
    show Go p e below _ (T1.setTop (mkF m 8 #[iv (Int32.ofNat cu)] [(.int (Int32.ofNat cu))]))
    refine Go.pre (fun _ k => XS.bipush X1.here hx rfl (hb hby d_method_12_8) k) ?_
    show Go p e below _ (T1.setTop (mkF m 10 #[iv (Int32.ofNat cu)] [(.int (63 : Int32)), (.int (Int32.ofNat cu))]))
    by_cases hc10_2 : cu = 63
    · skip
      refine Go.pre (fun _ k => XS.icmpNo X1.here hx rfl (hb hby d_method_12_10) rfl (teq ((own_oe (a := cu) (b := 63) (by omega) (by omega)).mpr hc10_2)).2 k) ?_
      show Go p e below _ (T1.setTop (mkF m 13 #[iv (Int32.ofNat cu)] []))
      refine Go.pre (fun _ k => XS.iconst X1.here hx rfl (hb hby d_method_12_13) k) ?_
      show Go p e below _ (T1.setTop (mkF m 14 #[iv (Int32.ofNat cu)] [(.int (1 : Int32))]))
      refine Go.pre (fun _ k => XS.goto X1.here hx rfl (pc0 := 14) (pc' := 18) rfl (hb hby d_method_12_14) (by decide) (by decide) k) ?_
      show Go p e below _ (T1.setTop (mkF m 18 #[iv (Int32.ofNat cu)] [(.int (1 : Int32))]))
      obtain ⟨fs, hr, hrun, hended, hW, hsame⟩ := X1.leave (v := some (.int (1 : Int32))) (fun h => by rw [Bd.returns] at h; cases h)
      refine Go.fin (retN X1 hx (t := .boolean) Bd.returns (by simp) (hb hby d_method_12_18) hr) ⟨hrun, hended, _, _, rfl, ?_, ⟨_, rfl⟩, hW, hsame.mono (by decide) (by decide)⟩
      show Q_query Z cu h0 n0 _ T1.heap _
      rw [eh1]
      exact Or.inl ⟨by first | (simp [own_query, hp1, hc10_2]; done) | (simp [own_query, hp1, hc10_2]; omega), rfl, N1, rfl⟩
    · skip
      refine Go.pre (fun _ k => XS.icmpYes X1.here hx rfl (pc0 := 10) (pc' := 17) rfl (hb hby d_method_12_10) rfl (feq (fun q => hc10_2 ((own_oe (a := cu) (b := 63) (by omega) (by omega)).mp q))).2 (by decide) (by decide) k) ?_
      show Go p e below _ (T1.setTop (mkF m 17 #[iv (Int32.ofNat cu)] []))
      refine Go.pre (fun _ k => XS.iconst X1.here hx rfl (hb hby d_method_12_17) k) ?_
      show Go p e below _ (T1.setTop (mkF m 18 #[iv (Int32.ofNat cu)] [(.int (0 : Int32))]))
      obtain ⟨fs, hr, hrun, hended, hW, hsame⟩ := X1.leave (v := some (.int (0 : Int32))) (fun h => by rw [Bd.returns] at h; cases h)
      refine Go.fin (retN X1 hx (t := .boolean) Bd.returns (by simp) (hb hby d_method_12_18) hr) ⟨hrun, hended, _, _, rfl, ?_, ⟨_, rfl⟩, hW, hsame.mono (by decide) (by decide)⟩
      show Q_query Z cu h0 n0 _ T1.heap _
      rw [eh1]
      exact Or.inr ⟨by first | (simp [own_query, hp1, hc10_2]; done) | (simp [own_query, hp1, hc10_2]; omega), rfl, N1, rfl⟩

theorem ef_eA (m : MethodId) (x0 : Int32) (x1 : Int32) : entryFrame m #[(.int x0), (.int x1)] 2 = mkF m 0 #[iv x0, iv x1] [] := by first | (simp [entryFrame, mkF, argsToLocals, Value.category]; done) | rfl
theorem pn_eA : plainName "com/example/entayl/entayl/input/IriTableIsPlainIriPinLaw" = true := by first | (simp [plainName, overriddenIn]; done) | decide +kernel
def Q_eA (Z : State) (ku : Nat) (cu : Nat) (h0 : Heap) (n0 : Nat) (v : Option Value) (h : Heap) (L : List Loc) : Prop := (own_eA ku cu = true ∧ v = some (.int 1) ∧ Fr n0 L ∧ h = h0) ∨ (¬ own_eA ku cu = true ∧ v = some (.int 0) ∧ Fr n0 L ∧ h = h0)
set_option maxRecDepth 65536 in
set_option maxHeartbeats 40000000 in
theorem rm_eA (l : Launch) (Z : State) (a0 : Array Value) (hw : ∀ d ∈ tables_1, d.before a0 Z = true) (ws : List Jvm.Cond) (ku : Nat) (cu : Nat) (h0 : Heap) (n0 : Nat) (Z0 : n0 ≤ h0.size) (hk : ku < 32) (hc : cu < 256) :
    MetFree l (⟨"com/example/entayl/entayl/input/IriTableIsPlainIriPinLaw", "expectA", "(II)Z"⟩ : MethodName) (head1 (Jvm.Cond.code (⟨"com/example/entayl/entayl/input/IriTableIsPlainIriPinLaw", "expectA", "(II)Z"⟩ : MethodName) method_3_code 2 (some .boolean) :: ws) ({ frames := 4, cells := 0, slots := 0, locals := 48 } : Room)) (fun as_ U => as_ = #[(.int (Int32.ofNat ku)), (.int (Int32.ofNat cu))] ∧ Z.Warmed39 U.vm ∧ U.heap = h0) (fun _ _ _ _ _ => True) (fun _ U o U' => ∃ v L, o = .returned v ∧ Q_eA Z ku cu h0 n0 v U'.heap L ∧ FrameEnd U o U' L ({ frames := 4, cells := 0, slots := 0, locals := 48 } : Room).cells ({ frames := 4, cells := 0, slots := 0, locals := 48 } : Room).slots) := by
  refine MetFree.of_bodySF (plainFor_of_name pn_eA) hisR ?_
  intro p e s m args below meth c s₁ Bd hml0 hP hK
  obtain ⟨rfl, hZ, hh⟩ := hP
  have hx := Bd.exec
  have hby := Bd.bytes
  have hml : c.maxLocals = 2 := hml0
  have hown : s.vm.findClass "com/example/entayl/entayl/input/IriTableIsPlainIriPinLaw" = some m.cls := findClass_of_methodNamed Bd.named
  have hnm := (name_of_methodNamed Bd.named Bd.method).1
  have X0 : Stand p l e ({ frames := 4, cells := 0, slots := 0, locals := 48 } : Room) s m #[(.int (Int32.ofNat ku)), (.int (Int32.ofNat cu))] below meth c s₁ [] 0 0 := Stand.of_body Bd
  have e0 : s₁.heap = h0 := by rw [← hh, Bd.state]; rfl
  have N0 := Fr.nil n0
  refine Go.out ?_
  refine Go.pre (fun t k => castTop (ef_eA m (Int32.ofNat ku) (Int32.ofNat cu)) k) ?_
  show Go p e below _ (s₁.setTop (mkF m 0 #[iv (Int32.ofNat ku), iv (Int32.ofNat cu)] []))
  refine Go.pre (fun _ k => XS.iloadN X0.here hx rfl (hb hby d_method_3_0) rfl k) ?_
  show Go p e below _ (s₁.setTop (mkF m 1 #[iv (Int32.ofNat ku), iv (Int32.ofNat cu)] [(.int (Int32.ofNat ku))]))
  by_cases hc1_1 : ku = 0
  · skip
    refine Go.pre (fun _ k => XS.ifYes X0.here hx rfl (pc0 := 1) (pc' := 9) rfl (hb hby d_method_3_1) rfl ((if0 _ _).trans (teq ((own_oe (a := ku) (b := 0) (by omega) (by omega)).mpr hc1_1)).1) (by decide) (by decide) k) ?_
    show Go p e below _ (s₁.setTop (mkF m 9 #[iv (Int32.ofNat ku), iv (Int32.ofNat cu)] []))
    refine Go.pre (fun _ k => XS.iloadN X0.here hx rfl (hb hby d_method_3_9) rfl k) ?_
    show Go p e below _ (s₁.setTop (mkF m 10 #[iv (Int32.ofNat ku), iv (Int32.ofNat cu)] [(.int (Int32.ofNat cu))]))
    obtain ⟨_, _, ⟨T2, L2, k2, n2⟩, -, X2, ⟨Lc2, hQ2, l2, y2, z2⟩, st2⟩ := Jvm.LawKit.callS X0 hx (y := (⟨"com/example/entayl/entayl/input/IriTableIsPlainIriPinLaw", "letter", "(I)Z"⟩ : MethodName)) hown (mvT hZ (hw _ (List.mem_of_getElem? (i := 30) rfl))) (mvT hZ (hw _ (List.mem_of_getElem? (i := 31) rfl))) (mvT hZ (hw _ (List.mem_of_getElem? (i := 19) rfl))) (mvT hZ (hw _ (List.mem_of_getElem? (i := 32) rfl))) (by decide) (backOf (W := 0) (rm_letter l Z a0 hw [] cu h0 n0 Z0 hc) hZ (hw _ (List.mem_of_getElem? (i := 32) rfl)) (hw _ (List.mem_of_getElem? (i := 19) rfl)) (by decide) (by decide)) (g := (mkF m 10 #[iv (Int32.ofNat ku), iv (Int32.ofNat cu)] [(.int (Int32.ofNat cu))])) rfl (by rw [hml]; rfl) (argsL := [(.int (Int32.ofNat cu))]) (rest := []) (lenOf pd_0 rfl) rfl (by show 2 * 0 + _ ≤ _; exact Nat.le_of_eq rfl) (hb hby d_method_3_10) (fun _ _ => ⟨rfl, e0, (by decide : 0 + 0 ≤ _), (by decide : 0 + 0 ≤ _)⟩)
    dsimp only [Pt.U, Pt.locs, Pt.cells, Pt.slots] at X2 l2 y2 z2 st2 hQ2
    subst l2 y2 z2
    refine Go.pre st2 ?_
    rcases hQ2 with ⟨hp2, rfl, N2q, eh2⟩ | ⟨hp2, rfl, N2q, eh2⟩
    · skip
      have N2 := Fr.app N0 N2q
      show Go p e below _ (T2.setTop (mkF m 13 #[iv (Int32.ofNat ku), iv (Int32.ofNat cu)] [(.int (1 : Int32))]))
      obtain ⟨fs, hr, hrun, hended, hW, hsame⟩ := X2.leave (v := some (.int (1 : Int32))) (fun h => by rw [Bd.returns] at h; cases h)
      refine Go.fin (retN X2 hx (t := .boolean) Bd.returns (by simp) (hb hby d_method_3_13) hr) ⟨hrun, hended, _, _, rfl, ?_, ⟨_, rfl⟩, hW, hsame.mono (by decide) (by decide)⟩
      show Q_eA Z ku cu h0 n0 _ T2.heap _
      rw [eh2]
      exact Or.inl ⟨by first | (simp [own_eA, hc1_1, hp2]; done) | (simp [own_eA, hc1_1, hp2]; omega), rfl, N2, rfl⟩
    · skip
      have N2 := Fr.app N0 N2q
      show Go p e below _ (T2.setTop (mkF m 13 #[iv (Int32.ofNat ku), iv (Int32.ofNat cu)] [(.int (0 : Int32))]))
      obtain ⟨fs, hr, hrun, hended, hW, hsame⟩ := X2.leave (v := some (.int (0 : Int32))) (fun h => by rw [Bd.returns] at h; cases h)
      refine Go.fin (retN X2 hx (t := .boolean) Bd.returns (by simp) (hb hby d_method_3_13) hr) ⟨hrun, hended, _, _, rfl, ?_, ⟨_, rfl⟩, hW, hsame.mono (by decide) (by decide)⟩
      show Q_eA Z ku cu h0 n0 _ T2.heap _
      rw [eh2]
      exact Or.inr ⟨by first | (simp [own_eA, hc1_1, hp2]; done) | (simp [own_eA, hc1_1, hp2]; omega), rfl, N2, rfl⟩
  · skip
    refine Go.pre (fun _ k => XS.ifNo X0.here hx rfl (hb hby d_method_3_1) rfl ((if0 _ _).trans (feq (fun q => hc1_1 ((own_oe (a := ku) (b := 0) (by omega) (by omega)).mp q))).1) k) ?_
    show Go p e below _ (s₁.setTop (mkF m 4 #[iv (Int32.ofNat ku), iv (Int32.ofNat cu)] []))
    refine Go.pre (fun _ k => XS.iloadN X0.here hx rfl (hb hby d_method_3_4) rfl k) ?_
    show Go p e below _ (s₁.setTop (mkF m 5 #[iv (Int32.ofNat ku), iv (Int32.ofNat cu)] [(.int (Int32.ofNat ku))]))
    refine Go.pre (fun _ k => XS.iconst X0.here hx rfl (hb hby d_method_3_5) k) ?_
    show Go p e below _ (s₁.setTop (mkF m 6 #[iv (Int32.ofNat ku), iv (Int32.ofNat cu)] [(.int (4 : Int32)), (.int (Int32.ofNat ku))]))
    by_cases hc6_3 : ku = 4
    · skip
      refine Go.pre (fun _ k => XS.icmpNo X0.here hx rfl (hb hby d_method_3_6) rfl (teq ((own_oe (a := ku) (b := 4) (by omega) (by omega)).mpr hc6_3)).2 k) ?_
      show Go p e below _ (s₁.setTop (mkF m 9 #[iv (Int32.ofNat ku), iv (Int32.ofNat cu)] []))
      refine Go.pre (fun _ k => XS.iloadN X0.here hx rfl (hb hby d_method_3_9) rfl k) ?_
      show Go p e below _ (s₁.setTop (mkF m 10 #[iv (Int32.ofNat ku), iv (Int32.ofNat cu)] [(.int (Int32.ofNat cu))]))
      obtain ⟨_, _, ⟨T4, L4, k4, n4⟩, -, X4, ⟨Lc4, hQ4, l4, y4, z4⟩, st4⟩ := Jvm.LawKit.callS X0 hx (y := (⟨"com/example/entayl/entayl/input/IriTableIsPlainIriPinLaw", "letter", "(I)Z"⟩ : MethodName)) hown (mvT hZ (hw _ (List.mem_of_getElem? (i := 30) rfl))) (mvT hZ (hw _ (List.mem_of_getElem? (i := 31) rfl))) (mvT hZ (hw _ (List.mem_of_getElem? (i := 19) rfl))) (mvT hZ (hw _ (List.mem_of_getElem? (i := 32) rfl))) (by decide) (backOf (W := 0) (rm_letter l Z a0 hw [] cu h0 n0 Z0 hc) hZ (hw _ (List.mem_of_getElem? (i := 32) rfl)) (hw _ (List.mem_of_getElem? (i := 19) rfl)) (by decide) (by decide)) (g := (mkF m 10 #[iv (Int32.ofNat ku), iv (Int32.ofNat cu)] [(.int (Int32.ofNat cu))])) rfl (by rw [hml]; rfl) (argsL := [(.int (Int32.ofNat cu))]) (rest := []) (lenOf pd_0 rfl) rfl (by show 2 * 0 + _ ≤ _; exact Nat.le_of_eq rfl) (hb hby d_method_3_10) (fun _ _ => ⟨rfl, e0, (by decide : 0 + 0 ≤ _), (by decide : 0 + 0 ≤ _)⟩)
      dsimp only [Pt.U, Pt.locs, Pt.cells, Pt.slots] at X4 l4 y4 z4 st4 hQ4
      subst l4 y4 z4
      refine Go.pre st4 ?_
      rcases hQ4 with ⟨hp4, rfl, N4q, eh4⟩ | ⟨hp4, rfl, N4q, eh4⟩
      · skip
        have N4 := Fr.app N0 N4q
        show Go p e below _ (T4.setTop (mkF m 13 #[iv (Int32.ofNat ku), iv (Int32.ofNat cu)] [(.int (1 : Int32))]))
        obtain ⟨fs, hr, hrun, hended, hW, hsame⟩ := X4.leave (v := some (.int (1 : Int32))) (fun h => by rw [Bd.returns] at h; cases h)
        refine Go.fin (retN X4 hx (t := .boolean) Bd.returns (by simp) (hb hby d_method_3_13) hr) ⟨hrun, hended, _, _, rfl, ?_, ⟨_, rfl⟩, hW, hsame.mono (by decide) (by decide)⟩
        show Q_eA Z ku cu h0 n0 _ T4.heap _
        rw [eh4]
        exact Or.inl ⟨by first | (simp [own_eA, hc1_1, hc6_3, hp4]; done) | (simp [own_eA, hc1_1, hc6_3, hp4]; omega), rfl, N4, rfl⟩
      · skip
        have N4 := Fr.app N0 N4q
        show Go p e below _ (T4.setTop (mkF m 13 #[iv (Int32.ofNat ku), iv (Int32.ofNat cu)] [(.int (0 : Int32))]))
        obtain ⟨fs, hr, hrun, hended, hW, hsame⟩ := X4.leave (v := some (.int (0 : Int32))) (fun h => by rw [Bd.returns] at h; cases h)
        refine Go.fin (retN X4 hx (t := .boolean) Bd.returns (by simp) (hb hby d_method_3_13) hr) ⟨hrun, hended, _, _, rfl, ?_, ⟨_, rfl⟩, hW, hsame.mono (by decide) (by decide)⟩
        show Q_eA Z ku cu h0 n0 _ T4.heap _
        rw [eh4]
        exact Or.inr ⟨by first | (simp [own_eA, hc1_1, hc6_3, hp4]; done) | (simp [own_eA, hc1_1, hc6_3, hp4]; omega), rfl, N4, rfl⟩
    · skip
      refine Go.pre (fun _ k => XS.icmpYes X0.here hx rfl (pc0 := 6) (pc' := 14) rfl (hb hby d_method_3_6) rfl (feq (fun q => hc6_3 ((own_oe (a := ku) (b := 4) (by omega) (by omega)).mp q))).2 (by decide) (by decide) k) ?_
      show Go p e below _ (s₁.setTop (mkF m 14 #[iv (Int32.ofNat ku), iv (Int32.ofNat cu)] []))
      refine Go.pre (fun _ k => XS.iloadN X0.here hx rfl (hb hby d_method_3_14) rfl k) ?_
      show Go p e below _ (s₁.setTop (mkF m 15 #[iv (Int32.ofNat ku), iv (Int32.ofNat cu)] [(.int (Int32.ofNat ku))]))
      refine Go.pre (fun _ k => XS.iconst X0.here hx rfl (hb hby d_method_3_15) k) ?_
      show Go p e below _ (s₁.setTop (mkF m 16 #[iv (Int32.ofNat ku), iv (Int32.ofNat cu)] [(.int (1 : Int32)), (.int (Int32.ofNat ku))]))
      by_cases hc16_5 : ku = 1
      · skip
        refine Go.pre (fun _ k => XS.icmpNo X0.here hx rfl (hb hby d_method_3_16) rfl (teq ((own_oe (a := ku) (b := 1) (by omega) (by omega)).mpr hc16_5)).2 k) ?_
        show Go p e below _ (s₁.setTop (mkF m 19 #[iv (Int32.ofNat ku), iv (Int32.ofNat cu)] []))
        refine Go.pre (fun _ k => XS.iloadN X0.here hx rfl (hb hby d_method_3_19) rfl k) ?_
        show Go p e below _ (s₁.setTop (mkF m 20 #[iv (Int32.ofNat ku), iv (Int32.ofNat cu)] [(.int (Int32.ofNat cu))]))
        refine Go.pre (fun _ k => XS.bipush X0.here hx rfl (hb hby d_method_3_20) k) ?_
        show Go p e below _ (s₁.setTop (mkF m 22 #[iv (Int32.ofNat ku), iv (Int32.ofNat cu)] [(.int (58 : Int32)), (.int (Int32.ofNat cu))]))
        by_cases hc22_6 : cu = 58
        · skip
          refine Go.pre (fun _ k => XS.icmpNo X0.here hx rfl (hb hby d_method_3_22) rfl (teq ((own_oe (a := cu) (b := 58) (by omega) (by omega)).mpr hc22_6)).2 k) ?_
          show Go p e below _ (s₁.setTop (mkF m 25 #[iv (Int32.ofNat ku), iv (Int32.ofNat cu)] []))
          refine Go.pre (fun _ k => XS.iconst X0.here hx rfl (hb hby d_method_3_25) k) ?_
          show Go p e below _ (s₁.setTop (mkF m 26 #[iv (Int32.ofNat ku), iv (Int32.ofNat cu)] [(.int (1 : Int32))]))
          refine Go.pre (fun _ k => XS.goto X0.here hx rfl (pc0 := 26) (pc' := 30) rfl (hb hby d_method_3_26) (by decide) (by decide) k) ?_
          show Go p e below _ (s₁.setTop (mkF m 30 #[iv (Int32.ofNat ku), iv (Int32.ofNat cu)] [(.int (1 : Int32))]))
          obtain ⟨fs, hr, hrun, hended, hW, hsame⟩ := X0.leave (v := some (.int (1 : Int32))) (fun h => by rw [Bd.returns] at h; cases h)
          refine Go.fin (retN X0 hx (t := .boolean) Bd.returns (by simp) (hb hby d_method_3_30) hr) ⟨hrun, hended, _, _, rfl, ?_, ⟨_, rfl⟩, hW, hsame.mono (by decide) (by decide)⟩
          show Q_eA Z ku cu h0 n0 _ s₁.heap _
          rw [e0]
          exact Or.inl ⟨by first | (simp [own_eA, hc1_1, hc6_3, hc16_5, hc22_6]; done) | (simp [own_eA, hc1_1, hc6_3, hc16_5, hc22_6]; omega), rfl, N0, rfl⟩
        · skip
          refine Go.pre (fun _ k => XS.icmpYes X0.here hx rfl (pc0 := 22) (pc' := 29) rfl (hb hby d_method_3_22) rfl (feq (fun q => hc22_6 ((own_oe (a := cu) (b := 58) (by omega) (by omega)).mp q))).2 (by decide) (by decide) k) ?_
          show Go p e below _ (s₁.setTop (mkF m 29 #[iv (Int32.ofNat ku), iv (Int32.ofNat cu)] []))
          refine Go.pre (fun _ k => XS.iconst X0.here hx rfl (hb hby d_method_3_29) k) ?_
          show Go p e below _ (s₁.setTop (mkF m 30 #[iv (Int32.ofNat ku), iv (Int32.ofNat cu)] [(.int (0 : Int32))]))
          obtain ⟨fs, hr, hrun, hended, hW, hsame⟩ := X0.leave (v := some (.int (0 : Int32))) (fun h => by rw [Bd.returns] at h; cases h)
          refine Go.fin (retN X0 hx (t := .boolean) Bd.returns (by simp) (hb hby d_method_3_30) hr) ⟨hrun, hended, _, _, rfl, ?_, ⟨_, rfl⟩, hW, hsame.mono (by decide) (by decide)⟩
          show Q_eA Z ku cu h0 n0 _ s₁.heap _
          rw [e0]
          exact Or.inr ⟨by first | (simp [own_eA, hc1_1, hc6_3, hc16_5, hc22_6]; done) | (simp [own_eA, hc1_1, hc6_3, hc16_5, hc22_6]; omega), rfl, N0, rfl⟩
      · skip
        refine Go.pre (fun _ k => XS.icmpYes X0.here hx rfl (pc0 := 16) (pc' := 31) rfl (hb hby d_method_3_16) rfl (feq (fun q => hc16_5 ((own_oe (a := ku) (b := 1) (by omega) (by omega)).mp q))).2 (by decide) (by decide) k) ?_
        show Go p e below _ (s₁.setTop (mkF m 31 #[iv (Int32.ofNat ku), iv (Int32.ofNat cu)] []))
        refine Go.pre (fun _ k => XS.iloadN X0.here hx rfl (hb hby d_method_3_31) rfl k) ?_
        show Go p e below _ (s₁.setTop (mkF m 32 #[iv (Int32.ofNat ku), iv (Int32.ofNat cu)] [(.int (Int32.ofNat ku))]))
        refine Go.pre (fun _ k => XS.iconst X0.here hx rfl (hb hby d_method_3_32) k) ?_
        show Go p e below _ (s₁.setTop (mkF m 33 #[iv (Int32.ofNat ku), iv (Int32.ofNat cu)] [(.int (5 : Int32)), (.int (Int32.ofNat ku))]))
        by_cases hc33_7 : ku = 5
        · skip
          refine Go.pre (fun _ k => XS.icmpNo X0.here hx rfl (hb hby d_method_3_33) rfl (teq ((own_oe (a := ku) (b := 5) (by omega) (by omega)).mpr hc33_7)).2 k) ?_
          show Go p e below _ (s₁.setTop (mkF m 36 #[iv (Int32.ofNat ku), iv (Int32.ofNat cu)] []))
          refine Go.pre (fun _ k => XS.iloadN X0.here hx rfl (hb hby d_method_3_36) rfl k) ?_
          show Go p e below _ (s₁.setTop (mkF m 37 #[iv (Int32.ofNat ku), iv (Int32.ofNat cu)] [(.int (Int32.ofNat cu))]))
          obtain ⟨_, _, ⟨T8, L8, k8, n8⟩, -, X8, ⟨Lc8, hQ8, l8, y8, z8⟩, st8⟩ := Jvm.LawKit.callS X0 hx (y := (⟨"com/example/entayl/entayl/input/IriTableIsPlainIriPinLaw", "host", "(I)Z"⟩ : MethodName)) hown (mvT hZ (hw _ (List.mem_of_getElem? (i := 27) rfl))) (mvT hZ (hw _ (List.mem_of_getElem? (i := 28) rfl))) (mvT hZ (hw _ (List.mem_of_getElem? (i := 19) rfl))) (mvT hZ (hw _ (List.mem_of_getElem? (i := 29) rfl))) (by decide) (backOf (W := 0) (rm_host l Z a0 hw [] cu h0 n0 Z0 hc) hZ (hw _ (List.mem_of_getElem? (i := 29) rfl)) (hw _ (List.mem_of_getElem? (i := 19) rfl)) (by decide) (by decide)) (g := (mkF m 37 #[iv (Int32.ofNat ku), iv (Int32.ofNat cu)] [(.int (Int32.ofNat cu))])) rfl (by rw [hml]; rfl) (argsL := [(.int (Int32.ofNat cu))]) (rest := []) (lenOf pd_0 rfl) rfl (by show 2 * 0 + _ ≤ _; exact Nat.le_of_eq rfl) (hb hby d_method_3_37) (fun _ _ => ⟨rfl, e0, (by decide : 0 + 0 ≤ _), (by decide : 0 + 0 ≤ _)⟩)
          dsimp only [Pt.U, Pt.locs, Pt.cells, Pt.slots] at X8 l8 y8 z8 st8 hQ8
          subst l8 y8 z8
          refine Go.pre st8 ?_
          rcases hQ8 with ⟨hp8, rfl, N8q, eh8⟩ | ⟨hp8, rfl, N8q, eh8⟩
          · skip
            have N8 := Fr.app N0 N8q
            show Go p e below _ (T8.setTop (mkF m 40 #[iv (Int32.ofNat ku), iv (Int32.ofNat cu)] [(.int (1 : Int32))]))
            refine Go.pre (fun _ k => XS.ifYes X8.here hx rfl (pc0 := 40) (pc' := 61) rfl (hb hby d_method_3_40) rfl ((if0 _ _).trans (feq (by decide : ¬ ((1 : Int32) = (0 : Int32)))).2) (by decide) (by decide) k) ?_
            show Go p e below _ (T8.setTop (mkF m 61 #[iv (Int32.ofNat ku), iv (Int32.ofNat cu)] []))
            refine Go.pre (fun _ k => XS.iconst X8.here hx rfl (hb hby d_method_3_61) k) ?_
            show Go p e below _ (T8.setTop (mkF m 62 #[iv (Int32.ofNat ku), iv (Int32.ofNat cu)] [(.int (1 : Int32))]))
            refine Go.pre (fun _ k => XS.goto X8.here hx rfl (pc0 := 62) (pc' := 66) rfl (hb hby d_method_3_62) (by decide) (by decide) k) ?_
            show Go p e below _ (T8.setTop (mkF m 66 #[iv (Int32.ofNat ku), iv (Int32.ofNat cu)] [(.int (1 : Int32))]))
            obtain ⟨fs, hr, hrun, hended, hW, hsame⟩ := X8.leave (v := some (.int (1 : Int32))) (fun h => by rw [Bd.returns] at h; cases h)
            refine Go.fin (retN X8 hx (t := .boolean) Bd.returns (by simp) (hb hby d_method_3_66) hr) ⟨hrun, hended, _, _, rfl, ?_, ⟨_, rfl⟩, hW, hsame.mono (by decide) (by decide)⟩
            show Q_eA Z ku cu h0 n0 _ T8.heap _
            rw [eh8]
            exact Or.inl ⟨by first | (simp [own_eA, hc1_1, hc6_3, hc16_5, hc33_7, hp8]; done) | (simp [own_eA, hc1_1, hc6_3, hc16_5, hc33_7, hp8]; omega), rfl, N8, rfl⟩
          · skip
            have N8 := Fr.app N0 N8q
            show Go p e below _ (T8.setTop (mkF m 40 #[iv (Int32.ofNat ku), iv (Int32.ofNat cu)] [(.int (0 : Int32))]))
            refine Go.pre (fun _ k => XS.ifNo X8.here hx rfl (hb hby d_method_3_40) rfl ((if0 _ _).trans (teq (by decide : (0 : Int32) = (0 : Int32))).2) k) ?_
            show Go p e below _ (T8.setTop (mkF m 43 #[iv (Int32.ofNat ku), iv (Int32.ofNat cu)] []))
            refine Go.pre (fun _ k => XS.iloadN X8.here hx rfl (hb hby d_method_3_43) rfl k) ?_
            show Go p e below _ (T8.setTop (mkF m 44 #[iv (Int32.ofNat ku), iv (Int32.ofNat cu)] [(.int (Int32.ofNat cu))]))
            refine Go.pre (fun _ k => XS.bipush X8.here hx rfl (hb hby d_method_3_44) k) ?_
            show Go p e below _ (T8.setTop (mkF m 46 #[iv (Int32.ofNat ku), iv (Int32.ofNat cu)] [(.int (58 : Int32)), (.int (Int32.ofNat cu))]))
            by_cases hc46_9 : cu = 58
            · skip
              refine Go.pre (fun _ k => XS.icmpYes X8.here hx rfl (pc0 := 46) (pc' := 61) rfl (hb hby d_method_3_46) rfl (teq ((own_oe (a := cu) (b := 58) (by omega) (by omega)).mpr hc46_9)).1 (by decide) (by decide) k) ?_
              show Go p e below _ (T8.setTop (mkF m 61 #[iv (Int32.ofNat ku), iv (Int32.ofNat cu)] []))
              refine Go.pre (fun _ k => XS.iconst X8.here hx rfl (hb hby d_method_3_61) k) ?_
              show Go p e below _ (T8.setTop (mkF m 62 #[iv (Int32.ofNat ku), iv (Int32.ofNat cu)] [(.int (1 : Int32))]))
              refine Go.pre (fun _ k => XS.goto X8.here hx rfl (pc0 := 62) (pc' := 66) rfl (hb hby d_method_3_62) (by decide) (by decide) k) ?_
              show Go p e below _ (T8.setTop (mkF m 66 #[iv (Int32.ofNat ku), iv (Int32.ofNat cu)] [(.int (1 : Int32))]))
              obtain ⟨fs, hr, hrun, hended, hW, hsame⟩ := X8.leave (v := some (.int (1 : Int32))) (fun h => by rw [Bd.returns] at h; cases h)
              refine Go.fin (retN X8 hx (t := .boolean) Bd.returns (by simp) (hb hby d_method_3_66) hr) ⟨hrun, hended, _, _, rfl, ?_, ⟨_, rfl⟩, hW, hsame.mono (by decide) (by decide)⟩
              show Q_eA Z ku cu h0 n0 _ T8.heap _
              rw [eh8]
              exact Or.inl ⟨by first | (simp [own_eA, hc1_1, hc6_3, hc16_5, hc33_7, hp8, hc46_9]; done) | (simp [own_eA, hc1_1, hc6_3, hc16_5, hc33_7, hp8, hc46_9]; omega), rfl, N8, rfl⟩
            · skip
              refine Go.pre (fun _ k => XS.icmpNo X8.here hx rfl (hb hby d_method_3_46) rfl (feq (fun q => hc46_9 ((own_oe (a := cu) (b := 58) (by omega) (by omega)).mp q))).1 k) ?_
              show Go p e below _ (T8.setTop (mkF m 49 #[iv (Int32.ofNat ku), iv (Int32.ofNat cu)] []))
              refine Go.pre (fun _ k => XS.iloadN X8.here hx rfl (hb hby d_method_3_49) rfl k) ?_
              show Go p e below _ (T8.setTop (mkF m 50 #[iv (Int32.ofNat ku), iv (Int32.ofNat cu)] [(.int (Int32.ofNat cu))]))
              refine Go.pre (fun _ k => XS.bipush X8.here hx rfl (hb hby d_method_3_50) k) ?_
              show Go p e below _ (T8.setTop (mkF m 52 #[iv (Int32.ofNat ku), iv (Int32.ofNat cu)] [(.int (47 : Int32)), (.int (Int32.ofNat cu))]))
              by_cases hc52_10 : cu = 47
              · skip
                refine Go.pre (fun _ k => XS.icmpYes X8.here hx rfl (pc0 := 52) (pc' := 61) rfl (hb hby d_method_3_52) rfl (teq ((own_oe (a := cu) (b := 47) (by omega) (by omega)).mpr hc52_10)).1 (by decide) (by decide) k) ?_
                show Go p e below _ (T8.setTop (mkF m 61 #[iv (Int32.ofNat ku), iv (Int32.ofNat cu)] []))
                refine Go.pre (fun _ k => XS.iconst X8.here hx rfl (hb hby d_method_3_61) k) ?_
                show Go p e below _ (T8.setTop (mkF m 62 #[iv (Int32.ofNat ku), iv (Int32.ofNat cu)] [(.int (1 : Int32))]))
                refine Go.pre (fun _ k => XS.goto X8.here hx rfl (pc0 := 62) (pc' := 66) rfl (hb hby d_method_3_62) (by decide) (by decide) k) ?_
                show Go p e below _ (T8.setTop (mkF m 66 #[iv (Int32.ofNat ku), iv (Int32.ofNat cu)] [(.int (1 : Int32))]))
                obtain ⟨fs, hr, hrun, hended, hW, hsame⟩ := X8.leave (v := some (.int (1 : Int32))) (fun h => by rw [Bd.returns] at h; cases h)
                refine Go.fin (retN X8 hx (t := .boolean) Bd.returns (by simp) (hb hby d_method_3_66) hr) ⟨hrun, hended, _, _, rfl, ?_, ⟨_, rfl⟩, hW, hsame.mono (by decide) (by decide)⟩
                show Q_eA Z ku cu h0 n0 _ T8.heap _
                rw [eh8]
                exact Or.inl ⟨by first | (simp [own_eA, hc1_1, hc6_3, hc16_5, hc33_7, hp8, hc46_9, hc52_10]; done) | (simp [own_eA, hc1_1, hc6_3, hc16_5, hc33_7, hp8, hc46_9, hc52_10]; omega), rfl, N8, rfl⟩
              · skip
                refine Go.pre (fun _ k => XS.icmpNo X8.here hx rfl (hb hby d_method_3_52) rfl (feq (fun q => hc52_10 ((own_oe (a := cu) (b := 47) (by omega) (by omega)).mp q))).1 k) ?_
                show Go p e below _ (T8.setTop (mkF m 55 #[iv (Int32.ofNat ku), iv (Int32.ofNat cu)] []))
                refine Go.pre (fun _ k => XS.iloadN X8.here hx rfl (hb hby d_method_3_55) rfl k) ?_
                show Go p e below _ (T8.setTop (mkF m 56 #[iv (Int32.ofNat ku), iv (Int32.ofNat cu)] [(.int (Int32.ofNat cu))]))
                refine Go.pre (fun _ k => XS.bipush X8.here hx rfl (hb hby d_method_3_56) k) ?_
                show Go p e below _ (T8.setTop (mkF m 58 #[iv (Int32.ofNat ku), iv (Int32.ofNat cu)] [(.int (63 : Int32)), (.int (Int32.ofNat cu))]))
                by_cases hc58_11 : cu = 63
                · skip
                  refine Go.pre (fun _ k => XS.icmpNo X8.here hx rfl (hb hby d_method_3_58) rfl (teq ((own_oe (a := cu) (b := 63) (by omega) (by omega)).mpr hc58_11)).2 k) ?_
                  show Go p e below _ (T8.setTop (mkF m 61 #[iv (Int32.ofNat ku), iv (Int32.ofNat cu)] []))
                  refine Go.pre (fun _ k => XS.iconst X8.here hx rfl (hb hby d_method_3_61) k) ?_
                  show Go p e below _ (T8.setTop (mkF m 62 #[iv (Int32.ofNat ku), iv (Int32.ofNat cu)] [(.int (1 : Int32))]))
                  refine Go.pre (fun _ k => XS.goto X8.here hx rfl (pc0 := 62) (pc' := 66) rfl (hb hby d_method_3_62) (by decide) (by decide) k) ?_
                  show Go p e below _ (T8.setTop (mkF m 66 #[iv (Int32.ofNat ku), iv (Int32.ofNat cu)] [(.int (1 : Int32))]))
                  obtain ⟨fs, hr, hrun, hended, hW, hsame⟩ := X8.leave (v := some (.int (1 : Int32))) (fun h => by rw [Bd.returns] at h; cases h)
                  refine Go.fin (retN X8 hx (t := .boolean) Bd.returns (by simp) (hb hby d_method_3_66) hr) ⟨hrun, hended, _, _, rfl, ?_, ⟨_, rfl⟩, hW, hsame.mono (by decide) (by decide)⟩
                  show Q_eA Z ku cu h0 n0 _ T8.heap _
                  rw [eh8]
                  exact Or.inl ⟨by first | (simp [own_eA, hc1_1, hc6_3, hc16_5, hc33_7, hp8, hc46_9, hc52_10, hc58_11]; done) | (simp [own_eA, hc1_1, hc6_3, hc16_5, hc33_7, hp8, hc46_9, hc52_10, hc58_11]; omega), rfl, N8, rfl⟩
                · skip
                  refine Go.pre (fun _ k => XS.icmpYes X8.here hx rfl (pc0 := 58) (pc' := 65) rfl (hb hby d_method_3_58) rfl (feq (fun q => hc58_11 ((own_oe (a := cu) (b := 63) (by omega) (by omega)).mp q))).2 (by decide) (by decide) k) ?_
                  show Go p e below _ (T8.setTop (mkF m 65 #[iv (Int32.ofNat ku), iv (Int32.ofNat cu)] []))
                  refine Go.pre (fun _ k => XS.iconst X8.here hx rfl (hb hby d_method_3_65) k) ?_
                  show Go p e below _ (T8.setTop (mkF m 66 #[iv (Int32.ofNat ku), iv (Int32.ofNat cu)] [(.int (0 : Int32))]))
                  obtain ⟨fs, hr, hrun, hended, hW, hsame⟩ := X8.leave (v := some (.int (0 : Int32))) (fun h => by rw [Bd.returns] at h; cases h)
                  refine Go.fin (retN X8 hx (t := .boolean) Bd.returns (by simp) (hb hby d_method_3_66) hr) ⟨hrun, hended, _, _, rfl, ?_, ⟨_, rfl⟩, hW, hsame.mono (by decide) (by decide)⟩
                  show Q_eA Z ku cu h0 n0 _ T8.heap _
                  rw [eh8]
                  exact Or.inr ⟨by first | (simp [own_eA, hc1_1, hc6_3, hc16_5, hc33_7, hp8, hc46_9, hc52_10, hc58_11]; done) | (simp [own_eA, hc1_1, hc6_3, hc16_5, hc33_7, hp8, hc46_9, hc52_10, hc58_11]; omega), rfl, N8, rfl⟩
        · skip
          refine Go.pre (fun _ k => XS.icmpYes X0.here hx rfl (pc0 := 33) (pc' := 67) rfl (hb hby d_method_3_33) rfl (feq (fun q => hc33_7 ((own_oe (a := ku) (b := 5) (by omega) (by omega)).mp q))).2 (by decide) (by decide) k) ?_
          show Go p e below _ (s₁.setTop (mkF m 67 #[iv (Int32.ofNat ku), iv (Int32.ofNat cu)] []))
          refine Go.pre (fun _ k => XS.iloadN X0.here hx rfl (hb hby d_method_3_67) rfl k) ?_
          show Go p e below _ (s₁.setTop (mkF m 68 #[iv (Int32.ofNat ku), iv (Int32.ofNat cu)] [(.int (Int32.ofNat ku))]))
          refine Go.pre (fun _ k => XS.bipush X0.here hx rfl (hb hby d_method_3_68) k) ?_
          show Go p e below _ (s₁.setTop (mkF m 70 #[iv (Int32.ofNat ku), iv (Int32.ofNat cu)] [(.int (6 : Int32)), (.int (Int32.ofNat ku))]))
          by_cases hc70_12 : ku = 6
          · skip
            refine Go.pre (fun _ k => XS.icmpNo X0.here hx rfl (hb hby d_method_3_70) rfl (teq ((own_oe (a := ku) (b := 6) (by omega) (by omega)).mpr hc70_12)).2 k) ?_
            show Go p e below _ (s₁.setTop (mkF m 73 #[iv (Int32.ofNat ku), iv (Int32.ofNat cu)] []))
            refine Go.pre (fun _ k => XS.iloadN X0.here hx rfl (hb hby d_method_3_73) rfl k) ?_
            show Go p e below _ (s₁.setTop (mkF m 74 #[iv (Int32.ofNat ku), iv (Int32.ofNat cu)] [(.int (Int32.ofNat cu))]))
            obtain ⟨_, _, ⟨T13, L13, k13, n13⟩, -, X13, ⟨Lc13, hQ13, l13, y13, z13⟩, st13⟩ := Jvm.LawKit.callS X0 hx (y := (⟨"com/example/entayl/entayl/input/IriTableIsPlainIriPinLaw", "digit", "(I)Z"⟩ : MethodName)) hown (mvT hZ (hw _ (List.mem_of_getElem? (i := 33) rfl))) (mvT hZ (hw _ (List.mem_of_getElem? (i := 34) rfl))) (mvT hZ (hw _ (List.mem_of_getElem? (i := 19) rfl))) (mvT hZ (hw _ (List.mem_of_getElem? (i := 35) rfl))) (by decide) (backOf (W := 0) (rm_digit l Z a0 hw [] cu h0 n0 Z0 hc) hZ (hw _ (List.mem_of_getElem? (i := 35) rfl)) (hw _ (List.mem_of_getElem? (i := 19) rfl)) (by decide) (by decide)) (g := (mkF m 74 #[iv (Int32.ofNat ku), iv (Int32.ofNat cu)] [(.int (Int32.ofNat cu))])) rfl (by rw [hml]; rfl) (argsL := [(.int (Int32.ofNat cu))]) (rest := []) (lenOf pd_0 rfl) rfl (by show 2 * 0 + _ ≤ _; exact Nat.le_of_eq rfl) (hb hby d_method_3_74) (fun _ _ => ⟨rfl, e0, (by decide : 0 + 0 ≤ _), (by decide : 0 + 0 ≤ _)⟩)
            dsimp only [Pt.U, Pt.locs, Pt.cells, Pt.slots] at X13 l13 y13 z13 st13 hQ13
            subst l13 y13 z13
            refine Go.pre st13 ?_
            rcases hQ13 with ⟨hp13, rfl, N13q, eh13⟩ | ⟨hp13, rfl, N13q, eh13⟩
            · skip
              have N13 := Fr.app N0 N13q
              show Go p e below _ (T13.setTop (mkF m 77 #[iv (Int32.ofNat ku), iv (Int32.ofNat cu)] [(.int (1 : Int32))]))
              refine Go.pre (fun _ k => XS.ifYes X13.here hx rfl (pc0 := 77) (pc' := 92) rfl (hb hby d_method_3_77) rfl ((if0 _ _).trans (feq (by decide : ¬ ((1 : Int32) = (0 : Int32)))).2) (by decide) (by decide) k) ?_
              show Go p e below _ (T13.setTop (mkF m 92 #[iv (Int32.ofNat ku), iv (Int32.ofNat cu)] []))
              refine Go.pre (fun _ k => XS.iconst X13.here hx rfl (hb hby d_method_3_92) k) ?_
              show Go p e below _ (T13.setTop (mkF m 93 #[iv (Int32.ofNat ku), iv (Int32.ofNat cu)] [(.int (1 : Int32))]))
              refine Go.pre (fun _ k => XS.goto X13.here hx rfl (pc0 := 93) (pc' := 97) rfl (hb hby d_method_3_93) (by decide) (by decide) k) ?_
              show Go p e below _ (T13.setTop (mkF m 97 #[iv (Int32.ofNat ku), iv (Int32.ofNat cu)] [(.int (1 : Int32))]))
              obtain ⟨fs, hr, hrun, hended, hW, hsame⟩ := X13.leave (v := some (.int (1 : Int32))) (fun h => by rw [Bd.returns] at h; cases h)
              refine Go.fin (retN X13 hx (t := .boolean) Bd.returns (by simp) (hb hby d_method_3_97) hr) ⟨hrun, hended, _, _, rfl, ?_, ⟨_, rfl⟩, hW, hsame.mono (by decide) (by decide)⟩
              show Q_eA Z ku cu h0 n0 _ T13.heap _
              rw [eh13]
              exact Or.inl ⟨by first | (simp [own_eA, hc1_1, hc6_3, hc16_5, hc33_7, hc70_12, hp13]; done) | (simp [own_eA, hc1_1, hc6_3, hc16_5, hc33_7, hc70_12, hp13]; omega), rfl, N13, rfl⟩
            · skip
              have N13 := Fr.app N0 N13q
              show Go p e below _ (T13.setTop (mkF m 77 #[iv (Int32.ofNat ku), iv (Int32.ofNat cu)] [(.int (0 : Int32))]))
              refine Go.pre (fun _ k => XS.ifNo X13.here hx rfl (hb hby d_method_3_77) rfl ((if0 _ _).trans (teq (by decide : (0 : Int32) = (0 : Int32))).2) k) ?_
              show Go p e below _ (T13.setTop (mkF m 80 #[iv (Int32.ofNat ku), iv (Int32.ofNat cu)] []))
              refine Go.pre (fun _ k => XS.iloadN X13.here hx rfl (hb hby d_method_3_80) rfl k) ?_
              show Go p e below _ (T13.setTop (mkF m 81 #[iv (Int32.ofNat ku), iv (Int32.ofNat cu)] [(.int (Int32.ofNat cu))]))
              refine Go.pre (fun _ k => XS.bipush X13.here hx rfl (hb hby d_method_3_81) k) ?_
              show Go p e below _ (T13.setTop (mkF m 83 #[iv (Int32.ofNat ku), iv (Int32.ofNat cu)] [(.int (47 : Int32)), (.int (Int32.ofNat cu))]))
              by_cases hc83_14 : cu = 47
              · skip
                refine Go.pre (fun _ k => XS.icmpYes X13.here hx rfl (pc0 := 83) (pc' := 92) rfl (hb hby d_method_3_83) rfl (teq ((own_oe (a := cu) (b := 47) (by omega) (by omega)).mpr hc83_14)).1 (by decide) (by decide) k) ?_
                show Go p e below _ (T13.setTop (mkF m 92 #[iv (Int32.ofNat ku), iv (Int32.ofNat cu)] []))
                refine Go.pre (fun _ k => XS.iconst X13.here hx rfl (hb hby d_method_3_92) k) ?_
                show Go p e below _ (T13.setTop (mkF m 93 #[iv (Int32.ofNat ku), iv (Int32.ofNat cu)] [(.int (1 : Int32))]))
                refine Go.pre (fun _ k => XS.goto X13.here hx rfl (pc0 := 93) (pc' := 97) rfl (hb hby d_method_3_93) (by decide) (by decide) k) ?_
                show Go p e below _ (T13.setTop (mkF m 97 #[iv (Int32.ofNat ku), iv (Int32.ofNat cu)] [(.int (1 : Int32))]))
                obtain ⟨fs, hr, hrun, hended, hW, hsame⟩ := X13.leave (v := some (.int (1 : Int32))) (fun h => by rw [Bd.returns] at h; cases h)
                refine Go.fin (retN X13 hx (t := .boolean) Bd.returns (by simp) (hb hby d_method_3_97) hr) ⟨hrun, hended, _, _, rfl, ?_, ⟨_, rfl⟩, hW, hsame.mono (by decide) (by decide)⟩
                show Q_eA Z ku cu h0 n0 _ T13.heap _
                rw [eh13]
                exact Or.inl ⟨by first | (simp [own_eA, hc1_1, hc6_3, hc16_5, hc33_7, hc70_12, hp13, hc83_14]; done) | (simp [own_eA, hc1_1, hc6_3, hc16_5, hc33_7, hc70_12, hp13, hc83_14]; omega), rfl, N13, rfl⟩
              · skip
                refine Go.pre (fun _ k => XS.icmpNo X13.here hx rfl (hb hby d_method_3_83) rfl (feq (fun q => hc83_14 ((own_oe (a := cu) (b := 47) (by omega) (by omega)).mp q))).1 k) ?_
                show Go p e below _ (T13.setTop (mkF m 86 #[iv (Int32.ofNat ku), iv (Int32.ofNat cu)] []))
                refine Go.pre (fun _ k => XS.iloadN X13.here hx rfl (hb hby d_method_3_86) rfl k) ?_
                show Go p e below _ (T13.setTop (mkF m 87 #[iv (Int32.ofNat ku), iv (Int32.ofNat cu)] [(.int (Int32.ofNat cu))]))
                refine Go.pre (fun _ k => XS.bipush X13.here hx rfl (hb hby d_method_3_87) k) ?_
                show Go p e below _ (T13.setTop (mkF m 89 #[iv (Int32.ofNat ku), iv (Int32.ofNat cu)] [(.int (63 : Int32)), (.int (Int32.ofNat cu))]))
                by_cases hc89_15 : cu = 63
                · skip
                  refine Go.pre (fun _ k => XS.icmpNo X13.here hx rfl (hb hby d_method_3_89) rfl (teq ((own_oe (a := cu) (b := 63) (by omega) (by omega)).mpr hc89_15)).2 k) ?_
                  show Go p e below _ (T13.setTop (mkF m 92 #[iv (Int32.ofNat ku), iv (Int32.ofNat cu)] []))
                  refine Go.pre (fun _ k => XS.iconst X13.here hx rfl (hb hby d_method_3_92) k) ?_
                  show Go p e below _ (T13.setTop (mkF m 93 #[iv (Int32.ofNat ku), iv (Int32.ofNat cu)] [(.int (1 : Int32))]))
                  refine Go.pre (fun _ k => XS.goto X13.here hx rfl (pc0 := 93) (pc' := 97) rfl (hb hby d_method_3_93) (by decide) (by decide) k) ?_
                  show Go p e below _ (T13.setTop (mkF m 97 #[iv (Int32.ofNat ku), iv (Int32.ofNat cu)] [(.int (1 : Int32))]))
                  obtain ⟨fs, hr, hrun, hended, hW, hsame⟩ := X13.leave (v := some (.int (1 : Int32))) (fun h => by rw [Bd.returns] at h; cases h)
                  refine Go.fin (retN X13 hx (t := .boolean) Bd.returns (by simp) (hb hby d_method_3_97) hr) ⟨hrun, hended, _, _, rfl, ?_, ⟨_, rfl⟩, hW, hsame.mono (by decide) (by decide)⟩
                  show Q_eA Z ku cu h0 n0 _ T13.heap _
                  rw [eh13]
                  exact Or.inl ⟨by first | (simp [own_eA, hc1_1, hc6_3, hc16_5, hc33_7, hc70_12, hp13, hc83_14, hc89_15]; done) | (simp [own_eA, hc1_1, hc6_3, hc16_5, hc33_7, hc70_12, hp13, hc83_14, hc89_15]; omega), rfl, N13, rfl⟩
                · skip
                  refine Go.pre (fun _ k => XS.icmpYes X13.here hx rfl (pc0 := 89) (pc' := 96) rfl (hb hby d_method_3_89) rfl (feq (fun q => hc89_15 ((own_oe (a := cu) (b := 63) (by omega) (by omega)).mp q))).2 (by decide) (by decide) k) ?_
                  show Go p e below _ (T13.setTop (mkF m 96 #[iv (Int32.ofNat ku), iv (Int32.ofNat cu)] []))
                  refine Go.pre (fun _ k => XS.iconst X13.here hx rfl (hb hby d_method_3_96) k) ?_
                  show Go p e below _ (T13.setTop (mkF m 97 #[iv (Int32.ofNat ku), iv (Int32.ofNat cu)] [(.int (0 : Int32))]))
                  obtain ⟨fs, hr, hrun, hended, hW, hsame⟩ := X13.leave (v := some (.int (0 : Int32))) (fun h => by rw [Bd.returns] at h; cases h)
                  refine Go.fin (retN X13 hx (t := .boolean) Bd.returns (by simp) (hb hby d_method_3_97) hr) ⟨hrun, hended, _, _, rfl, ?_, ⟨_, rfl⟩, hW, hsame.mono (by decide) (by decide)⟩
                  show Q_eA Z ku cu h0 n0 _ T13.heap _
                  rw [eh13]
                  exact Or.inr ⟨by first | (simp [own_eA, hc1_1, hc6_3, hc16_5, hc33_7, hc70_12, hp13, hc83_14, hc89_15]; done) | (simp [own_eA, hc1_1, hc6_3, hc16_5, hc33_7, hc70_12, hp13, hc83_14, hc89_15]; omega), rfl, N13, rfl⟩
          · skip
            refine Go.pre (fun _ k => XS.icmpYes X0.here hx rfl (pc0 := 70) (pc' := 98) rfl (hb hby d_method_3_70) rfl (feq (fun q => hc70_12 ((own_oe (a := ku) (b := 6) (by omega) (by omega)).mp q))).2 (by decide) (by decide) k) ?_
            show Go p e below _ (s₁.setTop (mkF m 98 #[iv (Int32.ofNat ku), iv (Int32.ofNat cu)] []))
            refine Go.pre (fun _ k => XS.iloadN X0.here hx rfl (hb hby d_method_3_98) rfl k) ?_
            show Go p e below _ (s₁.setTop (mkF m 99 #[iv (Int32.ofNat ku), iv (Int32.ofNat cu)] [(.int (Int32.ofNat ku))]))
            refine Go.pre (fun _ k => XS.bipush X0.here hx rfl (hb hby d_method_3_99) k) ?_
            show Go p e below _ (s₁.setTop (mkF m 101 #[iv (Int32.ofNat ku), iv (Int32.ofNat cu)] [(.int (7 : Int32)), (.int (Int32.ofNat ku))]))
            by_cases hc101_16 : ku = 7
            · skip
              refine Go.pre (fun _ k => XS.icmpNo X0.here hx rfl (hb hby d_method_3_101) rfl (teq ((own_oe (a := ku) (b := 7) (by omega) (by omega)).mpr hc101_16)).2 k) ?_
              show Go p e below _ (s₁.setTop (mkF m 104 #[iv (Int32.ofNat ku), iv (Int32.ofNat cu)] []))
              refine Go.pre (fun _ k => XS.iloadN X0.here hx rfl (hb hby d_method_3_104) rfl k) ?_
              show Go p e below _ (s₁.setTop (mkF m 105 #[iv (Int32.ofNat ku), iv (Int32.ofNat cu)] [(.int (Int32.ofNat cu))]))
              refine Go.pre (fun _ k => XS.bipush X0.here hx rfl (hb hby d_method_3_105) k) ?_
              show Go p e below _ (s₁.setTop (mkF m 107 #[iv (Int32.ofNat ku), iv (Int32.ofNat cu)] [(.int (47 : Int32)), (.int (Int32.ofNat cu))]))
              by_cases hc107_17 : cu = 47
              · skip
                refine Go.pre (fun _ k => XS.icmpYes X0.here hx rfl (pc0 := 107) (pc' := 116) rfl (hb hby d_method_3_107) rfl (teq ((own_oe (a := cu) (b := 47) (by omega) (by omega)).mpr hc107_17)).1 (by decide) (by decide) k) ?_
                show Go p e below _ (s₁.setTop (mkF m 116 #[iv (Int32.ofNat ku), iv (Int32.ofNat cu)] []))
                refine Go.pre (fun _ k => XS.iconst X0.here hx rfl (hb hby d_method_3_116) k) ?_
                show Go p e below _ (s₁.setTop (mkF m 117 #[iv (Int32.ofNat ku), iv (Int32.ofNat cu)] [(.int (1 : Int32))]))
                refine Go.pre (fun _ k => XS.goto X0.here hx rfl (pc0 := 117) (pc' := 121) rfl (hb hby d_method_3_117) (by decide) (by decide) k) ?_
                show Go p e below _ (s₁.setTop (mkF m 121 #[iv (Int32.ofNat ku), iv (Int32.ofNat cu)] [(.int (1 : Int32))]))
                obtain ⟨fs, hr, hrun, hended, hW, hsame⟩ := X0.leave (v := some (.int (1 : Int32))) (fun h => by rw [Bd.returns] at h; cases h)
                refine Go.fin (retN X0 hx (t := .boolean) Bd.returns (by simp) (hb hby d_method_3_121) hr) ⟨hrun, hended, _, _, rfl, ?_, ⟨_, rfl⟩, hW, hsame.mono (by decide) (by decide)⟩
                show Q_eA Z ku cu h0 n0 _ s₁.heap _
                rw [e0]
                exact Or.inl ⟨by first | (simp [own_eA, hc1_1, hc6_3, hc16_5, hc33_7, hc70_12, hc101_16, hc107_17]; done) | (simp [own_eA, hc1_1, hc6_3, hc16_5, hc33_7, hc70_12, hc101_16, hc107_17]; omega), rfl, N0, rfl⟩
              · skip
                refine Go.pre (fun _ k => XS.icmpNo X0.here hx rfl (hb hby d_method_3_107) rfl (feq (fun q => hc107_17 ((own_oe (a := cu) (b := 47) (by omega) (by omega)).mp q))).1 k) ?_
                show Go p e below _ (s₁.setTop (mkF m 110 #[iv (Int32.ofNat ku), iv (Int32.ofNat cu)] []))
                refine Go.pre (fun _ k => XS.iloadN X0.here hx rfl (hb hby d_method_3_110) rfl k) ?_
                show Go p e below _ (s₁.setTop (mkF m 111 #[iv (Int32.ofNat ku), iv (Int32.ofNat cu)] [(.int (Int32.ofNat cu))]))
                refine Go.pre (fun _ k => XS.bipush X0.here hx rfl (hb hby d_method_3_111) k) ?_
                show Go p e below _ (s₁.setTop (mkF m 113 #[iv (Int32.ofNat ku), iv (Int32.ofNat cu)] [(.int (63 : Int32)), (.int (Int32.ofNat cu))]))
                by_cases hc113_18 : cu = 63
                · skip
                  refine Go.pre (fun _ k => XS.icmpNo X0.here hx rfl (hb hby d_method_3_113) rfl (teq ((own_oe (a := cu) (b := 63) (by omega) (by omega)).mpr hc113_18)).2 k) ?_
                  show Go p e below _ (s₁.setTop (mkF m 116 #[iv (Int32.ofNat ku), iv (Int32.ofNat cu)] []))
                  refine Go.pre (fun _ k => XS.iconst X0.here hx rfl (hb hby d_method_3_116) k) ?_
                  show Go p e below _ (s₁.setTop (mkF m 117 #[iv (Int32.ofNat ku), iv (Int32.ofNat cu)] [(.int (1 : Int32))]))
                  refine Go.pre (fun _ k => XS.goto X0.here hx rfl (pc0 := 117) (pc' := 121) rfl (hb hby d_method_3_117) (by decide) (by decide) k) ?_
                  show Go p e below _ (s₁.setTop (mkF m 121 #[iv (Int32.ofNat ku), iv (Int32.ofNat cu)] [(.int (1 : Int32))]))
                  obtain ⟨fs, hr, hrun, hended, hW, hsame⟩ := X0.leave (v := some (.int (1 : Int32))) (fun h => by rw [Bd.returns] at h; cases h)
                  refine Go.fin (retN X0 hx (t := .boolean) Bd.returns (by simp) (hb hby d_method_3_121) hr) ⟨hrun, hended, _, _, rfl, ?_, ⟨_, rfl⟩, hW, hsame.mono (by decide) (by decide)⟩
                  show Q_eA Z ku cu h0 n0 _ s₁.heap _
                  rw [e0]
                  exact Or.inl ⟨by first | (simp [own_eA, hc1_1, hc6_3, hc16_5, hc33_7, hc70_12, hc101_16, hc107_17, hc113_18]; done) | (simp [own_eA, hc1_1, hc6_3, hc16_5, hc33_7, hc70_12, hc101_16, hc107_17, hc113_18]; omega), rfl, N0, rfl⟩
                · skip
                  refine Go.pre (fun _ k => XS.icmpYes X0.here hx rfl (pc0 := 113) (pc' := 120) rfl (hb hby d_method_3_113) rfl (feq (fun q => hc113_18 ((own_oe (a := cu) (b := 63) (by omega) (by omega)).mp q))).2 (by decide) (by decide) k) ?_
                  show Go p e below _ (s₁.setTop (mkF m 120 #[iv (Int32.ofNat ku), iv (Int32.ofNat cu)] []))
                  refine Go.pre (fun _ k => XS.iconst X0.here hx rfl (hb hby d_method_3_120) k) ?_
                  show Go p e below _ (s₁.setTop (mkF m 121 #[iv (Int32.ofNat ku), iv (Int32.ofNat cu)] [(.int (0 : Int32))]))
                  obtain ⟨fs, hr, hrun, hended, hW, hsame⟩ := X0.leave (v := some (.int (0 : Int32))) (fun h => by rw [Bd.returns] at h; cases h)
                  refine Go.fin (retN X0 hx (t := .boolean) Bd.returns (by simp) (hb hby d_method_3_121) hr) ⟨hrun, hended, _, _, rfl, ?_, ⟨_, rfl⟩, hW, hsame.mono (by decide) (by decide)⟩
                  show Q_eA Z ku cu h0 n0 _ s₁.heap _
                  rw [e0]
                  exact Or.inr ⟨by first | (simp [own_eA, hc1_1, hc6_3, hc16_5, hc33_7, hc70_12, hc101_16, hc107_17, hc113_18]; done) | (simp [own_eA, hc1_1, hc6_3, hc16_5, hc33_7, hc70_12, hc101_16, hc107_17, hc113_18]; omega), rfl, N0, rfl⟩
            · skip
              refine Go.pre (fun _ k => XS.icmpYes X0.here hx rfl (pc0 := 101) (pc' := 122) rfl (hb hby d_method_3_101) rfl (feq (fun q => hc101_16 ((own_oe (a := ku) (b := 7) (by omega) (by omega)).mp q))).2 (by decide) (by decide) k) ?_
              show Go p e below _ (s₁.setTop (mkF m 122 #[iv (Int32.ofNat ku), iv (Int32.ofNat cu)] []))
              refine Go.pre (fun _ k => XS.iloadN X0.here hx rfl (hb hby d_method_3_122) rfl k) ?_
              show Go p e below _ (s₁.setTop (mkF m 123 #[iv (Int32.ofNat ku), iv (Int32.ofNat cu)] [(.int (Int32.ofNat ku))]))
              refine Go.pre (fun _ k => XS.bipush X0.here hx rfl (hb hby d_method_3_123) k) ?_
              show Go p e below _ (s₁.setTop (mkF m 125 #[iv (Int32.ofNat ku), iv (Int32.ofNat cu)] [(.int (11 : Int32)), (.int (Int32.ofNat ku))]))
              by_cases hc125_19 : ku = 11
              · skip
                refine Go.pre (fun _ k => XS.icmpNo X0.here hx rfl (hb hby d_method_3_125) rfl (teq ((own_oe (a := ku) (b := 11) (by omega) (by omega)).mpr hc125_19)).2 k) ?_
                show Go p e below _ (s₁.setTop (mkF m 128 #[iv (Int32.ofNat ku), iv (Int32.ofNat cu)] []))
                refine Go.pre (fun _ k => XS.iloadN X0.here hx rfl (hb hby d_method_3_128) rfl k) ?_
                show Go p e below _ (s₁.setTop (mkF m 129 #[iv (Int32.ofNat ku), iv (Int32.ofNat cu)] [(.int (Int32.ofNat cu))]))
                obtain ⟨_, _, ⟨T20, L20, k20, n20⟩, -, X20, ⟨Lc20, hQ20, l20, y20, z20⟩, st20⟩ := Jvm.LawKit.callS X0 hx (y := (⟨"com/example/entayl/entayl/input/IriTableIsPlainIriPinLaw", "query", "(I)Z"⟩ : MethodName)) hown (mvT hZ (hw _ (List.mem_of_getElem? (i := 21) rfl))) (mvT hZ (hw _ (List.mem_of_getElem? (i := 22) rfl))) (mvT hZ (hw _ (List.mem_of_getElem? (i := 19) rfl))) (mvT hZ (hw _ (List.mem_of_getElem? (i := 23) rfl))) (by decide) (backOf (W := 0) (rm_query l Z a0 hw [] cu h0 n0 Z0 hc) hZ (hw _ (List.mem_of_getElem? (i := 23) rfl)) (hw _ (List.mem_of_getElem? (i := 19) rfl)) (by decide) (by decide)) (g := (mkF m 129 #[iv (Int32.ofNat ku), iv (Int32.ofNat cu)] [(.int (Int32.ofNat cu))])) rfl (by rw [hml]; rfl) (argsL := [(.int (Int32.ofNat cu))]) (rest := []) (lenOf pd_0 rfl) rfl (by show 2 * 0 + _ ≤ _; exact Nat.le_of_eq rfl) (hb hby d_method_3_129) (fun _ _ => ⟨rfl, e0, (by decide : 0 + 0 ≤ _), (by decide : 0 + 0 ≤ _)⟩)
                dsimp only [Pt.U, Pt.locs, Pt.cells, Pt.slots] at X20 l20 y20 z20 st20 hQ20
                subst l20 y20 z20
                refine Go.pre st20 ?_
                rcases hQ20 with ⟨hp20, rfl, N20q, eh20⟩ | ⟨hp20, rfl, N20q, eh20⟩
                · skip
                  have N20 := Fr.app N0 N20q
                  show Go p e below _ (T20.setTop (mkF m 132 #[iv (Int32.ofNat ku), iv (Int32.ofNat cu)] [(.int (1 : Int32))]))
                  refine Go.pre (fun _ k => XS.ifYes X20.here hx rfl (pc0 := 132) (pc' := 141) rfl (hb hby d_method_3_132) rfl ((if0 _ _).trans (feq (by decide : ¬ ((1 : Int32) = (0 : Int32)))).2) (by decide) (by decide) k) ?_
                  show Go p e below _ (T20.setTop (mkF m 141 #[iv (Int32.ofNat ku), iv (Int32.ofNat cu)] []))
                  refine Go.pre (fun _ k => XS.iconst X20.here hx rfl (hb hby d_method_3_141) k) ?_
                  show Go p e below _ (T20.setTop (mkF m 142 #[iv (Int32.ofNat ku), iv (Int32.ofNat cu)] [(.int (1 : Int32))]))
                  refine Go.pre (fun _ k => XS.goto X20.here hx rfl (pc0 := 142) (pc' := 146) rfl (hb hby d_method_3_142) (by decide) (by decide) k) ?_
                  show Go p e below _ (T20.setTop (mkF m 146 #[iv (Int32.ofNat ku), iv (Int32.ofNat cu)] [(.int (1 : Int32))]))
                  obtain ⟨fs, hr, hrun, hended, hW, hsame⟩ := X20.leave (v := some (.int (1 : Int32))) (fun h => by rw [Bd.returns] at h; cases h)
                  refine Go.fin (retN X20 hx (t := .boolean) Bd.returns (by simp) (hb hby d_method_3_146) hr) ⟨hrun, hended, _, _, rfl, ?_, ⟨_, rfl⟩, hW, hsame.mono (by decide) (by decide)⟩
                  show Q_eA Z ku cu h0 n0 _ T20.heap _
                  rw [eh20]
                  exact Or.inl ⟨by first | (simp [own_eA, hc1_1, hc6_3, hc16_5, hc33_7, hc70_12, hc101_16, hc125_19, hp20]; done) | (simp [own_eA, hc1_1, hc6_3, hc16_5, hc33_7, hc70_12, hc101_16, hc125_19, hp20]; omega), rfl, N20, rfl⟩
                · skip
                  have N20 := Fr.app N0 N20q
                  show Go p e below _ (T20.setTop (mkF m 132 #[iv (Int32.ofNat ku), iv (Int32.ofNat cu)] [(.int (0 : Int32))]))
                  refine Go.pre (fun _ k => XS.ifNo X20.here hx rfl (hb hby d_method_3_132) rfl ((if0 _ _).trans (teq (by decide : (0 : Int32) = (0 : Int32))).2) k) ?_
                  show Go p e below _ (T20.setTop (mkF m 135 #[iv (Int32.ofNat ku), iv (Int32.ofNat cu)] []))
                  refine Go.pre (fun _ k => XS.iloadN X20.here hx rfl (hb hby d_method_3_135) rfl k) ?_
                  show Go p e below _ (T20.setTop (mkF m 136 #[iv (Int32.ofNat ku), iv (Int32.ofNat cu)] [(.int (Int32.ofNat cu))]))
                  refine Go.pre (fun _ k => XS.bipush X20.here hx rfl (hb hby d_method_3_136) k) ?_
                  show Go p e below _ (T20.setTop (mkF m 138 #[iv (Int32.ofNat ku), iv (Int32.ofNat cu)] [(.int (35 : Int32)), (.int (Int32.ofNat cu))]))
                  by_cases hc138_21 : cu = 35
                  · skip
                    refine Go.pre (fun _ k => XS.icmpNo X20.here hx rfl (hb hby d_method_3_138) rfl (teq ((own_oe (a := cu) (b := 35) (by omega) (by omega)).mpr hc138_21)).2 k) ?_
                    show Go p e below _ (T20.setTop (mkF m 141 #[iv (Int32.ofNat ku), iv (Int32.ofNat cu)] []))
                    refine Go.pre (fun _ k => XS.iconst X20.here hx rfl (hb hby d_method_3_141) k) ?_
                    show Go p e below _ (T20.setTop (mkF m 142 #[iv (Int32.ofNat ku), iv (Int32.ofNat cu)] [(.int (1 : Int32))]))
                    refine Go.pre (fun _ k => XS.goto X20.here hx rfl (pc0 := 142) (pc' := 146) rfl (hb hby d_method_3_142) (by decide) (by decide) k) ?_
                    show Go p e below _ (T20.setTop (mkF m 146 #[iv (Int32.ofNat ku), iv (Int32.ofNat cu)] [(.int (1 : Int32))]))
                    obtain ⟨fs, hr, hrun, hended, hW, hsame⟩ := X20.leave (v := some (.int (1 : Int32))) (fun h => by rw [Bd.returns] at h; cases h)
                    refine Go.fin (retN X20 hx (t := .boolean) Bd.returns (by simp) (hb hby d_method_3_146) hr) ⟨hrun, hended, _, _, rfl, ?_, ⟨_, rfl⟩, hW, hsame.mono (by decide) (by decide)⟩
                    show Q_eA Z ku cu h0 n0 _ T20.heap _
                    rw [eh20]
                    exact Or.inl ⟨by first | (simp [own_eA, hc1_1, hc6_3, hc16_5, hc33_7, hc70_12, hc101_16, hc125_19, hp20, hc138_21]; done) | (simp [own_eA, hc1_1, hc6_3, hc16_5, hc33_7, hc70_12, hc101_16, hc125_19, hp20, hc138_21]; omega), rfl, N20, rfl⟩
                  · skip
                    refine Go.pre (fun _ k => XS.icmpYes X20.here hx rfl (pc0 := 138) (pc' := 145) rfl (hb hby d_method_3_138) rfl (feq (fun q => hc138_21 ((own_oe (a := cu) (b := 35) (by omega) (by omega)).mp q))).2 (by decide) (by decide) k) ?_
                    show Go p e below _ (T20.setTop (mkF m 145 #[iv (Int32.ofNat ku), iv (Int32.ofNat cu)] []))
                    refine Go.pre (fun _ k => XS.iconst X20.here hx rfl (hb hby d_method_3_145) k) ?_
                    show Go p e below _ (T20.setTop (mkF m 146 #[iv (Int32.ofNat ku), iv (Int32.ofNat cu)] [(.int (0 : Int32))]))
                    obtain ⟨fs, hr, hrun, hended, hW, hsame⟩ := X20.leave (v := some (.int (0 : Int32))) (fun h => by rw [Bd.returns] at h; cases h)
                    refine Go.fin (retN X20 hx (t := .boolean) Bd.returns (by simp) (hb hby d_method_3_146) hr) ⟨hrun, hended, _, _, rfl, ?_, ⟨_, rfl⟩, hW, hsame.mono (by decide) (by decide)⟩
                    show Q_eA Z ku cu h0 n0 _ T20.heap _
                    rw [eh20]
                    exact Or.inr ⟨by first | (simp [own_eA, hc1_1, hc6_3, hc16_5, hc33_7, hc70_12, hc101_16, hc125_19, hp20, hc138_21]; done) | (simp [own_eA, hc1_1, hc6_3, hc16_5, hc33_7, hc70_12, hc101_16, hc125_19, hp20, hc138_21]; omega), rfl, N20, rfl⟩
              · skip
                refine Go.pre (fun _ k => XS.icmpYes X0.here hx rfl (pc0 := 125) (pc' := 147) rfl (hb hby d_method_3_125) rfl (feq (fun q => hc125_19 ((own_oe (a := ku) (b := 11) (by omega) (by omega)).mp q))).2 (by decide) (by decide) k) ?_
                show Go p e below _ (s₁.setTop (mkF m 147 #[iv (Int32.ofNat ku), iv (Int32.ofNat cu)] []))
                refine Go.pre (fun _ k => XS.iloadN X0.here hx rfl (hb hby d_method_3_147) rfl k) ?_
                show Go p e below _ (s₁.setTop (mkF m 148 #[iv (Int32.ofNat ku), iv (Int32.ofNat cu)] [(.int (Int32.ofNat cu))]))
                obtain ⟨_, _, ⟨T22, L22, k22, n22⟩, -, X22, ⟨Lc22, hQ22, l22, y22, z22⟩, st22⟩ := Jvm.LawKit.callS X0 hx (y := (⟨"com/example/entayl/entayl/input/IriTableIsPlainIriPinLaw", "query", "(I)Z"⟩ : MethodName)) hown (mvT hZ (hw _ (List.mem_of_getElem? (i := 21) rfl))) (mvT hZ (hw _ (List.mem_of_getElem? (i := 22) rfl))) (mvT hZ (hw _ (List.mem_of_getElem? (i := 19) rfl))) (mvT hZ (hw _ (List.mem_of_getElem? (i := 23) rfl))) (by decide) (backOf (W := 0) (rm_query l Z a0 hw [] cu h0 n0 Z0 hc) hZ (hw _ (List.mem_of_getElem? (i := 23) rfl)) (hw _ (List.mem_of_getElem? (i := 19) rfl)) (by decide) (by decide)) (g := (mkF m 148 #[iv (Int32.ofNat ku), iv (Int32.ofNat cu)] [(.int (Int32.ofNat cu))])) rfl (by rw [hml]; rfl) (argsL := [(.int (Int32.ofNat cu))]) (rest := []) (lenOf pd_0 rfl) rfl (by show 2 * 0 + _ ≤ _; exact Nat.le_of_eq rfl) (hb hby d_method_3_148) (fun _ _ => ⟨rfl, e0, (by decide : 0 + 0 ≤ _), (by decide : 0 + 0 ≤ _)⟩)
                dsimp only [Pt.U, Pt.locs, Pt.cells, Pt.slots] at X22 l22 y22 z22 st22 hQ22
                subst l22 y22 z22
                refine Go.pre st22 ?_
                rcases hQ22 with ⟨hp22, rfl, N22q, eh22⟩ | ⟨hp22, rfl, N22q, eh22⟩
                · skip
                  have N22 := Fr.app N0 N22q
                  show Go p e below _ (T22.setTop (mkF m 151 #[iv (Int32.ofNat ku), iv (Int32.ofNat cu)] [(.int (1 : Int32))]))
                  obtain ⟨fs, hr, hrun, hended, hW, hsame⟩ := X22.leave (v := some (.int (1 : Int32))) (fun h => by rw [Bd.returns] at h; cases h)
                  refine Go.fin (retN X22 hx (t := .boolean) Bd.returns (by simp) (hb hby d_method_3_151) hr) ⟨hrun, hended, _, _, rfl, ?_, ⟨_, rfl⟩, hW, hsame.mono (by decide) (by decide)⟩
                  show Q_eA Z ku cu h0 n0 _ T22.heap _
                  rw [eh22]
                  exact Or.inl ⟨by first | (simp [own_eA, hc1_1, hc6_3, hc16_5, hc33_7, hc70_12, hc101_16, hc125_19, hp22]; done) | (simp [own_eA, hc1_1, hc6_3, hc16_5, hc33_7, hc70_12, hc101_16, hc125_19, hp22]; omega), rfl, N22, rfl⟩
                · skip
                  have N22 := Fr.app N0 N22q
                  show Go p e below _ (T22.setTop (mkF m 151 #[iv (Int32.ofNat ku), iv (Int32.ofNat cu)] [(.int (0 : Int32))]))
                  obtain ⟨fs, hr, hrun, hended, hW, hsame⟩ := X22.leave (v := some (.int (0 : Int32))) (fun h => by rw [Bd.returns] at h; cases h)
                  refine Go.fin (retN X22 hx (t := .boolean) Bd.returns (by simp) (hb hby d_method_3_151) hr) ⟨hrun, hended, _, _, rfl, ?_, ⟨_, rfl⟩, hW, hsame.mono (by decide) (by decide)⟩
                  show Q_eA Z ku cu h0 n0 _ T22.heap _
                  rw [eh22]
                  exact Or.inr ⟨by first | (simp [own_eA, hc1_1, hc6_3, hc16_5, hc33_7, hc70_12, hc101_16, hc125_19, hp22]; done) | (simp [own_eA, hc1_1, hc6_3, hc16_5, hc33_7, hc70_12, hc101_16, hc125_19, hp22]; omega), rfl, N22, rfl⟩

theorem ef_eB (m : MethodId) (x0 : Int32) (x1 : Int32) : entryFrame m #[(.int x0), (.int x1)] 2 = mkF m 0 #[iv x0, iv x1] [] := by first | (simp [entryFrame, mkF, argsToLocals, Value.category]; done) | rfl
theorem pn_eB : plainName "com/example/entayl/entayl/input/IriTableIsPlainIriPinLaw" = true := by first | (simp [plainName, overriddenIn]; done) | decide +kernel
def Q_eB (Z : State) (ku : Nat) (cu : Nat) (h0 : Heap) (n0 : Nat) (v : Option Value) (h : Heap) (L : List Loc) : Prop := (own_eB ku cu = true ∧ v = some (.int 1) ∧ Fr n0 L ∧ h = h0) ∨ (¬ own_eB ku cu = true ∧ v = some (.int 0) ∧ Fr n0 L ∧ h = h0)
set_option maxRecDepth 65536 in
set_option maxHeartbeats 40000000 in
theorem rm_eB (l : Launch) (Z : State) (a0 : Array Value) (hw : ∀ d ∈ tables_1, d.before a0 Z = true) (ws : List Jvm.Cond) (ku : Nat) (cu : Nat) (h0 : Heap) (n0 : Nat) (Z0 : n0 ≤ h0.size) (hk : ku < 32) (hc : cu < 256) :
    MetFree l (⟨"com/example/entayl/entayl/input/IriTableIsPlainIriPinLaw", "expectB", "(II)Z"⟩ : MethodName) (head1 (Jvm.Cond.code (⟨"com/example/entayl/entayl/input/IriTableIsPlainIriPinLaw", "expectB", "(II)Z"⟩ : MethodName) method_4_code 2 (some .boolean) :: ws) ({ frames := 4, cells := 0, slots := 0, locals := 48 } : Room)) (fun as_ U => as_ = #[(.int (Int32.ofNat ku)), (.int (Int32.ofNat cu))] ∧ Z.Warmed39 U.vm ∧ U.heap = h0) (fun _ _ _ _ _ => True) (fun _ U o U' => ∃ v L, o = .returned v ∧ Q_eB Z ku cu h0 n0 v U'.heap L ∧ FrameEnd U o U' L ({ frames := 4, cells := 0, slots := 0, locals := 48 } : Room).cells ({ frames := 4, cells := 0, slots := 0, locals := 48 } : Room).slots) := by
  refine MetFree.of_bodySF (plainFor_of_name pn_eB) hisR ?_
  intro p e s m args below meth c s₁ Bd hml0 hP hK
  obtain ⟨rfl, hZ, hh⟩ := hP
  have hx := Bd.exec
  have hby := Bd.bytes
  have hml : c.maxLocals = 2 := hml0
  have hown : s.vm.findClass "com/example/entayl/entayl/input/IriTableIsPlainIriPinLaw" = some m.cls := findClass_of_methodNamed Bd.named
  have hnm := (name_of_methodNamed Bd.named Bd.method).1
  have X0 : Stand p l e ({ frames := 4, cells := 0, slots := 0, locals := 48 } : Room) s m #[(.int (Int32.ofNat ku)), (.int (Int32.ofNat cu))] below meth c s₁ [] 0 0 := Stand.of_body Bd
  have e0 : s₁.heap = h0 := by rw [← hh, Bd.state]; rfl
  have N0 := Fr.nil n0
  refine Go.out ?_
  refine Go.pre (fun t k => castTop (ef_eB m (Int32.ofNat ku) (Int32.ofNat cu)) k) ?_
  show Go p e below _ (s₁.setTop (mkF m 0 #[iv (Int32.ofNat ku), iv (Int32.ofNat cu)] []))
  refine Go.pre (fun _ k => XS.iloadN X0.here hx rfl (hb hby d_method_4_0) rfl k) ?_
  show Go p e below _ (s₁.setTop (mkF m 1 #[iv (Int32.ofNat ku), iv (Int32.ofNat cu)] [(.int (Int32.ofNat ku))]))
  by_cases hc1_1 : ku = 0
  · skip
    refine Go.pre (fun _ k => XS.ifNo X0.here hx rfl (hb hby d_method_4_1) rfl ((if0 _ _).trans (teq ((own_oe (a := ku) (b := 0) (by omega) (by omega)).mpr hc1_1)).2) k) ?_
    show Go p e below _ (s₁.setTop (mkF m 4 #[iv (Int32.ofNat ku), iv (Int32.ofNat cu)] []))
    refine Go.pre (fun _ k => XS.iloadN X0.here hx rfl (hb hby d_method_4_4) rfl k) ?_
    show Go p e below _ (s₁.setTop (mkF m 5 #[iv (Int32.ofNat ku), iv (Int32.ofNat cu)] [(.int (Int32.ofNat cu))]))
    obtain ⟨_, _, ⟨T2, L2, k2, n2⟩, -, X2, ⟨Lc2, hQ2, l2, y2, z2⟩, st2⟩ := Jvm.LawKit.callS X0 hx (y := (⟨"com/example/entayl/entayl/input/IriTableIsPlainIriPinLaw", "letter", "(I)Z"⟩ : MethodName)) hown (mvT hZ (hw _ (List.mem_of_getElem? (i := 30) rfl))) (mvT hZ (hw _ (List.mem_of_getElem? (i := 31) rfl))) (mvT hZ (hw _ (List.mem_of_getElem? (i := 19) rfl))) (mvT hZ (hw _ (List.mem_of_getElem? (i := 32) rfl))) (by decide) (backOf (W := 0) (rm_letter l Z a0 hw [] cu h0 n0 Z0 hc) hZ (hw _ (List.mem_of_getElem? (i := 32) rfl)) (hw _ (List.mem_of_getElem? (i := 19) rfl)) (by decide) (by decide)) (g := (mkF m 5 #[iv (Int32.ofNat ku), iv (Int32.ofNat cu)] [(.int (Int32.ofNat cu))])) rfl (by rw [hml]; rfl) (argsL := [(.int (Int32.ofNat cu))]) (rest := []) (lenOf pd_0 rfl) rfl (by show 2 * 0 + _ ≤ _; exact Nat.le_of_eq rfl) (hb hby d_method_4_5) (fun _ _ => ⟨rfl, e0, (by decide : 0 + 0 ≤ _), (by decide : 0 + 0 ≤ _)⟩)
    dsimp only [Pt.U, Pt.locs, Pt.cells, Pt.slots] at X2 l2 y2 z2 st2 hQ2
    subst l2 y2 z2
    refine Go.pre st2 ?_
    rcases hQ2 with ⟨hp2, rfl, N2q, eh2⟩ | ⟨hp2, rfl, N2q, eh2⟩
    · skip
      have N2 := Fr.app N0 N2q
      show Go p e below _ (T2.setTop (mkF m 8 #[iv (Int32.ofNat ku), iv (Int32.ofNat cu)] [(.int (1 : Int32))]))
      obtain ⟨fs, hr, hrun, hended, hW, hsame⟩ := X2.leave (v := some (.int (1 : Int32))) (fun h => by rw [Bd.returns] at h; cases h)
      refine Go.fin (retN X2 hx (t := .boolean) Bd.returns (by simp) (hb hby d_method_4_8) hr) ⟨hrun, hended, _, _, rfl, ?_, ⟨_, rfl⟩, hW, hsame.mono (by decide) (by decide)⟩
      show Q_eB Z ku cu h0 n0 _ T2.heap _
      rw [eh2]
      exact Or.inl ⟨by first | (simp [own_eB, hc1_1, hp2]; done) | (simp [own_eB, hc1_1, hp2]; omega), rfl, N2, rfl⟩
    · skip
      have N2 := Fr.app N0 N2q
      show Go p e below _ (T2.setTop (mkF m 8 #[iv (Int32.ofNat ku), iv (Int32.ofNat cu)] [(.int (0 : Int32))]))
      obtain ⟨fs, hr, hrun, hended, hW, hsame⟩ := X2.leave (v := some (.int (0 : Int32))) (fun h => by rw [Bd.returns] at h; cases h)
      refine Go.fin (retN X2 hx (t := .boolean) Bd.returns (by simp) (hb hby d_method_4_8) hr) ⟨hrun, hended, _, _, rfl, ?_, ⟨_, rfl⟩, hW, hsame.mono (by decide) (by decide)⟩
      show Q_eB Z ku cu h0 n0 _ T2.heap _
      rw [eh2]
      exact Or.inr ⟨by first | (simp [own_eB, hc1_1, hp2]; done) | (simp [own_eB, hc1_1, hp2]; omega), rfl, N2, rfl⟩
  · skip
    refine Go.pre (fun _ k => XS.ifYes X0.here hx rfl (pc0 := 1) (pc' := 9) rfl (hb hby d_method_4_1) rfl ((if0 _ _).trans (feq (fun q => hc1_1 ((own_oe (a := ku) (b := 0) (by omega) (by omega)).mp q))).2) (by decide) (by decide) k) ?_
    show Go p e below _ (s₁.setTop (mkF m 9 #[iv (Int32.ofNat ku), iv (Int32.ofNat cu)] []))
    refine Go.pre (fun _ k => XS.iloadN X0.here hx rfl (hb hby d_method_4_9) rfl k) ?_
    show Go p e below _ (s₁.setTop (mkF m 10 #[iv (Int32.ofNat ku), iv (Int32.ofNat cu)] [(.int (Int32.ofNat ku))]))
    refine Go.pre (fun _ k => XS.iconst X0.here hx rfl (hb hby d_method_4_10) k) ?_
    show Go p e below _ (s₁.setTop (mkF m 11 #[iv (Int32.ofNat ku), iv (Int32.ofNat cu)] [(.int (1 : Int32)), (.int (Int32.ofNat ku))]))
    by_cases hc11_3 : ku = 1
    · skip
      refine Go.pre (fun _ k => XS.icmpNo X0.here hx rfl (hb hby d_method_4_11) rfl (teq ((own_oe (a := ku) (b := 1) (by omega) (by omega)).mpr hc11_3)).2 k) ?_
      show Go p e below _ (s₁.setTop (mkF m 14 #[iv (Int32.ofNat ku), iv (Int32.ofNat cu)] []))
      refine Go.pre (fun _ k => XS.iloadN X0.here hx rfl (hb hby d_method_4_14) rfl k) ?_
      show Go p e below _ (s₁.setTop (mkF m 15 #[iv (Int32.ofNat ku), iv (Int32.ofNat cu)] [(.int (Int32.ofNat cu))]))
      obtain ⟨_, _, ⟨T4, L4, k4, n4⟩, -, X4, ⟨Lc4, hQ4, l4, y4, z4⟩, st4⟩ := Jvm.LawKit.callS X0 hx (y := (⟨"com/example/entayl/entayl/input/IriTableIsPlainIriPinLaw", "scheme", "(I)Z"⟩ : MethodName)) hown (mvT hZ (hw _ (List.mem_of_getElem? (i := 45) rfl))) (mvT hZ (hw _ (List.mem_of_getElem? (i := 46) rfl))) (mvT hZ (hw _ (List.mem_of_getElem? (i := 19) rfl))) (mvT hZ (hw _ (List.mem_of_getElem? (i := 47) rfl))) (by decide) (backOf (W := 0) (rm_scheme l Z a0 hw [] cu h0 n0 Z0 hc) hZ (hw _ (List.mem_of_getElem? (i := 47) rfl)) (hw _ (List.mem_of_getElem? (i := 19) rfl)) (by decide) (by decide)) (g := (mkF m 15 #[iv (Int32.ofNat ku), iv (Int32.ofNat cu)] [(.int (Int32.ofNat cu))])) rfl (by rw [hml]; rfl) (argsL := [(.int (Int32.ofNat cu))]) (rest := []) (lenOf pd_0 rfl) rfl (by show 2 * 0 + _ ≤ _; exact Nat.le_of_eq rfl) (hb hby d_method_4_15) (fun _ _ => ⟨rfl, e0, (by decide : 0 + 0 ≤ _), (by decide : 0 + 0 ≤ _)⟩)
      dsimp only [Pt.U, Pt.locs, Pt.cells, Pt.slots] at X4 l4 y4 z4 st4 hQ4
      subst l4 y4 z4
      refine Go.pre st4 ?_
      rcases hQ4 with ⟨hp4, rfl, N4q, eh4⟩ | ⟨hp4, rfl, N4q, eh4⟩
      · skip
        have N4 := Fr.app N0 N4q
        show Go p e below _ (T4.setTop (mkF m 18 #[iv (Int32.ofNat ku), iv (Int32.ofNat cu)] [(.int (1 : Int32))]))
        refine Go.pre (fun _ k => XS.ifNo X4.here hx rfl (hb hby d_method_4_18) rfl ((if0 _ _).trans (feq (by decide : ¬ ((1 : Int32) = (0 : Int32)))).1) k) ?_
        show Go p e below _ (T4.setTop (mkF m 21 #[iv (Int32.ofNat ku), iv (Int32.ofNat cu)] []))
        refine Go.pre (fun _ k => XS.iloadN X4.here hx rfl (hb hby d_method_4_21) rfl k) ?_
        show Go p e below _ (T4.setTop (mkF m 22 #[iv (Int32.ofNat ku), iv (Int32.ofNat cu)] [(.int (Int32.ofNat cu))]))
        refine Go.pre (fun _ k => XS.bipush X4.here hx rfl (hb hby d_method_4_22) k) ?_
        show Go p e below _ (T4.setTop (mkF m 24 #[iv (Int32.ofNat ku), iv (Int32.ofNat cu)] [(.int (97 : Int32)), (.int (Int32.ofNat cu))]))
        by_cases hc24_5 : cu = 97
        · skip
          refine Go.pre (fun _ k => XS.icmpYes X4.here hx rfl (pc0 := 24) (pc' := 33) rfl (hb hby d_method_4_24) rfl (teq ((own_oe (a := cu) (b := 97) (by omega) (by omega)).mpr hc24_5)).1 (by decide) (by decide) k) ?_
          show Go p e below _ (T4.setTop (mkF m 33 #[iv (Int32.ofNat ku), iv (Int32.ofNat cu)] []))
          refine Go.pre (fun _ k => XS.iloadN X4.here hx rfl (hb hby d_method_4_33) rfl k) ?_
          show Go p e below _ (T4.setTop (mkF m 34 #[iv (Int32.ofNat ku), iv (Int32.ofNat cu)] [(.int (Int32.ofNat cu))]))
          refine Go.pre (fun _ k => XS.bipush X4.here hx rfl (hb hby d_method_4_34) k) ?_
          show Go p e below _ (T4.setTop (mkF m 36 #[iv (Int32.ofNat ku), iv (Int32.ofNat cu)] [(.int (58 : Int32)), (.int (Int32.ofNat cu))]))
          by_cases hc36_6 : cu = 58
          · skip
            refine Go.pre (fun _ k => XS.icmpNo X4.here hx rfl (hb hby d_method_4_36) rfl (teq ((own_oe (a := cu) (b := 58) (by omega) (by omega)).mpr hc36_6)).2 k) ?_
            show Go p e below _ (T4.setTop (mkF m 39 #[iv (Int32.ofNat ku), iv (Int32.ofNat cu)] []))
            refine Go.pre (fun _ k => XS.iconst X4.here hx rfl (hb hby d_method_4_39) k) ?_
            show Go p e below _ (T4.setTop (mkF m 40 #[iv (Int32.ofNat ku), iv (Int32.ofNat cu)] [(.int (1 : Int32))]))
            refine Go.pre (fun _ k => XS.goto X4.here hx rfl (pc0 := 40) (pc' := 44) rfl (hb hby d_method_4_40) (by decide) (by decide) k) ?_
            show Go p e below _ (T4.setTop (mkF m 44 #[iv (Int32.ofNat ku), iv (Int32.ofNat cu)] [(.int (1 : Int32))]))
            obtain ⟨fs, hr, hrun, hended, hW, hsame⟩ := X4.leave (v := some (.int (1 : Int32))) (fun h => by rw [Bd.returns] at h; cases h)
            refine Go.fin (retN X4 hx (t := .boolean) Bd.returns (by simp) (hb hby d_method_4_44) hr) ⟨hrun, hended, _, _, rfl, ?_, ⟨_, rfl⟩, hW, hsame.mono (by decide) (by decide)⟩
            show Q_eB Z ku cu h0 n0 _ T4.heap _
            rw [eh4]
            exact Or.inl ⟨by first | (simp [own_eB, hc1_1, hc11_3, hp4, hc24_5, hc36_6]; done) | (simp [own_eB, hc1_1, hc11_3, hp4, hc24_5, hc36_6]; omega), rfl, N4, rfl⟩
          · skip
            refine Go.pre (fun _ k => XS.icmpYes X4.here hx rfl (pc0 := 36) (pc' := 43) rfl (hb hby d_method_4_36) rfl (feq (fun q => hc36_6 ((own_oe (a := cu) (b := 58) (by omega) (by omega)).mp q))).2 (by decide) (by decide) k) ?_
            show Go p e below _ (T4.setTop (mkF m 43 #[iv (Int32.ofNat ku), iv (Int32.ofNat cu)] []))
            refine Go.pre (fun _ k => XS.iconst X4.here hx rfl (hb hby d_method_4_43) k) ?_
            show Go p e below _ (T4.setTop (mkF m 44 #[iv (Int32.ofNat ku), iv (Int32.ofNat cu)] [(.int (0 : Int32))]))
            obtain ⟨fs, hr, hrun, hended, hW, hsame⟩ := X4.leave (v := some (.int (0 : Int32))) (fun h => by rw [Bd.returns] at h; cases h)
            refine Go.fin (retN X4 hx (t := .boolean) Bd.returns (by simp) (hb hby d_method_4_44) hr) ⟨hrun, hended, _, _, rfl, ?_, ⟨_, rfl⟩, hW, hsame.mono (by decide) (by decide)⟩
            show Q_eB Z ku cu h0 n0 _ T4.heap _
            rw [eh4]
            exact Or.inr ⟨by first | (simp [own_eB, hc1_1, hc11_3, hp4, hc24_5, hc36_6]; done) | (simp [own_eB, hc1_1, hc11_3, hp4, hc24_5, hc36_6]; omega), rfl, N4, rfl⟩
        · skip
          refine Go.pre (fun _ k => XS.icmpNo X4.here hx rfl (hb hby d_method_4_24) rfl (feq (fun q => hc24_5 ((own_oe (a := cu) (b := 97) (by omega) (by omega)).mp q))).1 k) ?_
          show Go p e below _ (T4.setTop (mkF m 27 #[iv (Int32.ofNat ku), iv (Int32.ofNat cu)] []))
          refine Go.pre (fun _ k => XS.iloadN X4.here hx rfl (hb hby d_method_4_27) rfl k) ?_
          show Go p e below _ (T4.setTop (mkF m 28 #[iv (Int32.ofNat ku), iv (Int32.ofNat cu)] [(.int (Int32.ofNat cu))]))
          refine Go.pre (fun _ k => XS.bipush X4.here hx rfl (hb hby d_method_4_28) k) ?_
          show Go p e below _ (T4.setTop (mkF m 30 #[iv (Int32.ofNat ku), iv (Int32.ofNat cu)] [(.int (65 : Int32)), (.int (Int32.ofNat cu))]))
          by_cases hc30_7 : cu = 65
          · skip
            refine Go.pre (fun _ k => XS.icmpNo X4.here hx rfl (hb hby d_method_4_30) rfl (teq ((own_oe (a := cu) (b := 65) (by omega) (by omega)).mpr hc30_7)).2 k) ?_
            show Go p e below _ (T4.setTop (mkF m 33 #[iv (Int32.ofNat ku), iv (Int32.ofNat cu)] []))
            refine Go.pre (fun _ k => XS.iloadN X4.here hx rfl (hb hby d_method_4_33) rfl k) ?_
            show Go p e below _ (T4.setTop (mkF m 34 #[iv (Int32.ofNat ku), iv (Int32.ofNat cu)] [(.int (Int32.ofNat cu))]))
            refine Go.pre (fun _ k => XS.bipush X4.here hx rfl (hb hby d_method_4_34) k) ?_
            show Go p e below _ (T4.setTop (mkF m 36 #[iv (Int32.ofNat ku), iv (Int32.ofNat cu)] [(.int (58 : Int32)), (.int (Int32.ofNat cu))]))
            by_cases hc36_8 : cu = 58
            · skip
              refine Go.pre (fun _ k => XS.icmpNo X4.here hx rfl (hb hby d_method_4_36) rfl (teq ((own_oe (a := cu) (b := 58) (by omega) (by omega)).mpr hc36_8)).2 k) ?_
              show Go p e below _ (T4.setTop (mkF m 39 #[iv (Int32.ofNat ku), iv (Int32.ofNat cu)] []))
              refine Go.pre (fun _ k => XS.iconst X4.here hx rfl (hb hby d_method_4_39) k) ?_
              show Go p e below _ (T4.setTop (mkF m 40 #[iv (Int32.ofNat ku), iv (Int32.ofNat cu)] [(.int (1 : Int32))]))
              refine Go.pre (fun _ k => XS.goto X4.here hx rfl (pc0 := 40) (pc' := 44) rfl (hb hby d_method_4_40) (by decide) (by decide) k) ?_
              show Go p e below _ (T4.setTop (mkF m 44 #[iv (Int32.ofNat ku), iv (Int32.ofNat cu)] [(.int (1 : Int32))]))
              obtain ⟨fs, hr, hrun, hended, hW, hsame⟩ := X4.leave (v := some (.int (1 : Int32))) (fun h => by rw [Bd.returns] at h; cases h)
              refine Go.fin (retN X4 hx (t := .boolean) Bd.returns (by simp) (hb hby d_method_4_44) hr) ⟨hrun, hended, _, _, rfl, ?_, ⟨_, rfl⟩, hW, hsame.mono (by decide) (by decide)⟩
              show Q_eB Z ku cu h0 n0 _ T4.heap _
              rw [eh4]
              exact Or.inl ⟨by first | (simp [own_eB, hc1_1, hc11_3, hp4, hc24_5, hc30_7, hc36_8]; done) | (simp [own_eB, hc1_1, hc11_3, hp4, hc24_5, hc30_7, hc36_8]; omega), rfl, N4, rfl⟩
            · skip
              refine Go.pre (fun _ k => XS.icmpYes X4.here hx rfl (pc0 := 36) (pc' := 43) rfl (hb hby d_method_4_36) rfl (feq (fun q => hc36_8 ((own_oe (a := cu) (b := 58) (by omega) (by omega)).mp q))).2 (by decide) (by decide) k) ?_
              show Go p e below _ (T4.setTop (mkF m 43 #[iv (Int32.ofNat ku), iv (Int32.ofNat cu)] []))
              refine Go.pre (fun _ k => XS.iconst X4.here hx rfl (hb hby d_method_4_43) k) ?_
              show Go p e below _ (T4.setTop (mkF m 44 #[iv (Int32.ofNat ku), iv (Int32.ofNat cu)] [(.int (0 : Int32))]))
              obtain ⟨fs, hr, hrun, hended, hW, hsame⟩ := X4.leave (v := some (.int (0 : Int32))) (fun h => by rw [Bd.returns] at h; cases h)
              refine Go.fin (retN X4 hx (t := .boolean) Bd.returns (by simp) (hb hby d_method_4_44) hr) ⟨hrun, hended, _, _, rfl, ?_, ⟨_, rfl⟩, hW, hsame.mono (by decide) (by decide)⟩
              show Q_eB Z ku cu h0 n0 _ T4.heap _
              rw [eh4]
              exact Or.inr ⟨by first | (simp [own_eB, hc1_1, hc11_3, hp4, hc24_5, hc30_7, hc36_8]; done) | (simp [own_eB, hc1_1, hc11_3, hp4, hc24_5, hc30_7, hc36_8]; omega), rfl, N4, rfl⟩
          · skip
            refine Go.pre (fun _ k => XS.icmpYes X4.here hx rfl (pc0 := 30) (pc' := 39) rfl (hb hby d_method_4_30) rfl (feq (fun q => hc30_7 ((own_oe (a := cu) (b := 65) (by omega) (by omega)).mp q))).2 (by decide) (by decide) k) ?_
            show Go p e below _ (T4.setTop (mkF m 39 #[iv (Int32.ofNat ku), iv (Int32.ofNat cu)] []))
            refine Go.pre (fun _ k => XS.iconst X4.here hx rfl (hb hby d_method_4_39) k) ?_
            show Go p e below _ (T4.setTop (mkF m 40 #[iv (Int32.ofNat ku), iv (Int32.ofNat cu)] [(.int (1 : Int32))]))
            refine Go.pre (fun _ k => XS.goto X4.here hx rfl (pc0 := 40) (pc' := 44) rfl (hb hby d_method_4_40) (by decide) (by decide) k) ?_
            show Go p e below _ (T4.setTop (mkF m 44 #[iv (Int32.ofNat ku), iv (Int32.ofNat cu)] [(.int (1 : Int32))]))
            obtain ⟨fs, hr, hrun, hended, hW, hsame⟩ := X4.leave (v := some (.int (1 : Int32))) (fun h => by rw [Bd.returns] at h; cases h)
            refine Go.fin (retN X4 hx (t := .boolean) Bd.returns (by simp) (hb hby d_method_4_44) hr) ⟨hrun, hended, _, _, rfl, ?_, ⟨_, rfl⟩, hW, hsame.mono (by decide) (by decide)⟩
            show Q_eB Z ku cu h0 n0 _ T4.heap _
            rw [eh4]
            exact Or.inl ⟨by first | (simp [own_eB, hc1_1, hc11_3, hp4, hc24_5, hc30_7]; done) | (simp [own_eB, hc1_1, hc11_3, hp4, hc24_5, hc30_7]; omega), rfl, N4, rfl⟩
      · skip
        have N4 := Fr.app N0 N4q
        show Go p e below _ (T4.setTop (mkF m 18 #[iv (Int32.ofNat ku), iv (Int32.ofNat cu)] [(.int (0 : Int32))]))
        refine Go.pre (fun _ k => XS.ifYes X4.here hx rfl (pc0 := 18) (pc' := 33) rfl (hb hby d_method_4_18) rfl ((if0 _ _).trans (teq (by decide : (0 : Int32) = (0 : Int32))).1) (by decide) (by decide) k) ?_
        show Go p e below _ (T4.setTop (mkF m 33 #[iv (Int32.ofNat ku), iv (Int32.ofNat cu)] []))
        refine Go.pre (fun _ k => XS.iloadN X4.here hx rfl (hb hby d_method_4_33) rfl k) ?_
        show Go p e below _ (T4.setTop (mkF m 34 #[iv (Int32.ofNat ku), iv (Int32.ofNat cu)] [(.int (Int32.ofNat cu))]))
        refine Go.pre (fun _ k => XS.bipush X4.here hx rfl (hb hby d_method_4_34) k) ?_
        show Go p e below _ (T4.setTop (mkF m 36 #[iv (Int32.ofNat ku), iv (Int32.ofNat cu)] [(.int (58 : Int32)), (.int (Int32.ofNat cu))]))
        by_cases hc36_9 : cu = 58
        · skip
          refine Go.pre (fun _ k => XS.icmpNo X4.here hx rfl (hb hby d_method_4_36) rfl (teq ((own_oe (a := cu) (b := 58) (by omega) (by omega)).mpr hc36_9)).2 k) ?_
          show Go p e below _ (T4.setTop (mkF m 39 #[iv (Int32.ofNat ku), iv (Int32.ofNat cu)] []))
          refine Go.pre (fun _ k => XS.iconst X4.here hx rfl (hb hby d_method_4_39) k) ?_
          show Go p e below _ (T4.setTop (mkF m 40 #[iv (Int32.ofNat ku), iv (Int32.ofNat cu)] [(.int (1 : Int32))]))
          refine Go.pre (fun _ k => XS.goto X4.here hx rfl (pc0 := 40) (pc' := 44) rfl (hb hby d_method_4_40) (by decide) (by decide) k) ?_
          show Go p e below _ (T4.setTop (mkF m 44 #[iv (Int32.ofNat ku), iv (Int32.ofNat cu)] [(.int (1 : Int32))]))
          obtain ⟨fs, hr, hrun, hended, hW, hsame⟩ := X4.leave (v := some (.int (1 : Int32))) (fun h => by rw [Bd.returns] at h; cases h)
          refine Go.fin (retN X4 hx (t := .boolean) Bd.returns (by simp) (hb hby d_method_4_44) hr) ⟨hrun, hended, _, _, rfl, ?_, ⟨_, rfl⟩, hW, hsame.mono (by decide) (by decide)⟩
          show Q_eB Z ku cu h0 n0 _ T4.heap _
          rw [eh4]
          exact Or.inl ⟨by first | (simp [own_eB, hc1_1, hc11_3, hp4, hc36_9]; done) | (simp [own_eB, hc1_1, hc11_3, hp4, hc36_9]; omega), rfl, N4, rfl⟩
        · skip
          refine Go.pre (fun _ k => XS.icmpYes X4.here hx rfl (pc0 := 36) (pc' := 43) rfl (hb hby d_method_4_36) rfl (feq (fun q => hc36_9 ((own_oe (a := cu) (b := 58) (by omega) (by omega)).mp q))).2 (by decide) (by decide) k) ?_
          show Go p e below _ (T4.setTop (mkF m 43 #[iv (Int32.ofNat ku), iv (Int32.ofNat cu)] []))
          refine Go.pre (fun _ k => XS.iconst X4.here hx rfl (hb hby d_method_4_43) k) ?_
          show Go p e below _ (T4.setTop (mkF m 44 #[iv (Int32.ofNat ku), iv (Int32.ofNat cu)] [(.int (0 : Int32))]))
          obtain ⟨fs, hr, hrun, hended, hW, hsame⟩ := X4.leave (v := some (.int (0 : Int32))) (fun h => by rw [Bd.returns] at h; cases h)
          refine Go.fin (retN X4 hx (t := .boolean) Bd.returns (by simp) (hb hby d_method_4_44) hr) ⟨hrun, hended, _, _, rfl, ?_, ⟨_, rfl⟩, hW, hsame.mono (by decide) (by decide)⟩
          show Q_eB Z ku cu h0 n0 _ T4.heap _
          rw [eh4]
          exact Or.inr ⟨by first | (simp [own_eB, hc1_1, hc11_3, hp4, hc36_9]; done) | (simp [own_eB, hc1_1, hc11_3, hp4, hc36_9]; omega), rfl, N4, rfl⟩
    · skip
      refine Go.pre (fun _ k => XS.icmpYes X0.here hx rfl (pc0 := 11) (pc' := 45) rfl (hb hby d_method_4_11) rfl (feq (fun q => hc11_3 ((own_oe (a := ku) (b := 1) (by omega) (by omega)).mp q))).2 (by decide) (by decide) k) ?_
      show Go p e below _ (s₁.setTop (mkF m 45 #[iv (Int32.ofNat ku), iv (Int32.ofNat cu)] []))
      refine Go.pre (fun _ k => XS.iloadN X0.here hx rfl (hb hby d_method_4_45) rfl k) ?_
      show Go p e below _ (s₁.setTop (mkF m 46 #[iv (Int32.ofNat ku), iv (Int32.ofNat cu)] [(.int (Int32.ofNat ku))]))
      refine Go.pre (fun _ k => XS.iconst X0.here hx rfl (hb hby d_method_4_46) k) ?_
      show Go p e below _ (s₁.setTop (mkF m 47 #[iv (Int32.ofNat ku), iv (Int32.ofNat cu)] [(.int (2 : Int32)), (.int (Int32.ofNat ku))]))
      by_cases hc47_10 : ku = 2
      · skip
        refine Go.pre (fun _ k => XS.icmpNo X0.here hx rfl (hb hby d_method_4_47) rfl (teq ((own_oe (a := ku) (b := 2) (by omega) (by omega)).mpr hc47_10)).2 k) ?_
        show Go p e below _ (s₁.setTop (mkF m 50 #[iv (Int32.ofNat ku), iv (Int32.ofNat cu)] []))
        refine Go.pre (fun _ k => XS.iloadN X0.here hx rfl (hb hby d_method_4_50) rfl k) ?_
        show Go p e below _ (s₁.setTop (mkF m 51 #[iv (Int32.ofNat ku), iv (Int32.ofNat cu)] [(.int (Int32.ofNat cu))]))
        obtain ⟨_, _, ⟨T11, L11, k11, n11⟩, -, X11, ⟨Lc11, hQ11, l11, y11, z11⟩, st11⟩ := Jvm.LawKit.callS X0 hx (y := (⟨"com/example/entayl/entayl/input/IriTableIsPlainIriPinLaw", "scheme", "(I)Z"⟩ : MethodName)) hown (mvT hZ (hw _ (List.mem_of_getElem? (i := 45) rfl))) (mvT hZ (hw _ (List.mem_of_getElem? (i := 46) rfl))) (mvT hZ (hw _ (List.mem_of_getElem? (i := 19) rfl))) (mvT hZ (hw _ (List.mem_of_getElem? (i := 47) rfl))) (by decide) (backOf (W := 0) (rm_scheme l Z a0 hw [] cu h0 n0 Z0 hc) hZ (hw _ (List.mem_of_getElem? (i := 47) rfl)) (hw _ (List.mem_of_getElem? (i := 19) rfl)) (by decide) (by decide)) (g := (mkF m 51 #[iv (Int32.ofNat ku), iv (Int32.ofNat cu)] [(.int (Int32.ofNat cu))])) rfl (by rw [hml]; rfl) (argsL := [(.int (Int32.ofNat cu))]) (rest := []) (lenOf pd_0 rfl) rfl (by show 2 * 0 + _ ≤ _; exact Nat.le_of_eq rfl) (hb hby d_method_4_51) (fun _ _ => ⟨rfl, e0, (by decide : 0 + 0 ≤ _), (by decide : 0 + 0 ≤ _)⟩)
        dsimp only [Pt.U, Pt.locs, Pt.cells, Pt.slots] at X11 l11 y11 z11 st11 hQ11
        subst l11 y11 z11
        refine Go.pre st11 ?_
        rcases hQ11 with ⟨hp11, rfl, N11q, eh11⟩ | ⟨hp11, rfl, N11q, eh11⟩
        · skip
          have N11 := Fr.app N0 N11q
          show Go p e below _ (T11.setTop (mkF m 54 #[iv (Int32.ofNat ku), iv (Int32.ofNat cu)] [(.int (1 : Int32))]))
          refine Go.pre (fun _ k => XS.ifYes X11.here hx rfl (pc0 := 54) (pc' := 63) rfl (hb hby d_method_4_54) rfl ((if0 _ _).trans (feq (by decide : ¬ ((1 : Int32) = (0 : Int32)))).2) (by decide) (by decide) k) ?_
          show Go p e below _ (T11.setTop (mkF m 63 #[iv (Int32.ofNat ku), iv (Int32.ofNat cu)] []))
          refine Go.pre (fun _ k => XS.iconst X11.here hx rfl (hb hby d_method_4_63) k) ?_
          show Go p e below _ (T11.setTop (mkF m 64 #[iv (Int32.ofNat ku), iv (Int32.ofNat cu)] [(.int (1 : Int32))]))
          refine Go.pre (fun _ k => XS.goto X11.here hx rfl (pc0 := 64) (pc' := 68) rfl (hb hby d_method_4_64) (by decide) (by decide) k) ?_
          show Go p e below _ (T11.setTop (mkF m 68 #[iv (Int32.ofNat ku), iv (Int32.ofNat cu)] [(.int (1 : Int32))]))
          obtain ⟨fs, hr, hrun, hended, hW, hsame⟩ := X11.leave (v := some (.int (1 : Int32))) (fun h => by rw [Bd.returns] at h; cases h)
          refine Go.fin (retN X11 hx (t := .boolean) Bd.returns (by simp) (hb hby d_method_4_68) hr) ⟨hrun, hended, _, _, rfl, ?_, ⟨_, rfl⟩, hW, hsame.mono (by decide) (by decide)⟩
          show Q_eB Z ku cu h0 n0 _ T11.heap _
          rw [eh11]
          exact Or.inl ⟨by first | (simp [own_eB, hc1_1, hc11_3, hc47_10, hp11]; done) | (simp [own_eB, hc1_1, hc11_3, hc47_10, hp11]; omega), rfl, N11, rfl⟩
        · skip
          have N11 := Fr.app N0 N11q
          show Go p e below _ (T11.setTop (mkF m 54 #[iv (Int32.ofNat ku), iv (Int32.ofNat cu)] [(.int (0 : Int32))]))
          refine Go.pre (fun _ k => XS.ifNo X11.here hx rfl (hb hby d_method_4_54) rfl ((if0 _ _).trans (teq (by decide : (0 : Int32) = (0 : Int32))).2) k) ?_
          show Go p e below _ (T11.setTop (mkF m 57 #[iv (Int32.ofNat ku), iv (Int32.ofNat cu)] []))
          refine Go.pre (fun _ k => XS.iloadN X11.here hx rfl (hb hby d_method_4_57) rfl k) ?_
          show Go p e below _ (T11.setTop (mkF m 58 #[iv (Int32.ofNat ku), iv (Int32.ofNat cu)] [(.int (Int32.ofNat cu))]))
          refine Go.pre (fun _ k => XS.bipush X11.here hx rfl (hb hby d_method_4_58) k) ?_
          show Go p e below _ (T11.setTop (mkF m 60 #[iv (Int32.ofNat ku), iv (Int32.ofNat cu)] [(.int (58 : Int32)), (.int (Int32.ofNat cu))]))
          by_cases hc60_12 : cu = 58
          · skip
            refine Go.pre (fun _ k => XS.icmpNo X11.here hx rfl (hb hby d_method_4_60) rfl (teq ((own_oe (a := cu) (b := 58) (by omega) (by omega)).mpr hc60_12)).2 k) ?_
            show Go p e below _ (T11.setTop (mkF m 63 #[iv (Int32.ofNat ku), iv (Int32.ofNat cu)] []))
            refine Go.pre (fun _ k => XS.iconst X11.here hx rfl (hb hby d_method_4_63) k) ?_
            show Go p e below _ (T11.setTop (mkF m 64 #[iv (Int32.ofNat ku), iv (Int32.ofNat cu)] [(.int (1 : Int32))]))
            refine Go.pre (fun _ k => XS.goto X11.here hx rfl (pc0 := 64) (pc' := 68) rfl (hb hby d_method_4_64) (by decide) (by decide) k) ?_
            show Go p e below _ (T11.setTop (mkF m 68 #[iv (Int32.ofNat ku), iv (Int32.ofNat cu)] [(.int (1 : Int32))]))
            obtain ⟨fs, hr, hrun, hended, hW, hsame⟩ := X11.leave (v := some (.int (1 : Int32))) (fun h => by rw [Bd.returns] at h; cases h)
            refine Go.fin (retN X11 hx (t := .boolean) Bd.returns (by simp) (hb hby d_method_4_68) hr) ⟨hrun, hended, _, _, rfl, ?_, ⟨_, rfl⟩, hW, hsame.mono (by decide) (by decide)⟩
            show Q_eB Z ku cu h0 n0 _ T11.heap _
            rw [eh11]
            exact Or.inl ⟨by first | (simp [own_eB, hc1_1, hc11_3, hc47_10, hp11, hc60_12]; done) | (simp [own_eB, hc1_1, hc11_3, hc47_10, hp11, hc60_12]; omega), rfl, N11, rfl⟩
          · skip
            refine Go.pre (fun _ k => XS.icmpYes X11.here hx rfl (pc0 := 60) (pc' := 67) rfl (hb hby d_method_4_60) rfl (feq (fun q => hc60_12 ((own_oe (a := cu) (b := 58) (by omega) (by omega)).mp q))).2 (by decide) (by decide) k) ?_
            show Go p e below _ (T11.setTop (mkF m 67 #[iv (Int32.ofNat ku), iv (Int32.ofNat cu)] []))
            refine Go.pre (fun _ k => XS.iconst X11.here hx rfl (hb hby d_method_4_67) k) ?_
            show Go p e below _ (T11.setTop (mkF m 68 #[iv (Int32.ofNat ku), iv (Int32.ofNat cu)] [(.int (0 : Int32))]))
            obtain ⟨fs, hr, hrun, hended, hW, hsame⟩ := X11.leave (v := some (.int (0 : Int32))) (fun h => by rw [Bd.returns] at h; cases h)
            refine Go.fin (retN X11 hx (t := .boolean) Bd.returns (by simp) (hb hby d_method_4_68) hr) ⟨hrun, hended, _, _, rfl, ?_, ⟨_, rfl⟩, hW, hsame.mono (by decide) (by decide)⟩
            show Q_eB Z ku cu h0 n0 _ T11.heap _
            rw [eh11]
            exact Or.inr ⟨by first | (simp [own_eB, hc1_1, hc11_3, hc47_10, hp11, hc60_12]; done) | (simp [own_eB, hc1_1, hc11_3, hc47_10, hp11, hc60_12]; omega), rfl, N11, rfl⟩
      · skip
        refine Go.pre (fun _ k => XS.icmpYes X0.here hx rfl (pc0 := 47) (pc' := 69) rfl (hb hby d_method_4_47) rfl (feq (fun q => hc47_10 ((own_oe (a := ku) (b := 2) (by omega) (by omega)).mp q))).2 (by decide) (by decide) k) ?_
        show Go p e below _ (s₁.setTop (mkF m 69 #[iv (Int32.ofNat ku), iv (Int32.ofNat cu)] []))
        refine Go.pre (fun _ k => XS.iloadN X0.here hx rfl (hb hby d_method_4_69) rfl k) ?_
        show Go p e below _ (s₁.setTop (mkF m 70 #[iv (Int32.ofNat ku), iv (Int32.ofNat cu)] [(.int (Int32.ofNat ku))]))
        refine Go.pre (fun _ k => XS.iconst X0.here hx rfl (hb hby d_method_4_70) k) ?_
        show Go p e below _ (s₁.setTop (mkF m 71 #[iv (Int32.ofNat ku), iv (Int32.ofNat cu)] [(.int (3 : Int32)), (.int (Int32.ofNat ku))]))
        by_cases hc71_13 : ku = 3
        · skip
          refine Go.pre (fun _ k => XS.icmpNo X0.here hx rfl (hb hby d_method_4_71) rfl (teq ((own_oe (a := ku) (b := 3) (by omega) (by omega)).mpr hc71_13)).2 k) ?_
          show Go p e below _ (s₁.setTop (mkF m 74 #[iv (Int32.ofNat ku), iv (Int32.ofNat cu)] []))
          refine Go.pre (fun _ k => XS.iloadN X0.here hx rfl (hb hby d_method_4_74) rfl k) ?_
          show Go p e below _ (s₁.setTop (mkF m 75 #[iv (Int32.ofNat ku), iv (Int32.ofNat cu)] [(.int (Int32.ofNat cu))]))
          refine Go.pre (fun _ k => XS.bipush X0.here hx rfl (hb hby d_method_4_75) k) ?_
          show Go p e below _ (s₁.setTop (mkF m 77 #[iv (Int32.ofNat ku), iv (Int32.ofNat cu)] [(.int (58 : Int32)), (.int (Int32.ofNat cu))]))
          by_cases hc77_14 : cu = 58
          · skip
            refine Go.pre (fun _ k => XS.icmpNo X0.here hx rfl (hb hby d_method_4_77) rfl (teq ((own_oe (a := cu) (b := 58) (by omega) (by omega)).mpr hc77_14)).2 k) ?_
            show Go p e below _ (s₁.setTop (mkF m 80 #[iv (Int32.ofNat ku), iv (Int32.ofNat cu)] []))
            refine Go.pre (fun _ k => XS.iconst X0.here hx rfl (hb hby d_method_4_80) k) ?_
            show Go p e below _ (s₁.setTop (mkF m 81 #[iv (Int32.ofNat ku), iv (Int32.ofNat cu)] [(.int (1 : Int32))]))
            refine Go.pre (fun _ k => XS.goto X0.here hx rfl (pc0 := 81) (pc' := 85) rfl (hb hby d_method_4_81) (by decide) (by decide) k) ?_
            show Go p e below _ (s₁.setTop (mkF m 85 #[iv (Int32.ofNat ku), iv (Int32.ofNat cu)] [(.int (1 : Int32))]))
            obtain ⟨fs, hr, hrun, hended, hW, hsame⟩ := X0.leave (v := some (.int (1 : Int32))) (fun h => by rw [Bd.returns] at h; cases h)
            refine Go.fin (retN X0 hx (t := .boolean) Bd.returns (by simp) (hb hby d_method_4_85) hr) ⟨hrun, hended, _, _, rfl, ?_, ⟨_, rfl⟩, hW, hsame.mono (by decide) (by decide)⟩
            show Q_eB Z ku cu h0 n0 _ s₁.heap _
            rw [e0]
            exact Or.inl ⟨by first | (simp [own_eB, hc1_1, hc11_3, hc47_10, hc71_13, hc77_14]; done) | (simp [own_eB, hc1_1, hc11_3, hc47_10, hc71_13, hc77_14]; omega), rfl, N0, rfl⟩
          · skip
            refine Go.pre (fun _ k => XS.icmpYes X0.here hx rfl (pc0 := 77) (pc' := 84) rfl (hb hby d_method_4_77) rfl (feq (fun q => hc77_14 ((own_oe (a := cu) (b := 58) (by omega) (by omega)).mp q))).2 (by decide) (by decide) k) ?_
            show Go p e below _ (s₁.setTop (mkF m 84 #[iv (Int32.ofNat ku), iv (Int32.ofNat cu)] []))
            refine Go.pre (fun _ k => XS.iconst X0.here hx rfl (hb hby d_method_4_84) k) ?_
            show Go p e below _ (s₁.setTop (mkF m 85 #[iv (Int32.ofNat ku), iv (Int32.ofNat cu)] [(.int (0 : Int32))]))
            obtain ⟨fs, hr, hrun, hended, hW, hsame⟩ := X0.leave (v := some (.int (0 : Int32))) (fun h => by rw [Bd.returns] at h; cases h)
            refine Go.fin (retN X0 hx (t := .boolean) Bd.returns (by simp) (hb hby d_method_4_85) hr) ⟨hrun, hended, _, _, rfl, ?_, ⟨_, rfl⟩, hW, hsame.mono (by decide) (by decide)⟩
            show Q_eB Z ku cu h0 n0 _ s₁.heap _
            rw [e0]
            exact Or.inr ⟨by first | (simp [own_eB, hc1_1, hc11_3, hc47_10, hc71_13, hc77_14]; done) | (simp [own_eB, hc1_1, hc11_3, hc47_10, hc71_13, hc77_14]; omega), rfl, N0, rfl⟩
        · skip
          refine Go.pre (fun _ k => XS.icmpYes X0.here hx rfl (pc0 := 71) (pc' := 86) rfl (hb hby d_method_4_71) rfl (feq (fun q => hc71_13 ((own_oe (a := ku) (b := 3) (by omega) (by omega)).mp q))).2 (by decide) (by decide) k) ?_
          show Go p e below _ (s₁.setTop (mkF m 86 #[iv (Int32.ofNat ku), iv (Int32.ofNat cu)] []))
          refine Go.pre (fun _ k => XS.iloadN X0.here hx rfl (hb hby d_method_4_86) rfl k) ?_
          show Go p e below _ (s₁.setTop (mkF m 87 #[iv (Int32.ofNat ku), iv (Int32.ofNat cu)] [(.int (Int32.ofNat ku))]))
          refine Go.pre (fun _ k => XS.iconst X0.here hx rfl (hb hby d_method_4_87) k) ?_
          show Go p e below _ (s₁.setTop (mkF m 88 #[iv (Int32.ofNat ku), iv (Int32.ofNat cu)] [(.int (5 : Int32)), (.int (Int32.ofNat ku))]))
          by_cases hc88_15 : ku = 5
          · skip
            refine Go.pre (fun _ k => XS.icmpYes X0.here hx rfl (pc0 := 88) (pc' := 121) rfl (hb hby d_method_4_88) rfl (teq ((own_oe (a := ku) (b := 5) (by omega) (by omega)).mpr hc88_15)).1 (by decide) (by decide) k) ?_
            show Go p e below _ (s₁.setTop (mkF m 121 #[iv (Int32.ofNat ku), iv (Int32.ofNat cu)] []))
            refine Go.pre (fun _ k => XS.iloadN X0.here hx rfl (hb hby d_method_4_121) rfl k) ?_
            show Go p e below _ (s₁.setTop (mkF m 122 #[iv (Int32.ofNat ku), iv (Int32.ofNat cu)] [(.int (Int32.ofNat cu))]))
            obtain ⟨_, _, ⟨T16, L16, k16, n16⟩, -, X16, ⟨Lc16, hQ16, l16, y16, z16⟩, st16⟩ := Jvm.LawKit.callS X0 hx (y := (⟨"com/example/entayl/entayl/input/IriTableIsPlainIriPinLaw", "hex", "(I)Z"⟩ : MethodName)) hown (mvT hZ (hw _ (List.mem_of_getElem? (i := 42) rfl))) (mvT hZ (hw _ (List.mem_of_getElem? (i := 43) rfl))) (mvT hZ (hw _ (List.mem_of_getElem? (i := 19) rfl))) (mvT hZ (hw _ (List.mem_of_getElem? (i := 44) rfl))) (by decide) (backOf (W := 0) (rm_hex l Z a0 hw [] cu h0 n0 Z0 hc) hZ (hw _ (List.mem_of_getElem? (i := 44) rfl)) (hw _ (List.mem_of_getElem? (i := 19) rfl)) (by decide) (by decide)) (g := (mkF m 122 #[iv (Int32.ofNat ku), iv (Int32.ofNat cu)] [(.int (Int32.ofNat cu))])) rfl (by rw [hml]; rfl) (argsL := [(.int (Int32.ofNat cu))]) (rest := []) (lenOf pd_0 rfl) rfl (by show 2 * 0 + _ ≤ _; exact Nat.le_of_eq rfl) (hb hby d_method_4_122) (fun _ _ => ⟨rfl, e0, (by decide : 0 + 0 ≤ _), (by decide : 0 + 0 ≤ _)⟩)
            dsimp only [Pt.U, Pt.locs, Pt.cells, Pt.slots] at X16 l16 y16 z16 st16 hQ16
            subst l16 y16 z16
            refine Go.pre st16 ?_
            rcases hQ16 with ⟨hp16, rfl, N16q, eh16⟩ | ⟨hp16, rfl, N16q, eh16⟩
            · skip
              have N16 := Fr.app N0 N16q
              show Go p e below _ (T16.setTop (mkF m 125 #[iv (Int32.ofNat ku), iv (Int32.ofNat cu)] [(.int (1 : Int32))]))
              obtain ⟨fs, hr, hrun, hended, hW, hsame⟩ := X16.leave (v := some (.int (1 : Int32))) (fun h => by rw [Bd.returns] at h; cases h)
              refine Go.fin (retN X16 hx (t := .boolean) Bd.returns (by simp) (hb hby d_method_4_125) hr) ⟨hrun, hended, _, _, rfl, ?_, ⟨_, rfl⟩, hW, hsame.mono (by decide) (by decide)⟩
              show Q_eB Z ku cu h0 n0 _ T16.heap _
              rw [eh16]
              exact Or.inl ⟨by first | (simp [own_eB, hc1_1, hc11_3, hc47_10, hc71_13, hc88_15, hp16]; done) | (simp [own_eB, hc1_1, hc11_3, hc47_10, hc71_13, hc88_15, hp16]; omega), rfl, N16, rfl⟩
            · skip
              have N16 := Fr.app N0 N16q
              show Go p e below _ (T16.setTop (mkF m 125 #[iv (Int32.ofNat ku), iv (Int32.ofNat cu)] [(.int (0 : Int32))]))
              obtain ⟨fs, hr, hrun, hended, hW, hsame⟩ := X16.leave (v := some (.int (0 : Int32))) (fun h => by rw [Bd.returns] at h; cases h)
              refine Go.fin (retN X16 hx (t := .boolean) Bd.returns (by simp) (hb hby d_method_4_125) hr) ⟨hrun, hended, _, _, rfl, ?_, ⟨_, rfl⟩, hW, hsame.mono (by decide) (by decide)⟩
              show Q_eB Z ku cu h0 n0 _ T16.heap _
              rw [eh16]
              exact Or.inr ⟨by first | (simp [own_eB, hc1_1, hc11_3, hc47_10, hc71_13, hc88_15, hp16]; done) | (simp [own_eB, hc1_1, hc11_3, hc47_10, hc71_13, hc88_15, hp16]; omega), rfl, N16, rfl⟩
          · skip
            refine Go.pre (fun _ k => XS.icmpNo X0.here hx rfl (hb hby d_method_4_88) rfl (feq (fun q => hc88_15 ((own_oe (a := ku) (b := 5) (by omega) (by omega)).mp q))).1 k) ?_
            show Go p e below _ (s₁.setTop (mkF m 91 #[iv (Int32.ofNat ku), iv (Int32.ofNat cu)] []))
            refine Go.pre (fun _ k => XS.iloadN X0.here hx rfl (hb hby d_method_4_91) rfl k) ?_
            show Go p e below _ (s₁.setTop (mkF m 92 #[iv (Int32.ofNat ku), iv (Int32.ofNat cu)] [(.int (Int32.ofNat ku))]))
            refine Go.pre (fun _ k => XS.bipush X0.here hx rfl (hb hby d_method_4_92) k) ?_
            show Go p e below _ (s₁.setTop (mkF m 94 #[iv (Int32.ofNat ku), iv (Int32.ofNat cu)] [(.int (6 : Int32)), (.int (Int32.ofNat ku))]))
            by_cases hc94_17 : ku = 6
            · skip
              refine Go.pre (fun _ k => XS.icmpYes X0.here hx rfl (pc0 := 94) (pc' := 121) rfl (hb hby d_method_4_94) rfl (teq ((own_oe (a := ku) (b := 6) (by omega) (by omega)).mpr hc94_17)).1 (by decide) (by decide) k) ?_
              show Go p e below _ (s₁.setTop (mkF m 121 #[iv (Int32.ofNat ku), iv (Int32.ofNat cu)] []))
              refine Go.pre (fun _ k => XS.iloadN X0.here hx rfl (hb hby d_method_4_121) rfl k) ?_
              show Go p e below _ (s₁.setTop (mkF m 122 #[iv (Int32.ofNat ku), iv (Int32.ofNat cu)] [(.int (Int32.ofNat cu))]))
              obtain ⟨_, _, ⟨T18, L18, k18, n18⟩, -, X18, ⟨Lc18, hQ18, l18, y18, z18⟩, st18⟩ := Jvm.LawKit.callS X0 hx (y := (⟨"com/example/entayl/entayl/input/IriTableIsPlainIriPinLaw", "hex", "(I)Z"⟩ : MethodName)) hown (mvT hZ (hw _ (List.mem_of_getElem? (i := 42) rfl))) (mvT hZ (hw _ (List.mem_of_getElem? (i := 43) rfl))) (mvT hZ (hw _ (List.mem_of_getElem? (i := 19) rfl))) (mvT hZ (hw _ (List.mem_of_getElem? (i := 44) rfl))) (by decide) (backOf (W := 0) (rm_hex l Z a0 hw [] cu h0 n0 Z0 hc) hZ (hw _ (List.mem_of_getElem? (i := 44) rfl)) (hw _ (List.mem_of_getElem? (i := 19) rfl)) (by decide) (by decide)) (g := (mkF m 122 #[iv (Int32.ofNat ku), iv (Int32.ofNat cu)] [(.int (Int32.ofNat cu))])) rfl (by rw [hml]; rfl) (argsL := [(.int (Int32.ofNat cu))]) (rest := []) (lenOf pd_0 rfl) rfl (by show 2 * 0 + _ ≤ _; exact Nat.le_of_eq rfl) (hb hby d_method_4_122) (fun _ _ => ⟨rfl, e0, (by decide : 0 + 0 ≤ _), (by decide : 0 + 0 ≤ _)⟩)
              dsimp only [Pt.U, Pt.locs, Pt.cells, Pt.slots] at X18 l18 y18 z18 st18 hQ18
              subst l18 y18 z18
              refine Go.pre st18 ?_
              rcases hQ18 with ⟨hp18, rfl, N18q, eh18⟩ | ⟨hp18, rfl, N18q, eh18⟩
              · skip
                have N18 := Fr.app N0 N18q
                show Go p e below _ (T18.setTop (mkF m 125 #[iv (Int32.ofNat ku), iv (Int32.ofNat cu)] [(.int (1 : Int32))]))
                obtain ⟨fs, hr, hrun, hended, hW, hsame⟩ := X18.leave (v := some (.int (1 : Int32))) (fun h => by rw [Bd.returns] at h; cases h)
                refine Go.fin (retN X18 hx (t := .boolean) Bd.returns (by simp) (hb hby d_method_4_125) hr) ⟨hrun, hended, _, _, rfl, ?_, ⟨_, rfl⟩, hW, hsame.mono (by decide) (by decide)⟩
                show Q_eB Z ku cu h0 n0 _ T18.heap _
                rw [eh18]
                exact Or.inl ⟨by first | (simp [own_eB, hc1_1, hc11_3, hc47_10, hc71_13, hc88_15, hc94_17, hp18]; done) | (simp [own_eB, hc1_1, hc11_3, hc47_10, hc71_13, hc88_15, hc94_17, hp18]; omega), rfl, N18, rfl⟩
              · skip
                have N18 := Fr.app N0 N18q
                show Go p e below _ (T18.setTop (mkF m 125 #[iv (Int32.ofNat ku), iv (Int32.ofNat cu)] [(.int (0 : Int32))]))
                obtain ⟨fs, hr, hrun, hended, hW, hsame⟩ := X18.leave (v := some (.int (0 : Int32))) (fun h => by rw [Bd.returns] at h; cases h)
                refine Go.fin (retN X18 hx (t := .boolean) Bd.returns (by simp) (hb hby d_method_4_125) hr) ⟨hrun, hended, _, _, rfl, ?_, ⟨_, rfl⟩, hW, hsame.mono (by decide) (by decide)⟩
                show Q_eB Z ku cu h0 n0 _ T18.heap _
                rw [eh18]
                exact Or.inr ⟨by first | (simp [own_eB, hc1_1, hc11_3, hc47_10, hc71_13, hc88_15, hc94_17, hp18]; done) | (simp [own_eB, hc1_1, hc11_3, hc47_10, hc71_13, hc88_15, hc94_17, hp18]; omega), rfl, N18, rfl⟩
            · skip
              refine Go.pre (fun _ k => XS.icmpNo X0.here hx rfl (hb hby d_method_4_94) rfl (feq (fun q => hc94_17 ((own_oe (a := ku) (b := 6) (by omega) (by omega)).mp q))).1 k) ?_
              show Go p e below _ (s₁.setTop (mkF m 97 #[iv (Int32.ofNat ku), iv (Int32.ofNat cu)] []))
              refine Go.pre (fun _ k => XS.iloadN X0.here hx rfl (hb hby d_method_4_97) rfl k) ?_
              show Go p e below _ (s₁.setTop (mkF m 98 #[iv (Int32.ofNat ku), iv (Int32.ofNat cu)] [(.int (Int32.ofNat ku))]))
              refine Go.pre (fun _ k => XS.bipush X0.here hx rfl (hb hby d_method_4_98) k) ?_
              show Go p e below _ (s₁.setTop (mkF m 100 #[iv (Int32.ofNat ku), iv (Int32.ofNat cu)] [(.int (9 : Int32)), (.int (Int32.ofNat ku))]))
              by_cases hc100_19 : ku = 9
              · skip
                refine Go.pre (fun _ k => XS.icmpYes X0.here hx rfl (pc0 := 100) (pc' := 121) rfl (hb hby d_method_4_100) rfl (teq ((own_oe (a := ku) (b := 9) (by omega) (by omega)).mpr hc100_19)).1 (by decide) (by decide) k) ?_
                show Go p e below _ (s₁.setTop (mkF m 121 #[iv (Int32.ofNat ku), iv (Int32.ofNat cu)] []))
                refine Go.pre (fun _ k => XS.iloadN X0.here hx rfl (hb hby d_method_4_121) rfl k) ?_
                show Go p e below _ (s₁.setTop (mkF m 122 #[iv (Int32.ofNat ku), iv (Int32.ofNat cu)] [(.int (Int32.ofNat cu))]))
                obtain ⟨_, _, ⟨T20, L20, k20, n20⟩, -, X20, ⟨Lc20, hQ20, l20, y20, z20⟩, st20⟩ := Jvm.LawKit.callS X0 hx (y := (⟨"com/example/entayl/entayl/input/IriTableIsPlainIriPinLaw", "hex", "(I)Z"⟩ : MethodName)) hown (mvT hZ (hw _ (List.mem_of_getElem? (i := 42) rfl))) (mvT hZ (hw _ (List.mem_of_getElem? (i := 43) rfl))) (mvT hZ (hw _ (List.mem_of_getElem? (i := 19) rfl))) (mvT hZ (hw _ (List.mem_of_getElem? (i := 44) rfl))) (by decide) (backOf (W := 0) (rm_hex l Z a0 hw [] cu h0 n0 Z0 hc) hZ (hw _ (List.mem_of_getElem? (i := 44) rfl)) (hw _ (List.mem_of_getElem? (i := 19) rfl)) (by decide) (by decide)) (g := (mkF m 122 #[iv (Int32.ofNat ku), iv (Int32.ofNat cu)] [(.int (Int32.ofNat cu))])) rfl (by rw [hml]; rfl) (argsL := [(.int (Int32.ofNat cu))]) (rest := []) (lenOf pd_0 rfl) rfl (by show 2 * 0 + _ ≤ _; exact Nat.le_of_eq rfl) (hb hby d_method_4_122) (fun _ _ => ⟨rfl, e0, (by decide : 0 + 0 ≤ _), (by decide : 0 + 0 ≤ _)⟩)
                dsimp only [Pt.U, Pt.locs, Pt.cells, Pt.slots] at X20 l20 y20 z20 st20 hQ20
                subst l20 y20 z20
                refine Go.pre st20 ?_
                rcases hQ20 with ⟨hp20, rfl, N20q, eh20⟩ | ⟨hp20, rfl, N20q, eh20⟩
                · skip
                  have N20 := Fr.app N0 N20q
                  show Go p e below _ (T20.setTop (mkF m 125 #[iv (Int32.ofNat ku), iv (Int32.ofNat cu)] [(.int (1 : Int32))]))
                  obtain ⟨fs, hr, hrun, hended, hW, hsame⟩ := X20.leave (v := some (.int (1 : Int32))) (fun h => by rw [Bd.returns] at h; cases h)
                  refine Go.fin (retN X20 hx (t := .boolean) Bd.returns (by simp) (hb hby d_method_4_125) hr) ⟨hrun, hended, _, _, rfl, ?_, ⟨_, rfl⟩, hW, hsame.mono (by decide) (by decide)⟩
                  show Q_eB Z ku cu h0 n0 _ T20.heap _
                  rw [eh20]
                  exact Or.inl ⟨by first | (simp [own_eB, hc1_1, hc11_3, hc47_10, hc71_13, hc88_15, hc94_17, hc100_19, hp20]; done) | (simp [own_eB, hc1_1, hc11_3, hc47_10, hc71_13, hc88_15, hc94_17, hc100_19, hp20]; omega), rfl, N20, rfl⟩
                · skip
                  have N20 := Fr.app N0 N20q
                  show Go p e below _ (T20.setTop (mkF m 125 #[iv (Int32.ofNat ku), iv (Int32.ofNat cu)] [(.int (0 : Int32))]))
                  obtain ⟨fs, hr, hrun, hended, hW, hsame⟩ := X20.leave (v := some (.int (0 : Int32))) (fun h => by rw [Bd.returns] at h; cases h)
                  refine Go.fin (retN X20 hx (t := .boolean) Bd.returns (by simp) (hb hby d_method_4_125) hr) ⟨hrun, hended, _, _, rfl, ?_, ⟨_, rfl⟩, hW, hsame.mono (by decide) (by decide)⟩
                  show Q_eB Z ku cu h0 n0 _ T20.heap _
                  rw [eh20]
                  exact Or.inr ⟨by first | (simp [own_eB, hc1_1, hc11_3, hc47_10, hc71_13, hc88_15, hc94_17, hc100_19, hp20]; done) | (simp [own_eB, hc1_1, hc11_3, hc47_10, hc71_13, hc88_15, hc94_17, hc100_19, hp20]; omega), rfl, N20, rfl⟩
              · skip
                refine Go.pre (fun _ k => XS.icmpNo X0.here hx rfl (hb hby d_method_4_100) rfl (feq (fun q => hc100_19 ((own_oe (a := ku) (b := 9) (by omega) (by omega)).mp q))).1 k) ?_
                show Go p e below _ (s₁.setTop (mkF m 103 #[iv (Int32.ofNat ku), iv (Int32.ofNat cu)] []))
                refine Go.pre (fun _ k => XS.iloadN X0.here hx rfl (hb hby d_method_4_103) rfl k) ?_
                show Go p e below _ (s₁.setTop (mkF m 104 #[iv (Int32.ofNat ku), iv (Int32.ofNat cu)] [(.int (Int32.ofNat ku))]))
                refine Go.pre (fun _ k => XS.bipush X0.here hx rfl (hb hby d_method_4_104) k) ?_
                show Go p e below _ (s₁.setTop (mkF m 106 #[iv (Int32.ofNat ku), iv (Int32.ofNat cu)] [(.int (10 : Int32)), (.int (Int32.ofNat ku))]))
                by_cases hc106_21 : ku = 10
                · skip
                  refine Go.pre (fun _ k => XS.icmpYes X0.here hx rfl (pc0 := 106) (pc' := 121) rfl (hb hby d_method_4_106) rfl (teq ((own_oe (a := ku) (b := 10) (by omega) (by omega)).mpr hc106_21)).1 (by decide) (by decide) k) ?_
                  show Go p e below _ (s₁.setTop (mkF m 121 #[iv (Int32.ofNat ku), iv (Int32.ofNat cu)] []))
                  refine Go.pre (fun _ k => XS.iloadN X0.here hx rfl (hb hby d_method_4_121) rfl k) ?_
                  show Go p e below _ (s₁.setTop (mkF m 122 #[iv (Int32.ofNat ku), iv (Int32.ofNat cu)] [(.int (Int32.ofNat cu))]))
                  obtain ⟨_, _, ⟨T22, L22, k22, n22⟩, -, X22, ⟨Lc22, hQ22, l22, y22, z22⟩, st22⟩ := Jvm.LawKit.callS X0 hx (y := (⟨"com/example/entayl/entayl/input/IriTableIsPlainIriPinLaw", "hex", "(I)Z"⟩ : MethodName)) hown (mvT hZ (hw _ (List.mem_of_getElem? (i := 42) rfl))) (mvT hZ (hw _ (List.mem_of_getElem? (i := 43) rfl))) (mvT hZ (hw _ (List.mem_of_getElem? (i := 19) rfl))) (mvT hZ (hw _ (List.mem_of_getElem? (i := 44) rfl))) (by decide) (backOf (W := 0) (rm_hex l Z a0 hw [] cu h0 n0 Z0 hc) hZ (hw _ (List.mem_of_getElem? (i := 44) rfl)) (hw _ (List.mem_of_getElem? (i := 19) rfl)) (by decide) (by decide)) (g := (mkF m 122 #[iv (Int32.ofNat ku), iv (Int32.ofNat cu)] [(.int (Int32.ofNat cu))])) rfl (by rw [hml]; rfl) (argsL := [(.int (Int32.ofNat cu))]) (rest := []) (lenOf pd_0 rfl) rfl (by show 2 * 0 + _ ≤ _; exact Nat.le_of_eq rfl) (hb hby d_method_4_122) (fun _ _ => ⟨rfl, e0, (by decide : 0 + 0 ≤ _), (by decide : 0 + 0 ≤ _)⟩)
                  dsimp only [Pt.U, Pt.locs, Pt.cells, Pt.slots] at X22 l22 y22 z22 st22 hQ22
                  subst l22 y22 z22
                  refine Go.pre st22 ?_
                  rcases hQ22 with ⟨hp22, rfl, N22q, eh22⟩ | ⟨hp22, rfl, N22q, eh22⟩
                  · skip
                    have N22 := Fr.app N0 N22q
                    show Go p e below _ (T22.setTop (mkF m 125 #[iv (Int32.ofNat ku), iv (Int32.ofNat cu)] [(.int (1 : Int32))]))
                    obtain ⟨fs, hr, hrun, hended, hW, hsame⟩ := X22.leave (v := some (.int (1 : Int32))) (fun h => by rw [Bd.returns] at h; cases h)
                    refine Go.fin (retN X22 hx (t := .boolean) Bd.returns (by simp) (hb hby d_method_4_125) hr) ⟨hrun, hended, _, _, rfl, ?_, ⟨_, rfl⟩, hW, hsame.mono (by decide) (by decide)⟩
                    show Q_eB Z ku cu h0 n0 _ T22.heap _
                    rw [eh22]
                    exact Or.inl ⟨by first | (simp [own_eB, hc1_1, hc11_3, hc47_10, hc71_13, hc88_15, hc94_17, hc100_19, hc106_21, hp22]; done) | (simp [own_eB, hc1_1, hc11_3, hc47_10, hc71_13, hc88_15, hc94_17, hc100_19, hc106_21, hp22]; omega), rfl, N22, rfl⟩
                  · skip
                    have N22 := Fr.app N0 N22q
                    show Go p e below _ (T22.setTop (mkF m 125 #[iv (Int32.ofNat ku), iv (Int32.ofNat cu)] [(.int (0 : Int32))]))
                    obtain ⟨fs, hr, hrun, hended, hW, hsame⟩ := X22.leave (v := some (.int (0 : Int32))) (fun h => by rw [Bd.returns] at h; cases h)
                    refine Go.fin (retN X22 hx (t := .boolean) Bd.returns (by simp) (hb hby d_method_4_125) hr) ⟨hrun, hended, _, _, rfl, ?_, ⟨_, rfl⟩, hW, hsame.mono (by decide) (by decide)⟩
                    show Q_eB Z ku cu h0 n0 _ T22.heap _
                    rw [eh22]
                    exact Or.inr ⟨by first | (simp [own_eB, hc1_1, hc11_3, hc47_10, hc71_13, hc88_15, hc94_17, hc100_19, hc106_21, hp22]; done) | (simp [own_eB, hc1_1, hc11_3, hc47_10, hc71_13, hc88_15, hc94_17, hc100_19, hc106_21, hp22]; omega), rfl, N22, rfl⟩
                · skip
                  refine Go.pre (fun _ k => XS.icmpNo X0.here hx rfl (hb hby d_method_4_106) rfl (feq (fun q => hc106_21 ((own_oe (a := ku) (b := 10) (by omega) (by omega)).mp q))).1 k) ?_
                  show Go p e below _ (s₁.setTop (mkF m 109 #[iv (Int32.ofNat ku), iv (Int32.ofNat cu)] []))
                  refine Go.pre (fun _ k => XS.iloadN X0.here hx rfl (hb hby d_method_4_109) rfl k) ?_
                  show Go p e below _ (s₁.setTop (mkF m 110 #[iv (Int32.ofNat ku), iv (Int32.ofNat cu)] [(.int (Int32.ofNat ku))]))
                  refine Go.pre (fun _ k => XS.bipush X0.here hx rfl (hb hby d_method_4_110) k) ?_
                  show Go p e below _ (s₁.setTop (mkF m 112 #[iv (Int32.ofNat ku), iv (Int32.ofNat cu)] [(.int (13 : Int32)), (.int (Int32.ofNat ku))]))
                  by_cases hc112_23 : ku = 13
                  · skip
                    refine Go.pre (fun _ k => XS.icmpYes X0.here hx rfl (pc0 := 112) (pc' := 121) rfl (hb hby d_method_4_112) rfl (teq ((own_oe (a := ku) (b := 13) (by omega) (by omega)).mpr hc112_23)).1 (by decide) (by decide) k) ?_
                    show Go p e below _ (s₁.setTop (mkF m 121 #[iv (Int32.ofNat ku), iv (Int32.ofNat cu)] []))
                    refine Go.pre (fun _ k => XS.iloadN X0.here hx rfl (hb hby d_method_4_121) rfl k) ?_
                    show Go p e below _ (s₁.setTop (mkF m 122 #[iv (Int32.ofNat ku), iv (Int32.ofNat cu)] [(.int (Int32.ofNat cu))]))
                    obtain ⟨_, _, ⟨T24, L24, k24, n24⟩, -, X24, ⟨Lc24, hQ24, l24, y24, z24⟩, st24⟩ := Jvm.LawKit.callS X0 hx (y := (⟨"com/example/entayl/entayl/input/IriTableIsPlainIriPinLaw", "hex", "(I)Z"⟩ : MethodName)) hown (mvT hZ (hw _ (List.mem_of_getElem? (i := 42) rfl))) (mvT hZ (hw _ (List.mem_of_getElem? (i := 43) rfl))) (mvT hZ (hw _ (List.mem_of_getElem? (i := 19) rfl))) (mvT hZ (hw _ (List.mem_of_getElem? (i := 44) rfl))) (by decide) (backOf (W := 0) (rm_hex l Z a0 hw [] cu h0 n0 Z0 hc) hZ (hw _ (List.mem_of_getElem? (i := 44) rfl)) (hw _ (List.mem_of_getElem? (i := 19) rfl)) (by decide) (by decide)) (g := (mkF m 122 #[iv (Int32.ofNat ku), iv (Int32.ofNat cu)] [(.int (Int32.ofNat cu))])) rfl (by rw [hml]; rfl) (argsL := [(.int (Int32.ofNat cu))]) (rest := []) (lenOf pd_0 rfl) rfl (by show 2 * 0 + _ ≤ _; exact Nat.le_of_eq rfl) (hb hby d_method_4_122) (fun _ _ => ⟨rfl, e0, (by decide : 0 + 0 ≤ _), (by decide : 0 + 0 ≤ _)⟩)
                    dsimp only [Pt.U, Pt.locs, Pt.cells, Pt.slots] at X24 l24 y24 z24 st24 hQ24
                    subst l24 y24 z24
                    refine Go.pre st24 ?_
                    rcases hQ24 with ⟨hp24, rfl, N24q, eh24⟩ | ⟨hp24, rfl, N24q, eh24⟩
                    · skip
                      have N24 := Fr.app N0 N24q
                      show Go p e below _ (T24.setTop (mkF m 125 #[iv (Int32.ofNat ku), iv (Int32.ofNat cu)] [(.int (1 : Int32))]))
                      obtain ⟨fs, hr, hrun, hended, hW, hsame⟩ := X24.leave (v := some (.int (1 : Int32))) (fun h => by rw [Bd.returns] at h; cases h)
                      refine Go.fin (retN X24 hx (t := .boolean) Bd.returns (by simp) (hb hby d_method_4_125) hr) ⟨hrun, hended, _, _, rfl, ?_, ⟨_, rfl⟩, hW, hsame.mono (by decide) (by decide)⟩
                      show Q_eB Z ku cu h0 n0 _ T24.heap _
                      rw [eh24]
                      exact Or.inl ⟨by first | (simp [own_eB, hc1_1, hc11_3, hc47_10, hc71_13, hc88_15, hc94_17, hc100_19, hc106_21, hc112_23, hp24]; done) | (simp [own_eB, hc1_1, hc11_3, hc47_10, hc71_13, hc88_15, hc94_17, hc100_19, hc106_21, hc112_23, hp24]; omega), rfl, N24, rfl⟩
                    · skip
                      have N24 := Fr.app N0 N24q
                      show Go p e below _ (T24.setTop (mkF m 125 #[iv (Int32.ofNat ku), iv (Int32.ofNat cu)] [(.int (0 : Int32))]))
                      obtain ⟨fs, hr, hrun, hended, hW, hsame⟩ := X24.leave (v := some (.int (0 : Int32))) (fun h => by rw [Bd.returns] at h; cases h)
                      refine Go.fin (retN X24 hx (t := .boolean) Bd.returns (by simp) (hb hby d_method_4_125) hr) ⟨hrun, hended, _, _, rfl, ?_, ⟨_, rfl⟩, hW, hsame.mono (by decide) (by decide)⟩
                      show Q_eB Z ku cu h0 n0 _ T24.heap _
                      rw [eh24]
                      exact Or.inr ⟨by first | (simp [own_eB, hc1_1, hc11_3, hc47_10, hc71_13, hc88_15, hc94_17, hc100_19, hc106_21, hc112_23, hp24]; done) | (simp [own_eB, hc1_1, hc11_3, hc47_10, hc71_13, hc88_15, hc94_17, hc100_19, hc106_21, hc112_23, hp24]; omega), rfl, N24, rfl⟩
                  · skip
                    refine Go.pre (fun _ k => XS.icmpNo X0.here hx rfl (hb hby d_method_4_112) rfl (feq (fun q => hc112_23 ((own_oe (a := ku) (b := 13) (by omega) (by omega)).mp q))).1 k) ?_
                    show Go p e below _ (s₁.setTop (mkF m 115 #[iv (Int32.ofNat ku), iv (Int32.ofNat cu)] []))
                    refine Go.pre (fun _ k => XS.iloadN X0.here hx rfl (hb hby d_method_4_115) rfl k) ?_
                    show Go p e below _ (s₁.setTop (mkF m 116 #[iv (Int32.ofNat ku), iv (Int32.ofNat cu)] [(.int (Int32.ofNat ku))]))
                    refine Go.pre (fun _ k => XS.bipush X0.here hx rfl (hb hby d_method_4_116) k) ?_
                    show Go p e below _ (s₁.setTop (mkF m 118 #[iv (Int32.ofNat ku), iv (Int32.ofNat cu)] [(.int (14 : Int32)), (.int (Int32.ofNat ku))]))
                    by_cases hc118_25 : ku = 14
                    · skip
                      refine Go.pre (fun _ k => XS.icmpNo X0.here hx rfl (hb hby d_method_4_118) rfl (teq ((own_oe (a := ku) (b := 14) (by omega) (by omega)).mpr hc118_25)).2 k) ?_
                      show Go p e below _ (s₁.setTop (mkF m 121 #[iv (Int32.ofNat ku), iv (Int32.ofNat cu)] []))
                      refine Go.pre (fun _ k => XS.iloadN X0.here hx rfl (hb hby d_method_4_121) rfl k) ?_
                      show Go p e below _ (s₁.setTop (mkF m 122 #[iv (Int32.ofNat ku), iv (Int32.ofNat cu)] [(.int (Int32.ofNat cu))]))
                      obtain ⟨_, _, ⟨T26, L26, k26, n26⟩, -, X26, ⟨Lc26, hQ26, l26, y26, z26⟩, st26⟩ := Jvm.LawKit.callS X0 hx (y := (⟨"com/example/entayl/entayl/input/IriTableIsPlainIriPinLaw", "hex", "(I)Z"⟩ : MethodName)) hown (mvT hZ (hw _ (List.mem_of_getElem? (i := 42) rfl))) (mvT hZ (hw _ (List.mem_of_getElem? (i := 43) rfl))) (mvT hZ (hw _ (List.mem_of_getElem? (i := 19) rfl))) (mvT hZ (hw _ (List.mem_of_getElem? (i := 44) rfl))) (by decide) (backOf (W := 0) (rm_hex l Z a0 hw [] cu h0 n0 Z0 hc) hZ (hw _ (List.mem_of_getElem? (i := 44) rfl)) (hw _ (List.mem_of_getElem? (i := 19) rfl)) (by decide) (by decide)) (g := (mkF m 122 #[iv (Int32.ofNat ku), iv (Int32.ofNat cu)] [(.int (Int32.ofNat cu))])) rfl (by rw [hml]; rfl) (argsL := [(.int (Int32.ofNat cu))]) (rest := []) (lenOf pd_0 rfl) rfl (by show 2 * 0 + _ ≤ _; exact Nat.le_of_eq rfl) (hb hby d_method_4_122) (fun _ _ => ⟨rfl, e0, (by decide : 0 + 0 ≤ _), (by decide : 0 + 0 ≤ _)⟩)
                      dsimp only [Pt.U, Pt.locs, Pt.cells, Pt.slots] at X26 l26 y26 z26 st26 hQ26
                      subst l26 y26 z26
                      refine Go.pre st26 ?_
                      rcases hQ26 with ⟨hp26, rfl, N26q, eh26⟩ | ⟨hp26, rfl, N26q, eh26⟩
                      · skip
                        have N26 := Fr.app N0 N26q
                        show Go p e below _ (T26.setTop (mkF m 125 #[iv (Int32.ofNat ku), iv (Int32.ofNat cu)] [(.int (1 : Int32))]))
                        obtain ⟨fs, hr, hrun, hended, hW, hsame⟩ := X26.leave (v := some (.int (1 : Int32))) (fun h => by rw [Bd.returns] at h; cases h)
                        refine Go.fin (retN X26 hx (t := .boolean) Bd.returns (by simp) (hb hby d_method_4_125) hr) ⟨hrun, hended, _, _, rfl, ?_, ⟨_, rfl⟩, hW, hsame.mono (by decide) (by decide)⟩
                        show Q_eB Z ku cu h0 n0 _ T26.heap _
                        rw [eh26]
                        exact Or.inl ⟨by first | (simp [own_eB, hc1_1, hc11_3, hc47_10, hc71_13, hc88_15, hc94_17, hc100_19, hc106_21, hc112_23, hc118_25, hp26]; done) | (simp [own_eB, hc1_1, hc11_3, hc47_10, hc71_13, hc88_15, hc94_17, hc100_19, hc106_21, hc112_23, hc118_25, hp26]; omega), rfl, N26, rfl⟩
                      · skip
                        have N26 := Fr.app N0 N26q
                        show Go p e below _ (T26.setTop (mkF m 125 #[iv (Int32.ofNat ku), iv (Int32.ofNat cu)] [(.int (0 : Int32))]))
                        obtain ⟨fs, hr, hrun, hended, hW, hsame⟩ := X26.leave (v := some (.int (0 : Int32))) (fun h => by rw [Bd.returns] at h; cases h)
                        refine Go.fin (retN X26 hx (t := .boolean) Bd.returns (by simp) (hb hby d_method_4_125) hr) ⟨hrun, hended, _, _, rfl, ?_, ⟨_, rfl⟩, hW, hsame.mono (by decide) (by decide)⟩
                        show Q_eB Z ku cu h0 n0 _ T26.heap _
                        rw [eh26]
                        exact Or.inr ⟨by first | (simp [own_eB, hc1_1, hc11_3, hc47_10, hc71_13, hc88_15, hc94_17, hc100_19, hc106_21, hc112_23, hc118_25, hp26]; done) | (simp [own_eB, hc1_1, hc11_3, hc47_10, hc71_13, hc88_15, hc94_17, hc100_19, hc106_21, hc112_23, hc118_25, hp26]; omega), rfl, N26, rfl⟩
                    · skip
                      refine Go.pre (fun _ k => XS.icmpYes X0.here hx rfl (pc0 := 118) (pc' := 126) rfl (hb hby d_method_4_118) rfl (feq (fun q => hc118_25 ((own_oe (a := ku) (b := 14) (by omega) (by omega)).mp q))).2 (by decide) (by decide) k) ?_
                      show Go p e below _ (s₁.setTop (mkF m 126 #[iv (Int32.ofNat ku), iv (Int32.ofNat cu)] []))
                      refine Go.pre (fun _ k => XS.iloadN X0.here hx rfl (hb hby d_method_4_126) rfl k) ?_
                      show Go p e below _ (s₁.setTop (mkF m 127 #[iv (Int32.ofNat ku), iv (Int32.ofNat cu)] [(.int (Int32.ofNat ku))]))
                      refine Go.pre (fun _ k => XS.bipush X0.here hx rfl (hb hby d_method_4_127) k) ?_
                      show Go p e below _ (s₁.setTop (mkF m 129 #[iv (Int32.ofNat ku), iv (Int32.ofNat cu)] [(.int (7 : Int32)), (.int (Int32.ofNat ku))]))
                      by_cases hc129_27 : ku = 7
                      · skip
                        refine Go.pre (fun _ k => XS.icmpNo X0.here hx rfl (hb hby d_method_4_129) rfl (teq ((own_oe (a := ku) (b := 7) (by omega) (by omega)).mpr hc129_27)).2 k) ?_
                        show Go p e below _ (s₁.setTop (mkF m 132 #[iv (Int32.ofNat ku), iv (Int32.ofNat cu)] []))
                        refine Go.pre (fun _ k => XS.iloadN X0.here hx rfl (hb hby d_method_4_132) rfl k) ?_
                        show Go p e below _ (s₁.setTop (mkF m 133 #[iv (Int32.ofNat ku), iv (Int32.ofNat cu)] [(.int (Int32.ofNat cu))]))
                        obtain ⟨_, _, ⟨T28, L28, k28, n28⟩, -, X28, ⟨Lc28, hQ28, l28, y28, z28⟩, st28⟩ := Jvm.LawKit.callS X0 hx (y := (⟨"com/example/entayl/entayl/input/IriTableIsPlainIriPinLaw", "query", "(I)Z"⟩ : MethodName)) hown (mvT hZ (hw _ (List.mem_of_getElem? (i := 21) rfl))) (mvT hZ (hw _ (List.mem_of_getElem? (i := 22) rfl))) (mvT hZ (hw _ (List.mem_of_getElem? (i := 19) rfl))) (mvT hZ (hw _ (List.mem_of_getElem? (i := 23) rfl))) (by decide) (backOf (W := 0) (rm_query l Z a0 hw [] cu h0 n0 Z0 hc) hZ (hw _ (List.mem_of_getElem? (i := 23) rfl)) (hw _ (List.mem_of_getElem? (i := 19) rfl)) (by decide) (by decide)) (g := (mkF m 133 #[iv (Int32.ofNat ku), iv (Int32.ofNat cu)] [(.int (Int32.ofNat cu))])) rfl (by rw [hml]; rfl) (argsL := [(.int (Int32.ofNat cu))]) (rest := []) (lenOf pd_0 rfl) rfl (by show 2 * 0 + _ ≤ _; exact Nat.le_of_eq rfl) (hb hby d_method_4_133) (fun _ _ => ⟨rfl, e0, (by decide : 0 + 0 ≤ _), (by decide : 0 + 0 ≤ _)⟩)
                        dsimp only [Pt.U, Pt.locs, Pt.cells, Pt.slots] at X28 l28 y28 z28 st28 hQ28
                        subst l28 y28 z28
                        refine Go.pre st28 ?_
                        rcases hQ28 with ⟨hp28, rfl, N28q, eh28⟩ | ⟨hp28, rfl, N28q, eh28⟩
                        · skip
                          have N28 := Fr.app N0 N28q
                          show Go p e below _ (T28.setTop (mkF m 136 #[iv (Int32.ofNat ku), iv (Int32.ofNat cu)] [(.int (1 : Int32))]))
                          obtain ⟨fs, hr, hrun, hended, hW, hsame⟩ := X28.leave (v := some (.int (1 : Int32))) (fun h => by rw [Bd.returns] at h; cases h)
                          refine Go.fin (retN X28 hx (t := .boolean) Bd.returns (by simp) (hb hby d_method_4_136) hr) ⟨hrun, hended, _, _, rfl, ?_, ⟨_, rfl⟩, hW, hsame.mono (by decide) (by decide)⟩
                          show Q_eB Z ku cu h0 n0 _ T28.heap _
                          rw [eh28]
                          exact Or.inl ⟨by first | (simp [own_eB, hc1_1, hc11_3, hc47_10, hc71_13, hc88_15, hc94_17, hc100_19, hc106_21, hc112_23, hc118_25, hc129_27, hp28]; done) | (simp [own_eB, hc1_1, hc11_3, hc47_10, hc71_13, hc88_15, hc94_17, hc100_19, hc106_21, hc112_23, hc118_25, hc129_27, hp28]; omega), rfl, N28, rfl⟩
                        · skip
                          have N28 := Fr.app N0 N28q
                          show Go p e below _ (T28.setTop (mkF m 136 #[iv (Int32.ofNat ku), iv (Int32.ofNat cu)] [(.int (0 : Int32))]))
                          obtain ⟨fs, hr, hrun, hended, hW, hsame⟩ := X28.leave (v := some (.int (0 : Int32))) (fun h => by rw [Bd.returns] at h; cases h)
                          refine Go.fin (retN X28 hx (t := .boolean) Bd.returns (by simp) (hb hby d_method_4_136) hr) ⟨hrun, hended, _, _, rfl, ?_, ⟨_, rfl⟩, hW, hsame.mono (by decide) (by decide)⟩
                          show Q_eB Z ku cu h0 n0 _ T28.heap _
                          rw [eh28]
                          exact Or.inr ⟨by first | (simp [own_eB, hc1_1, hc11_3, hc47_10, hc71_13, hc88_15, hc94_17, hc100_19, hc106_21, hc112_23, hc118_25, hc129_27, hp28]; done) | (simp [own_eB, hc1_1, hc11_3, hc47_10, hc71_13, hc88_15, hc94_17, hc100_19, hc106_21, hc112_23, hc118_25, hc129_27, hp28]; omega), rfl, N28, rfl⟩
                      · skip
                        refine Go.pre (fun _ k => XS.icmpYes X0.here hx rfl (pc0 := 129) (pc' := 137) rfl (hb hby d_method_4_129) rfl (feq (fun q => hc129_27 ((own_oe (a := ku) (b := 7) (by omega) (by omega)).mp q))).2 (by decide) (by decide) k) ?_
                        show Go p e below _ (s₁.setTop (mkF m 137 #[iv (Int32.ofNat ku), iv (Int32.ofNat cu)] []))
                        refine Go.pre (fun _ k => XS.iloadN X0.here hx rfl (hb hby d_method_4_137) rfl k) ?_
                        show Go p e below _ (s₁.setTop (mkF m 138 #[iv (Int32.ofNat ku), iv (Int32.ofNat cu)] [(.int (Int32.ofNat ku))]))
                        refine Go.pre (fun _ k => XS.bipush X0.here hx rfl (hb hby d_method_4_138) k) ?_
                        show Go p e below _ (s₁.setTop (mkF m 140 #[iv (Int32.ofNat ku), iv (Int32.ofNat cu)] [(.int (11 : Int32)), (.int (Int32.ofNat ku))]))
                        by_cases hc140_29 : ku = 11
                        · skip
                          refine Go.pre (fun _ k => XS.icmpNo X0.here hx rfl (hb hby d_method_4_140) rfl (teq ((own_oe (a := ku) (b := 11) (by omega) (by omega)).mpr hc140_29)).2 k) ?_
                          show Go p e below _ (s₁.setTop (mkF m 143 #[iv (Int32.ofNat ku), iv (Int32.ofNat cu)] []))
                          refine Go.pre (fun _ k => XS.iloadN X0.here hx rfl (hb hby d_method_4_143) rfl k) ?_
                          show Go p e below _ (s₁.setTop (mkF m 144 #[iv (Int32.ofNat ku), iv (Int32.ofNat cu)] [(.int (Int32.ofNat cu))]))
                          obtain ⟨_, _, ⟨T30, L30, k30, n30⟩, -, X30, ⟨Lc30, hQ30, l30, y30, z30⟩, st30⟩ := Jvm.LawKit.callS X0 hx (y := (⟨"com/example/entayl/entayl/input/IriTableIsPlainIriPinLaw", "query", "(I)Z"⟩ : MethodName)) hown (mvT hZ (hw _ (List.mem_of_getElem? (i := 21) rfl))) (mvT hZ (hw _ (List.mem_of_getElem? (i := 22) rfl))) (mvT hZ (hw _ (List.mem_of_getElem? (i := 19) rfl))) (mvT hZ (hw _ (List.mem_of_getElem? (i := 23) rfl))) (by decide) (backOf (W := 0) (rm_query l Z a0 hw [] cu h0 n0 Z0 hc) hZ (hw _ (List.mem_of_getElem? (i := 23) rfl)) (hw _ (List.mem_of_getElem? (i := 19) rfl)) (by decide) (by decide)) (g := (mkF m 144 #[iv (Int32.ofNat ku), iv (Int32.ofNat cu)] [(.int (Int32.ofNat cu))])) rfl (by rw [hml]; rfl) (argsL := [(.int (Int32.ofNat cu))]) (rest := []) (lenOf pd_0 rfl) rfl (by show 2 * 0 + _ ≤ _; exact Nat.le_of_eq rfl) (hb hby d_method_4_144) (fun _ _ => ⟨rfl, e0, (by decide : 0 + 0 ≤ _), (by decide : 0 + 0 ≤ _)⟩)
                          dsimp only [Pt.U, Pt.locs, Pt.cells, Pt.slots] at X30 l30 y30 z30 st30 hQ30
                          subst l30 y30 z30
                          refine Go.pre st30 ?_
                          rcases hQ30 with ⟨hp30, rfl, N30q, eh30⟩ | ⟨hp30, rfl, N30q, eh30⟩
                          · skip
                            have N30 := Fr.app N0 N30q
                            show Go p e below _ (T30.setTop (mkF m 147 #[iv (Int32.ofNat ku), iv (Int32.ofNat cu)] [(.int (1 : Int32))]))
                            refine Go.pre (fun _ k => XS.ifYes X30.here hx rfl (pc0 := 147) (pc' := 156) rfl (hb hby d_method_4_147) rfl ((if0 _ _).trans (feq (by decide : ¬ ((1 : Int32) = (0 : Int32)))).2) (by decide) (by decide) k) ?_
                            show Go p e below _ (T30.setTop (mkF m 156 #[iv (Int32.ofNat ku), iv (Int32.ofNat cu)] []))
                            refine Go.pre (fun _ k => XS.iconst X30.here hx rfl (hb hby d_method_4_156) k) ?_
                            show Go p e below _ (T30.setTop (mkF m 157 #[iv (Int32.ofNat ku), iv (Int32.ofNat cu)] [(.int (1 : Int32))]))
                            refine Go.pre (fun _ k => XS.goto X30.here hx rfl (pc0 := 157) (pc' := 161) rfl (hb hby d_method_4_157) (by decide) (by decide) k) ?_
                            show Go p e below _ (T30.setTop (mkF m 161 #[iv (Int32.ofNat ku), iv (Int32.ofNat cu)] [(.int (1 : Int32))]))
                            obtain ⟨fs, hr, hrun, hended, hW, hsame⟩ := X30.leave (v := some (.int (1 : Int32))) (fun h => by rw [Bd.returns] at h; cases h)
                            refine Go.fin (retN X30 hx (t := .boolean) Bd.returns (by simp) (hb hby d_method_4_161) hr) ⟨hrun, hended, _, _, rfl, ?_, ⟨_, rfl⟩, hW, hsame.mono (by decide) (by decide)⟩
                            show Q_eB Z ku cu h0 n0 _ T30.heap _
                            rw [eh30]
                            exact Or.inl ⟨by first | (simp [own_eB, hc1_1, hc11_3, hc47_10, hc71_13, hc88_15, hc94_17, hc100_19, hc106_21, hc112_23, hc118_25, hc129_27, hc140_29, hp30]; done) | (simp [own_eB, hc1_1, hc11_3, hc47_10, hc71_13, hc88_15, hc94_17, hc100_19, hc106_21, hc112_23, hc118_25, hc129_27, hc140_29, hp30]; omega), rfl, N30, rfl⟩
                          · skip
                            have N30 := Fr.app N0 N30q
                            show Go p e below _ (T30.setTop (mkF m 147 #[iv (Int32.ofNat ku), iv (Int32.ofNat cu)] [(.int (0 : Int32))]))
                            refine Go.pre (fun _ k => XS.ifNo X30.here hx rfl (hb hby d_method_4_147) rfl ((if0 _ _).trans (teq (by decide : (0 : Int32) = (0 : Int32))).2) k) ?_
                            show Go p e below _ (T30.setTop (mkF m 150 #[iv (Int32.ofNat ku), iv (Int32.ofNat cu)] []))
                            refine Go.pre (fun _ k => XS.iloadN X30.here hx rfl (hb hby d_method_4_150) rfl k) ?_
                            show Go p e below _ (T30.setTop (mkF m 151 #[iv (Int32.ofNat ku), iv (Int32.ofNat cu)] [(.int (Int32.ofNat cu))]))
                            refine Go.pre (fun _ k => XS.bipush X30.here hx rfl (hb hby d_method_4_151) k) ?_
                            show Go p e below _ (T30.setTop (mkF m 153 #[iv (Int32.ofNat ku), iv (Int32.ofNat cu)] [(.int (35 : Int32)), (.int (Int32.ofNat cu))]))
                            by_cases hc153_31 : cu = 35
                            · skip
                              refine Go.pre (fun _ k => XS.icmpNo X30.here hx rfl (hb hby d_method_4_153) rfl (teq ((own_oe (a := cu) (b := 35) (by omega) (by omega)).mpr hc153_31)).2 k) ?_
                              show Go p e below _ (T30.setTop (mkF m 156 #[iv (Int32.ofNat ku), iv (Int32.ofNat cu)] []))
                              refine Go.pre (fun _ k => XS.iconst X30.here hx rfl (hb hby d_method_4_156) k) ?_
                              show Go p e below _ (T30.setTop (mkF m 157 #[iv (Int32.ofNat ku), iv (Int32.ofNat cu)] [(.int (1 : Int32))]))
                              refine Go.pre (fun _ k => XS.goto X30.here hx rfl (pc0 := 157) (pc' := 161) rfl (hb hby d_method_4_157) (by decide) (by decide) k) ?_
                              show Go p e below _ (T30.setTop (mkF m 161 #[iv (Int32.ofNat ku), iv (Int32.ofNat cu)] [(.int (1 : Int32))]))
                              obtain ⟨fs, hr, hrun, hended, hW, hsame⟩ := X30.leave (v := some (.int (1 : Int32))) (fun h => by rw [Bd.returns] at h; cases h)
                              refine Go.fin (retN X30 hx (t := .boolean) Bd.returns (by simp) (hb hby d_method_4_161) hr) ⟨hrun, hended, _, _, rfl, ?_, ⟨_, rfl⟩, hW, hsame.mono (by decide) (by decide)⟩
                              show Q_eB Z ku cu h0 n0 _ T30.heap _
                              rw [eh30]
                              exact Or.inl ⟨by first | (simp [own_eB, hc1_1, hc11_3, hc47_10, hc71_13, hc88_15, hc94_17, hc100_19, hc106_21, hc112_23, hc118_25, hc129_27, hc140_29, hp30, hc153_31]; done) | (simp [own_eB, hc1_1, hc11_3, hc47_10, hc71_13, hc88_15, hc94_17, hc100_19, hc106_21, hc112_23, hc118_25, hc129_27, hc140_29, hp30, hc153_31]; omega), rfl, N30, rfl⟩
                            · skip
                              refine Go.pre (fun _ k => XS.icmpYes X30.here hx rfl (pc0 := 153) (pc' := 160) rfl (hb hby d_method_4_153) rfl (feq (fun q => hc153_31 ((own_oe (a := cu) (b := 35) (by omega) (by omega)).mp q))).2 (by decide) (by decide) k) ?_
                              show Go p e below _ (T30.setTop (mkF m 160 #[iv (Int32.ofNat ku), iv (Int32.ofNat cu)] []))
                              refine Go.pre (fun _ k => XS.iconst X30.here hx rfl (hb hby d_method_4_160) k) ?_
                              show Go p e below _ (T30.setTop (mkF m 161 #[iv (Int32.ofNat ku), iv (Int32.ofNat cu)] [(.int (0 : Int32))]))
                              obtain ⟨fs, hr, hrun, hended, hW, hsame⟩ := X30.leave (v := some (.int (0 : Int32))) (fun h => by rw [Bd.returns] at h; cases h)
                              refine Go.fin (retN X30 hx (t := .boolean) Bd.returns (by simp) (hb hby d_method_4_161) hr) ⟨hrun, hended, _, _, rfl, ?_, ⟨_, rfl⟩, hW, hsame.mono (by decide) (by decide)⟩
                              show Q_eB Z ku cu h0 n0 _ T30.heap _
                              rw [eh30]
                              exact Or.inr ⟨by first | (simp [own_eB, hc1_1, hc11_3, hc47_10, hc71_13, hc88_15, hc94_17, hc100_19, hc106_21, hc112_23, hc118_25, hc129_27, hc140_29, hp30, hc153_31]; done) | (simp [own_eB, hc1_1, hc11_3, hc47_10, hc71_13, hc88_15, hc94_17, hc100_19, hc106_21, hc112_23, hc118_25, hc129_27, hc140_29, hp30, hc153_31]; omega), rfl, N30, rfl⟩
                        · skip
                          refine Go.pre (fun _ k => XS.icmpYes X0.here hx rfl (pc0 := 140) (pc' := 162) rfl (hb hby d_method_4_140) rfl (feq (fun q => hc140_29 ((own_oe (a := ku) (b := 11) (by omega) (by omega)).mp q))).2 (by decide) (by decide) k) ?_
                          show Go p e below _ (s₁.setTop (mkF m 162 #[iv (Int32.ofNat ku), iv (Int32.ofNat cu)] []))
                          refine Go.pre (fun _ k => XS.iloadN X0.here hx rfl (hb hby d_method_4_162) rfl k) ?_
                          show Go p e below _ (s₁.setTop (mkF m 163 #[iv (Int32.ofNat ku), iv (Int32.ofNat cu)] [(.int (Int32.ofNat cu))]))
                          obtain ⟨_, _, ⟨T32, L32, k32, n32⟩, -, X32, ⟨Lc32, hQ32, l32, y32, z32⟩, st32⟩ := Jvm.LawKit.callS X0 hx (y := (⟨"com/example/entayl/entayl/input/IriTableIsPlainIriPinLaw", "query", "(I)Z"⟩ : MethodName)) hown (mvT hZ (hw _ (List.mem_of_getElem? (i := 21) rfl))) (mvT hZ (hw _ (List.mem_of_getElem? (i := 22) rfl))) (mvT hZ (hw _ (List.mem_of_getElem? (i := 19) rfl))) (mvT hZ (hw _ (List.mem_of_getElem? (i := 23) rfl))) (by decide) (backOf (W := 0) (rm_query l Z a0 hw [] cu h0 n0 Z0 hc) hZ (hw _ (List.mem_of_getElem? (i := 23) rfl)) (hw _ (List.mem_of_getElem? (i := 19) rfl)) (by decide) (by decide)) (g := (mkF m 163 #[iv (Int32.ofNat ku), iv (Int32.ofNat cu)] [(.int (Int32.ofNat cu))])) rfl (by rw [hml]; rfl) (argsL := [(.int (Int32.ofNat cu))]) (rest := []) (lenOf pd_0 rfl) rfl (by show 2 * 0 + _ ≤ _; exact Nat.le_of_eq rfl) (hb hby d_method_4_163) (fun _ _ => ⟨rfl, e0, (by decide : 0 + 0 ≤ _), (by decide : 0 + 0 ≤ _)⟩)
                          dsimp only [Pt.U, Pt.locs, Pt.cells, Pt.slots] at X32 l32 y32 z32 st32 hQ32
                          subst l32 y32 z32
                          refine Go.pre st32 ?_
                          rcases hQ32 with ⟨hp32, rfl, N32q, eh32⟩ | ⟨hp32, rfl, N32q, eh32⟩
                          · skip
                            have N32 := Fr.app N0 N32q
                            show Go p e below _ (T32.setTop (mkF m 166 #[iv (Int32.ofNat ku), iv (Int32.ofNat cu)] [(.int (1 : Int32))]))
                            refine Go.pre (fun _ k => XS.ifYes X32.here hx rfl (pc0 := 166) (pc' := 175) rfl (hb hby d_method_4_166) rfl ((if0 _ _).trans (feq (by decide : ¬ ((1 : Int32) = (0 : Int32)))).2) (by decide) (by decide) k) ?_
                            show Go p e below _ (T32.setTop (mkF m 175 #[iv (Int32.ofNat ku), iv (Int32.ofNat cu)] []))
                            refine Go.pre (fun _ k => XS.iconst X32.here hx rfl (hb hby d_method_4_175) k) ?_
                            show Go p e below _ (T32.setTop (mkF m 176 #[iv (Int32.ofNat ku), iv (Int32.ofNat cu)] [(.int (1 : Int32))]))
                            refine Go.pre (fun _ k => XS.goto X32.here hx rfl (pc0 := 176) (pc' := 180) rfl (hb hby d_method_4_176) (by decide) (by decide) k) ?_
                            show Go p e below _ (T32.setTop (mkF m 180 #[iv (Int32.ofNat ku), iv (Int32.ofNat cu)] [(.int (1 : Int32))]))
                            obtain ⟨fs, hr, hrun, hended, hW, hsame⟩ := X32.leave (v := some (.int (1 : Int32))) (fun h => by rw [Bd.returns] at h; cases h)
                            refine Go.fin (retN X32 hx (t := .boolean) Bd.returns (by simp) (hb hby d_method_4_180) hr) ⟨hrun, hended, _, _, rfl, ?_, ⟨_, rfl⟩, hW, hsame.mono (by decide) (by decide)⟩
                            show Q_eB Z ku cu h0 n0 _ T32.heap _
                            rw [eh32]
                            exact Or.inl ⟨by first | (simp [own_eB, hc1_1, hc11_3, hc47_10, hc71_13, hc88_15, hc94_17, hc100_19, hc106_21, hc112_23, hc118_25, hc129_27, hc140_29, hp32]; done) | (simp [own_eB, hc1_1, hc11_3, hc47_10, hc71_13, hc88_15, hc94_17, hc100_19, hc106_21, hc112_23, hc118_25, hc129_27, hc140_29, hp32]; omega), rfl, N32, rfl⟩
                          · skip
                            have N32 := Fr.app N0 N32q
                            show Go p e below _ (T32.setTop (mkF m 166 #[iv (Int32.ofNat ku), iv (Int32.ofNat cu)] [(.int (0 : Int32))]))
                            refine Go.pre (fun _ k => XS.ifNo X32.here hx rfl (hb hby d_method_4_166) rfl ((if0 _ _).trans (teq (by decide : (0 : Int32) = (0 : Int32))).2) k) ?_
                            show Go p e below _ (T32.setTop (mkF m 169 #[iv (Int32.ofNat ku), iv (Int32.ofNat cu)] []))
                            refine Go.pre (fun _ k => XS.iloadN X32.here hx rfl (hb hby d_method_4_169) rfl k) ?_
                            show Go p e below _ (T32.setTop (mkF m 170 #[iv (Int32.ofNat ku), iv (Int32.ofNat cu)] [(.int (Int32.ofNat cu))]))
                            refine Go.pre (fun _ k => XS.bipush X32.here hx rfl (hb hby d_method_4_170) k) ?_
                            show Go p e below _ (T32.setTop (mkF m 172 #[iv (Int32.ofNat ku), iv (Int32.ofNat cu)] [(.int (37 : Int32)), (.int (Int32.ofNat cu))]))
                            by_cases hc172_33 : cu = 37
                            · skip
                              refine Go.pre (fun _ k => XS.icmpNo X32.here hx rfl (hb hby d_method_4_172) rfl (teq ((own_oe (a := cu) (b := 37) (by omega) (by omega)).mpr hc172_33)).2 k) ?_
                              show Go p e below _ (T32.setTop (mkF m 175 #[iv (Int32.ofNat ku), iv (Int32.ofNat cu)] []))
                              refine Go.pre (fun _ k => XS.iconst X32.here hx rfl (hb hby d_method_4_175) k) ?_
                              show Go p e below _ (T32.setTop (mkF m 176 #[iv (Int32.ofNat ku), iv (Int32.ofNat cu)] [(.int (1 : Int32))]))
                              refine Go.pre (fun _ k => XS.goto X32.here hx rfl (pc0 := 176) (pc' := 180) rfl (hb hby d_method_4_176) (by decide) (by decide) k) ?_
                              show Go p e below _ (T32.setTop (mkF m 180 #[iv (Int32.ofNat ku), iv (Int32.ofNat cu)] [(.int (1 : Int32))]))
                              obtain ⟨fs, hr, hrun, hended, hW, hsame⟩ := X32.leave (v := some (.int (1 : Int32))) (fun h => by rw [Bd.returns] at h; cases h)
                              refine Go.fin (retN X32 hx (t := .boolean) Bd.returns (by simp) (hb hby d_method_4_180) hr) ⟨hrun, hended, _, _, rfl, ?_, ⟨_, rfl⟩, hW, hsame.mono (by decide) (by decide)⟩
                              show Q_eB Z ku cu h0 n0 _ T32.heap _
                              rw [eh32]
                              exact Or.inl ⟨by first | (simp [own_eB, hc1_1, hc11_3, hc47_10, hc71_13, hc88_15, hc94_17, hc100_19, hc106_21, hc112_23, hc118_25, hc129_27, hc140_29, hp32, hc172_33]; done) | (simp [own_eB, hc1_1, hc11_3, hc47_10, hc71_13, hc88_15, hc94_17, hc100_19, hc106_21, hc112_23, hc118_25, hc129_27, hc140_29, hp32, hc172_33]; omega), rfl, N32, rfl⟩
                            · skip
                              refine Go.pre (fun _ k => XS.icmpYes X32.here hx rfl (pc0 := 172) (pc' := 179) rfl (hb hby d_method_4_172) rfl (feq (fun q => hc172_33 ((own_oe (a := cu) (b := 37) (by omega) (by omega)).mp q))).2 (by decide) (by decide) k) ?_
                              show Go p e below _ (T32.setTop (mkF m 179 #[iv (Int32.ofNat ku), iv (Int32.ofNat cu)] []))
                              refine Go.pre (fun _ k => XS.iconst X32.here hx rfl (hb hby d_method_4_179) k) ?_
                              show Go p e below _ (T32.setTop (mkF m 180 #[iv (Int32.ofNat ku), iv (Int32.ofNat cu)] [(.int (0 : Int32))]))
                              obtain ⟨fs, hr, hrun, hended, hW, hsame⟩ := X32.leave (v := some (.int (0 : Int32))) (fun h => by rw [Bd.returns] at h; cases h)
                              refine Go.fin (retN X32 hx (t := .boolean) Bd.returns (by simp) (hb hby d_method_4_180) hr) ⟨hrun, hended, _, _, rfl, ?_, ⟨_, rfl⟩, hW, hsame.mono (by decide) (by decide)⟩
                              show Q_eB Z ku cu h0 n0 _ T32.heap _
                              rw [eh32]
                              exact Or.inr ⟨by first | (simp [own_eB, hc1_1, hc11_3, hc47_10, hc71_13, hc88_15, hc94_17, hc100_19, hc106_21, hc112_23, hc118_25, hc129_27, hc140_29, hp32, hc172_33]; done) | (simp [own_eB, hc1_1, hc11_3, hc47_10, hc71_13, hc88_15, hc94_17, hc100_19, hc106_21, hc112_23, hc118_25, hc129_27, hc140_29, hp32, hc172_33]; omega), rfl, N32, rfl⟩

theorem ef_eC (m : MethodId) (x0 : Int32) (x1 : Int32) : entryFrame m #[(.int x0), (.int x1)] 2 = mkF m 0 #[iv x0, iv x1] [] := by first | (simp [entryFrame, mkF, argsToLocals, Value.category]; done) | rfl
theorem pn_eC : plainName "com/example/entayl/entayl/input/IriTableIsPlainIriPinLaw" = true := by first | (simp [plainName, overriddenIn]; done) | decide +kernel
def Q_eC (Z : State) (ku : Nat) (cu : Nat) (h0 : Heap) (n0 : Nat) (v : Option Value) (h : Heap) (L : List Loc) : Prop := (own_eC ku cu = true ∧ v = some (.int 1) ∧ Fr n0 L ∧ h = h0) ∨ (¬ own_eC ku cu = true ∧ v = some (.int 0) ∧ Fr n0 L ∧ h = h0)
set_option maxRecDepth 65536 in
set_option maxHeartbeats 40000000 in
theorem rm_eC (l : Launch) (Z : State) (a0 : Array Value) (hw : ∀ d ∈ tables_1, d.before a0 Z = true) (ws : List Jvm.Cond) (ku : Nat) (cu : Nat) (h0 : Heap) (n0 : Nat) (Z0 : n0 ≤ h0.size) (hk : ku < 32) (hc : cu < 256) :
    MetFree l (⟨"com/example/entayl/entayl/input/IriTableIsPlainIriPinLaw", "expectC", "(II)Z"⟩ : MethodName) (head1 (Jvm.Cond.code (⟨"com/example/entayl/entayl/input/IriTableIsPlainIriPinLaw", "expectC", "(II)Z"⟩ : MethodName) method_5_code 2 (some .boolean) :: ws) ({ frames := 4, cells := 0, slots := 0, locals := 48 } : Room)) (fun as_ U => as_ = #[(.int (Int32.ofNat ku)), (.int (Int32.ofNat cu))] ∧ Z.Warmed39 U.vm ∧ U.heap = h0) (fun _ _ _ _ _ => True) (fun _ U o U' => ∃ v L, o = .returned v ∧ Q_eC Z ku cu h0 n0 v U'.heap L ∧ FrameEnd U o U' L ({ frames := 4, cells := 0, slots := 0, locals := 48 } : Room).cells ({ frames := 4, cells := 0, slots := 0, locals := 48 } : Room).slots) := by
  refine MetFree.of_bodySF (plainFor_of_name pn_eC) hisR ?_
  intro p e s m args below meth c s₁ Bd hml0 hP hK
  obtain ⟨rfl, hZ, hh⟩ := hP
  have hx := Bd.exec
  have hby := Bd.bytes
  have hml : c.maxLocals = 2 := hml0
  have hown : s.vm.findClass "com/example/entayl/entayl/input/IriTableIsPlainIriPinLaw" = some m.cls := findClass_of_methodNamed Bd.named
  have hnm := (name_of_methodNamed Bd.named Bd.method).1
  have X0 : Stand p l e ({ frames := 4, cells := 0, slots := 0, locals := 48 } : Room) s m #[(.int (Int32.ofNat ku)), (.int (Int32.ofNat cu))] below meth c s₁ [] 0 0 := Stand.of_body Bd
  have e0 : s₁.heap = h0 := by rw [← hh, Bd.state]; rfl
  have N0 := Fr.nil n0
  refine Go.out ?_
  refine Go.pre (fun t k => castTop (ef_eC m (Int32.ofNat ku) (Int32.ofNat cu)) k) ?_
  show Go p e below _ (s₁.setTop (mkF m 0 #[iv (Int32.ofNat ku), iv (Int32.ofNat cu)] []))
  refine Go.pre (fun _ k => XS.iloadN X0.here hx rfl (hb hby d_method_5_0) rfl k) ?_
  show Go p e below _ (s₁.setTop (mkF m 1 #[iv (Int32.ofNat ku), iv (Int32.ofNat cu)] [(.int (Int32.ofNat ku))]))
  by_cases hc1_1 : ku = 0
  · skip
    refine Go.pre (fun _ k => XS.ifYes X0.here hx rfl (pc0 := 1) (pc' := 26) rfl (hb hby d_method_5_1) rfl ((if0 _ _).trans (teq ((own_oe (a := ku) (b := 0) (by omega) (by omega)).mpr hc1_1)).1) (by decide) (by decide) k) ?_
    show Go p e below _ (s₁.setTop (mkF m 26 #[iv (Int32.ofNat ku), iv (Int32.ofNat cu)] []))
    refine Go.pre (fun _ k => XS.iconst X0.here hx rfl (hb hby d_method_5_26) k) ?_
    show Go p e below _ (s₁.setTop (mkF m 27 #[iv (Int32.ofNat ku), iv (Int32.ofNat cu)] [(.int (0 : Int32))]))
    obtain ⟨fs, hr, hrun, hended, hW, hsame⟩ := X0.leave (v := some (.int (0 : Int32))) (fun h => by rw [Bd.returns] at h; cases h)
    refine Go.fin (retN X0 hx (t := .boolean) Bd.returns (by simp) (hb hby d_method_5_27) hr) ⟨hrun, hended, _, _, rfl, ?_, ⟨_, rfl⟩, hW, hsame.mono (by decide) (by decide)⟩
    show Q_eC Z ku cu h0 n0 _ s₁.heap _
    rw [e0]
    exact Or.inr ⟨by first | (simp [own_eC, hc1_1]; done) | (simp [own_eC, hc1_1]; omega), rfl, N0, rfl⟩
  · skip
    refine Go.pre (fun _ k => XS.ifNo X0.here hx rfl (hb hby d_method_5_1) rfl ((if0 _ _).trans (feq (fun q => hc1_1 ((own_oe (a := ku) (b := 0) (by omega) (by omega)).mp q))).1) k) ?_
    show Go p e below _ (s₁.setTop (mkF m 4 #[iv (Int32.ofNat ku), iv (Int32.ofNat cu)] []))
    refine Go.pre (fun _ k => XS.iloadN X0.here hx rfl (hb hby d_method_5_4) rfl k) ?_
    show Go p e below _ (s₁.setTop (mkF m 5 #[iv (Int32.ofNat ku), iv (Int32.ofNat cu)] [(.int (Int32.ofNat ku))]))
    refine Go.pre (fun _ k => XS.iconst X0.here hx rfl (hb hby d_method_5_5) k) ?_
    show Go p e below _ (s₁.setTop (mkF m 6 #[iv (Int32.ofNat ku), iv (Int32.ofNat cu)] [(.int (1 : Int32)), (.int (Int32.ofNat ku))]))
    by_cases hc6_2 : ku = 1
    · skip
      refine Go.pre (fun _ k => XS.icmpYes X0.here hx rfl (pc0 := 6) (pc' := 26) rfl (hb hby d_method_5_6) rfl (teq ((own_oe (a := ku) (b := 1) (by omega) (by omega)).mpr hc6_2)).1 (by decide) (by decide) k) ?_
      show Go p e below _ (s₁.setTop (mkF m 26 #[iv (Int32.ofNat ku), iv (Int32.ofNat cu)] []))
      refine Go.pre (fun _ k => XS.iconst X0.here hx rfl (hb hby d_method_5_26) k) ?_
      show Go p e below _ (s₁.setTop (mkF m 27 #[iv (Int32.ofNat ku), iv (Int32.ofNat cu)] [(.int (0 : Int32))]))
      obtain ⟨fs, hr, hrun, hended, hW, hsame⟩ := X0.leave (v := some (.int (0 : Int32))) (fun h => by rw [Bd.returns] at h; cases h)
      refine Go.fin (retN X0 hx (t := .boolean) Bd.returns (by simp) (hb hby d_method_5_27) hr) ⟨hrun, hended, _, _, rfl, ?_, ⟨_, rfl⟩, hW, hsame.mono (by decide) (by decide)⟩
      show Q_eC Z ku cu h0 n0 _ s₁.heap _
      rw [e0]
      exact Or.inr ⟨by first | (simp [own_eC, hc1_1, hc6_2]; done) | (simp [own_eC, hc1_1, hc6_2]; omega), rfl, N0, rfl⟩
    · skip
      refine Go.pre (fun _ k => XS.icmpNo X0.here hx rfl (hb hby d_method_5_6) rfl (feq (fun q => hc6_2 ((own_oe (a := ku) (b := 1) (by omega) (by omega)).mp q))).1 k) ?_
      show Go p e below _ (s₁.setTop (mkF m 9 #[iv (Int32.ofNat ku), iv (Int32.ofNat cu)] []))
      refine Go.pre (fun _ k => XS.iloadN X0.here hx rfl (hb hby d_method_5_9) rfl k) ?_
      show Go p e below _ (s₁.setTop (mkF m 10 #[iv (Int32.ofNat ku), iv (Int32.ofNat cu)] [(.int (Int32.ofNat ku))]))
      refine Go.pre (fun _ k => XS.iconst X0.here hx rfl (hb hby d_method_5_10) k) ?_
      show Go p e below _ (s₁.setTop (mkF m 11 #[iv (Int32.ofNat ku), iv (Int32.ofNat cu)] [(.int (4 : Int32)), (.int (Int32.ofNat ku))]))
      by_cases hc11_3 : ku = 4
      · skip
        refine Go.pre (fun _ k => XS.icmpYes X0.here hx rfl (pc0 := 11) (pc' := 26) rfl (hb hby d_method_5_11) rfl (teq ((own_oe (a := ku) (b := 4) (by omega) (by omega)).mpr hc11_3)).1 (by decide) (by decide) k) ?_
        show Go p e below _ (s₁.setTop (mkF m 26 #[iv (Int32.ofNat ku), iv (Int32.ofNat cu)] []))
        refine Go.pre (fun _ k => XS.iconst X0.here hx rfl (hb hby d_method_5_26) k) ?_
        show Go p e below _ (s₁.setTop (mkF m 27 #[iv (Int32.ofNat ku), iv (Int32.ofNat cu)] [(.int (0 : Int32))]))
        obtain ⟨fs, hr, hrun, hended, hW, hsame⟩ := X0.leave (v := some (.int (0 : Int32))) (fun h => by rw [Bd.returns] at h; cases h)
        refine Go.fin (retN X0 hx (t := .boolean) Bd.returns (by simp) (hb hby d_method_5_27) hr) ⟨hrun, hended, _, _, rfl, ?_, ⟨_, rfl⟩, hW, hsame.mono (by decide) (by decide)⟩
        show Q_eC Z ku cu h0 n0 _ s₁.heap _
        rw [e0]
        exact Or.inr ⟨by first | (simp [own_eC, hc1_1, hc6_2, hc11_3]; done) | (simp [own_eC, hc1_1, hc6_2, hc11_3]; omega), rfl, N0, rfl⟩
      · skip
        refine Go.pre (fun _ k => XS.icmpNo X0.here hx rfl (hb hby d_method_5_11) rfl (feq (fun q => hc11_3 ((own_oe (a := ku) (b := 4) (by omega) (by omega)).mp q))).1 k) ?_
        show Go p e below _ (s₁.setTop (mkF m 14 #[iv (Int32.ofNat ku), iv (Int32.ofNat cu)] []))
        refine Go.pre (fun _ k => XS.iloadN X0.here hx rfl (hb hby d_method_5_14) rfl k) ?_
        show Go p e below _ (s₁.setTop (mkF m 15 #[iv (Int32.ofNat ku), iv (Int32.ofNat cu)] [(.int (Int32.ofNat ku))]))
        refine Go.pre (fun _ k => XS.bipush X0.here hx rfl (hb hby d_method_5_15) k) ?_
        show Go p e below _ (s₁.setTop (mkF m 17 #[iv (Int32.ofNat ku), iv (Int32.ofNat cu)] [(.int (6 : Int32)), (.int (Int32.ofNat ku))]))
        by_cases hc17_4 : ku = 6
        · skip
          refine Go.pre (fun _ k => XS.icmpYes X0.here hx rfl (pc0 := 17) (pc' := 26) rfl (hb hby d_method_5_17) rfl (teq ((own_oe (a := ku) (b := 6) (by omega) (by omega)).mpr hc17_4)).1 (by decide) (by decide) k) ?_
          show Go p e below _ (s₁.setTop (mkF m 26 #[iv (Int32.ofNat ku), iv (Int32.ofNat cu)] []))
          refine Go.pre (fun _ k => XS.iconst X0.here hx rfl (hb hby d_method_5_26) k) ?_
          show Go p e below _ (s₁.setTop (mkF m 27 #[iv (Int32.ofNat ku), iv (Int32.ofNat cu)] [(.int (0 : Int32))]))
          obtain ⟨fs, hr, hrun, hended, hW, hsame⟩ := X0.leave (v := some (.int (0 : Int32))) (fun h => by rw [Bd.returns] at h; cases h)
          refine Go.fin (retN X0 hx (t := .boolean) Bd.returns (by simp) (hb hby d_method_5_27) hr) ⟨hrun, hended, _, _, rfl, ?_, ⟨_, rfl⟩, hW, hsame.mono (by decide) (by decide)⟩
          show Q_eC Z ku cu h0 n0 _ s₁.heap _
          rw [e0]
          exact Or.inr ⟨by first | (simp [own_eC, hc1_1, hc6_2, hc11_3, hc17_4]; done) | (simp [own_eC, hc1_1, hc6_2, hc11_3, hc17_4]; omega), rfl, N0, rfl⟩
        · skip
          refine Go.pre (fun _ k => XS.icmpNo X0.here hx rfl (hb hby d_method_5_17) rfl (feq (fun q => hc17_4 ((own_oe (a := ku) (b := 6) (by omega) (by omega)).mp q))).1 k) ?_
          show Go p e below _ (s₁.setTop (mkF m 20 #[iv (Int32.ofNat ku), iv (Int32.ofNat cu)] []))
          refine Go.pre (fun _ k => XS.iloadN X0.here hx rfl (hb hby d_method_5_20) rfl k) ?_
          show Go p e below _ (s₁.setTop (mkF m 21 #[iv (Int32.ofNat ku), iv (Int32.ofNat cu)] [(.int (Int32.ofNat ku))]))
          refine Go.pre (fun _ k => XS.bipush X0.here hx rfl (hb hby d_method_5_21) k) ?_
          show Go p e below _ (s₁.setTop (mkF m 23 #[iv (Int32.ofNat ku), iv (Int32.ofNat cu)] [(.int (7 : Int32)), (.int (Int32.ofNat ku))]))
          by_cases hc23_5 : ku = 7
          · skip
            refine Go.pre (fun _ k => XS.icmpNo X0.here hx rfl (hb hby d_method_5_23) rfl (teq ((own_oe (a := ku) (b := 7) (by omega) (by omega)).mpr hc23_5)).2 k) ?_
            show Go p e below _ (s₁.setTop (mkF m 26 #[iv (Int32.ofNat ku), iv (Int32.ofNat cu)] []))
            refine Go.pre (fun _ k => XS.iconst X0.here hx rfl (hb hby d_method_5_26) k) ?_
            show Go p e below _ (s₁.setTop (mkF m 27 #[iv (Int32.ofNat ku), iv (Int32.ofNat cu)] [(.int (0 : Int32))]))
            obtain ⟨fs, hr, hrun, hended, hW, hsame⟩ := X0.leave (v := some (.int (0 : Int32))) (fun h => by rw [Bd.returns] at h; cases h)
            refine Go.fin (retN X0 hx (t := .boolean) Bd.returns (by simp) (hb hby d_method_5_27) hr) ⟨hrun, hended, _, _, rfl, ?_, ⟨_, rfl⟩, hW, hsame.mono (by decide) (by decide)⟩
            show Q_eC Z ku cu h0 n0 _ s₁.heap _
            rw [e0]
            exact Or.inr ⟨by first | (simp [own_eC, hc1_1, hc6_2, hc11_3, hc17_4, hc23_5]; done) | (simp [own_eC, hc1_1, hc6_2, hc11_3, hc17_4, hc23_5]; omega), rfl, N0, rfl⟩
          · skip
            refine Go.pre (fun _ k => XS.icmpYes X0.here hx rfl (pc0 := 23) (pc' := 28) rfl (hb hby d_method_5_23) rfl (feq (fun q => hc23_5 ((own_oe (a := ku) (b := 7) (by omega) (by omega)).mp q))).2 (by decide) (by decide) k) ?_
            show Go p e below _ (s₁.setTop (mkF m 28 #[iv (Int32.ofNat ku), iv (Int32.ofNat cu)] []))
            refine Go.pre (fun _ k => XS.iloadN X0.here hx rfl (hb hby d_method_5_28) rfl k) ?_
            show Go p e below _ (s₁.setTop (mkF m 29 #[iv (Int32.ofNat ku), iv (Int32.ofNat cu)] [(.int (Int32.ofNat ku))]))
            refine Go.pre (fun _ k => XS.iconst X0.here hx rfl (hb hby d_method_5_29) k) ?_
            show Go p e below _ (s₁.setTop (mkF m 30 #[iv (Int32.ofNat ku), iv (Int32.ofNat cu)] [(.int (2 : Int32)), (.int (Int32.ofNat ku))]))
            by_cases hc30_6 : ku = 2
            · skip
              refine Go.pre (fun _ k => XS.icmpYes X0.here hx rfl (pc0 := 30) (pc' := 38) rfl (hb hby d_method_5_30) rfl (teq ((own_oe (a := ku) (b := 2) (by omega) (by omega)).mpr hc30_6)).1 (by decide) (by decide) k) ?_
              show Go p e below _ (s₁.setTop (mkF m 38 #[iv (Int32.ofNat ku), iv (Int32.ofNat cu)] []))
              refine Go.pre (fun _ k => XS.iloadN X0.here hx rfl (hb hby d_method_5_38) rfl k) ?_
              show Go p e below _ (s₁.setTop (mkF m 39 #[iv (Int32.ofNat ku), iv (Int32.ofNat cu)] [(.int (Int32.ofNat cu))]))
              obtain ⟨_, _, ⟨T7, L7, k7, n7⟩, -, X7, ⟨Lc7, hQ7, l7, y7, z7⟩, st7⟩ := Jvm.LawKit.callS X0 hx (y := (⟨"com/example/entayl/entayl/input/IriTableIsPlainIriPinLaw", "query", "(I)Z"⟩ : MethodName)) hown (mvT hZ (hw _ (List.mem_of_getElem? (i := 21) rfl))) (mvT hZ (hw _ (List.mem_of_getElem? (i := 22) rfl))) (mvT hZ (hw _ (List.mem_of_getElem? (i := 19) rfl))) (mvT hZ (hw _ (List.mem_of_getElem? (i := 23) rfl))) (by decide) (backOf (W := 0) (rm_query l Z a0 hw [] cu h0 n0 Z0 hc) hZ (hw _ (List.mem_of_getElem? (i := 23) rfl)) (hw _ (List.mem_of_getElem? (i := 19) rfl)) (by decide) (by decide)) (g := (mkF m 39 #[iv (Int32.ofNat ku), iv (Int32.ofNat cu)] [(.int (Int32.ofNat cu))])) rfl (by rw [hml]; rfl) (argsL := [(.int (Int32.ofNat cu))]) (rest := []) (lenOf pd_0 rfl) rfl (by show 2 * 0 + _ ≤ _; exact Nat.le_of_eq rfl) (hb hby d_method_5_39) (fun _ _ => ⟨rfl, e0, (by decide : 0 + 0 ≤ _), (by decide : 0 + 0 ≤ _)⟩)
              dsimp only [Pt.U, Pt.locs, Pt.cells, Pt.slots] at X7 l7 y7 z7 st7 hQ7
              subst l7 y7 z7
              refine Go.pre st7 ?_
              rcases hQ7 with ⟨hp7, rfl, N7q, eh7⟩ | ⟨hp7, rfl, N7q, eh7⟩
              · skip
                have N7 := Fr.app N0 N7q
                show Go p e below _ (T7.setTop (mkF m 42 #[iv (Int32.ofNat ku), iv (Int32.ofNat cu)] [(.int (1 : Int32))]))
                refine Go.pre (fun _ k => XS.ifYes X7.here hx rfl (pc0 := 42) (pc' := 51) rfl (hb hby d_method_5_42) rfl ((if0 _ _).trans (feq (by decide : ¬ ((1 : Int32) = (0 : Int32)))).2) (by decide) (by decide) k) ?_
                show Go p e below _ (T7.setTop (mkF m 51 #[iv (Int32.ofNat ku), iv (Int32.ofNat cu)] []))
                refine Go.pre (fun _ k => XS.iloadN X7.here hx rfl (hb hby d_method_5_51) rfl k) ?_
                show Go p e below _ (T7.setTop (mkF m 52 #[iv (Int32.ofNat ku), iv (Int32.ofNat cu)] [(.int (Int32.ofNat cu))]))
                refine Go.pre (fun _ k => XS.bipush X7.here hx rfl (hb hby d_method_5_52) k) ?_
                show Go p e below _ (T7.setTop (mkF m 54 #[iv (Int32.ofNat ku), iv (Int32.ofNat cu)] [(.int (47 : Int32)), (.int (Int32.ofNat cu))]))
                by_cases hc54_8 : cu = 47
                · skip
                  refine Go.pre (fun _ k => XS.icmpYes X7.here hx rfl (pc0 := 54) (pc' := 61) rfl (hb hby d_method_5_54) rfl (teq ((own_oe (a := cu) (b := 47) (by omega) (by omega)).mpr hc54_8)).1 (by decide) (by decide) k) ?_
                  show Go p e below _ (T7.setTop (mkF m 61 #[iv (Int32.ofNat ku), iv (Int32.ofNat cu)] []))
                  refine Go.pre (fun _ k => XS.iconst X7.here hx rfl (hb hby d_method_5_61) k) ?_
                  show Go p e below _ (T7.setTop (mkF m 62 #[iv (Int32.ofNat ku), iv (Int32.ofNat cu)] [(.int (0 : Int32))]))
                  obtain ⟨fs, hr, hrun, hended, hW, hsame⟩ := X7.leave (v := some (.int (0 : Int32))) (fun h => by rw [Bd.returns] at h; cases h)
                  refine Go.fin (retN X7 hx (t := .boolean) Bd.returns (by simp) (hb hby d_method_5_62) hr) ⟨hrun, hended, _, _, rfl, ?_, ⟨_, rfl⟩, hW, hsame.mono (by decide) (by decide)⟩
                  show Q_eC Z ku cu h0 n0 _ T7.heap _
                  rw [eh7]
                  exact Or.inr ⟨by first | (simp [own_eC, hc1_1, hc6_2, hc11_3, hc17_4, hc23_5, hc30_6, hp7, hc54_8]; done) | (simp [own_eC, hc1_1, hc6_2, hc11_3, hc17_4, hc23_5, hc30_6, hp7, hc54_8]; omega), rfl, N7, rfl⟩
                · skip
                  refine Go.pre (fun _ k => XS.icmpNo X7.here hx rfl (hb hby d_method_5_54) rfl (feq (fun q => hc54_8 ((own_oe (a := cu) (b := 47) (by omega) (by omega)).mp q))).1 k) ?_
                  show Go p e below _ (T7.setTop (mkF m 57 #[iv (Int32.ofNat ku), iv (Int32.ofNat cu)] []))
                  refine Go.pre (fun _ k => XS.iconst X7.here hx rfl (hb hby d_method_5_57) k) ?_
                  show Go p e below _ (T7.setTop (mkF m 58 #[iv (Int32.ofNat ku), iv (Int32.ofNat cu)] [(.int (1 : Int32))]))
                  refine Go.pre (fun _ k => XS.goto X7.here hx rfl (pc0 := 58) (pc' := 62) rfl (hb hby d_method_5_58) (by decide) (by decide) k) ?_
                  show Go p e below _ (T7.setTop (mkF m 62 #[iv (Int32.ofNat ku), iv (Int32.ofNat cu)] [(.int (1 : Int32))]))
                  obtain ⟨fs, hr, hrun, hended, hW, hsame⟩ := X7.leave (v := some (.int (1 : Int32))) (fun h => by rw [Bd.returns] at h; cases h)
                  refine Go.fin (retN X7 hx (t := .boolean) Bd.returns (by simp) (hb hby d_method_5_62) hr) ⟨hrun, hended, _, _, rfl, ?_, ⟨_, rfl⟩, hW, hsame.mono (by decide) (by decide)⟩
                  show Q_eC Z ku cu h0 n0 _ T7.heap _
                  rw [eh7]
                  exact Or.inl ⟨by first | (simp [own_eC, hc1_1, hc6_2, hc11_3, hc17_4, hc23_5, hc30_6, hp7, hc54_8]; done) | (simp [own_eC, hc1_1, hc6_2, hc11_3, hc17_4, hc23_5, hc30_6, hp7, hc54_8]; omega), rfl, N7, rfl⟩
              · skip
                have N7 := Fr.app N0 N7q
                show Go p e below _ (T7.setTop (mkF m 42 #[iv (Int32.ofNat ku), iv (Int32.ofNat cu)] [(.int (0 : Int32))]))
                refine Go.pre (fun _ k => XS.ifNo X7.here hx rfl (hb hby d_method_5_42) rfl ((if0 _ _).trans (teq (by decide : (0 : Int32) = (0 : Int32))).2) k) ?_
                show Go p e below _ (T7.setTop (mkF m 45 #[iv (Int32.ofNat ku), iv (Int32.ofNat cu)] []))
                refine Go.pre (fun _ k => XS.iloadN X7.here hx rfl (hb hby d_method_5_45) rfl k) ?_
                show Go p e below _ (T7.setTop (mkF m 46 #[iv (Int32.ofNat ku), iv (Int32.ofNat cu)] [(.int (Int32.ofNat cu))]))
                refine Go.pre (fun _ k => XS.bipush X7.here hx rfl (hb hby d_method_5_46) k) ?_
                show Go p e below _ (T7.setTop (mkF m 48 #[iv (Int32.ofNat ku), iv (Int32.ofNat cu)] [(.int (35 : Int32)), (.int (Int32.ofNat cu))]))
                by_cases hc48_9 : cu = 35
                · skip
                  refine Go.pre (fun _ k => XS.icmpNo X7.here hx rfl (hb hby d_method_5_48) rfl (teq ((own_oe (a := cu) (b := 35) (by omega) (by omega)).mpr hc48_9)).2 k) ?_
                  show Go p e below _ (T7.setTop (mkF m 51 #[iv (Int32.ofNat ku), iv (Int32.ofNat cu)] []))
                  refine Go.pre (fun _ k => XS.iloadN X7.here hx rfl (hb hby d_method_5_51) rfl k) ?_
                  show Go p e below _ (T7.setTop (mkF m 52 #[iv (Int32.ofNat ku), iv (Int32.ofNat cu)] [(.int (Int32.ofNat cu))]))
                  refine Go.pre (fun _ k => XS.bipush X7.here hx rfl (hb hby d_method_5_52) k) ?_
                  show Go p e below _ (T7.setTop (mkF m 54 #[iv (Int32.ofNat ku), iv (Int32.ofNat cu)] [(.int (47 : Int32)), (.int (Int32.ofNat cu))]))
                  by_cases hc54_10 : cu = 47
                  · skip
                    refine Go.pre (fun _ k => XS.icmpYes X7.here hx rfl (pc0 := 54) (pc' := 61) rfl (hb hby d_method_5_54) rfl (teq ((own_oe (a := cu) (b := 47) (by omega) (by omega)).mpr hc54_10)).1 (by decide) (by decide) k) ?_
                    show Go p e below _ (T7.setTop (mkF m 61 #[iv (Int32.ofNat ku), iv (Int32.ofNat cu)] []))
                    refine Go.pre (fun _ k => XS.iconst X7.here hx rfl (hb hby d_method_5_61) k) ?_
                    show Go p e below _ (T7.setTop (mkF m 62 #[iv (Int32.ofNat ku), iv (Int32.ofNat cu)] [(.int (0 : Int32))]))
                    obtain ⟨fs, hr, hrun, hended, hW, hsame⟩ := X7.leave (v := some (.int (0 : Int32))) (fun h => by rw [Bd.returns] at h; cases h)
                    refine Go.fin (retN X7 hx (t := .boolean) Bd.returns (by simp) (hb hby d_method_5_62) hr) ⟨hrun, hended, _, _, rfl, ?_, ⟨_, rfl⟩, hW, hsame.mono (by decide) (by decide)⟩
                    show Q_eC Z ku cu h0 n0 _ T7.heap _
                    rw [eh7]
                    exact Or.inr ⟨by first | (simp [own_eC, hc1_1, hc6_2, hc11_3, hc17_4, hc23_5, hc30_6, hp7, hc48_9, hc54_10]; done) | (simp [own_eC, hc1_1, hc6_2, hc11_3, hc17_4, hc23_5, hc30_6, hp7, hc48_9, hc54_10]; omega), rfl, N7, rfl⟩
                  · skip
                    refine Go.pre (fun _ k => XS.icmpNo X7.here hx rfl (hb hby d_method_5_54) rfl (feq (fun q => hc54_10 ((own_oe (a := cu) (b := 47) (by omega) (by omega)).mp q))).1 k) ?_
                    show Go p e below _ (T7.setTop (mkF m 57 #[iv (Int32.ofNat ku), iv (Int32.ofNat cu)] []))
                    refine Go.pre (fun _ k => XS.iconst X7.here hx rfl (hb hby d_method_5_57) k) ?_
                    show Go p e below _ (T7.setTop (mkF m 58 #[iv (Int32.ofNat ku), iv (Int32.ofNat cu)] [(.int (1 : Int32))]))
                    refine Go.pre (fun _ k => XS.goto X7.here hx rfl (pc0 := 58) (pc' := 62) rfl (hb hby d_method_5_58) (by decide) (by decide) k) ?_
                    show Go p e below _ (T7.setTop (mkF m 62 #[iv (Int32.ofNat ku), iv (Int32.ofNat cu)] [(.int (1 : Int32))]))
                    obtain ⟨fs, hr, hrun, hended, hW, hsame⟩ := X7.leave (v := some (.int (1 : Int32))) (fun h => by rw [Bd.returns] at h; cases h)
                    refine Go.fin (retN X7 hx (t := .boolean) Bd.returns (by simp) (hb hby d_method_5_62) hr) ⟨hrun, hended, _, _, rfl, ?_, ⟨_, rfl⟩, hW, hsame.mono (by decide) (by decide)⟩
                    show Q_eC Z ku cu h0 n0 _ T7.heap _
                    rw [eh7]
                    exact Or.inl ⟨by first | (simp [own_eC, hc1_1, hc6_2, hc11_3, hc17_4, hc23_5, hc30_6, hp7, hc48_9, hc54_10]; done) | (simp [own_eC, hc1_1, hc6_2, hc11_3, hc17_4, hc23_5, hc30_6, hp7, hc48_9, hc54_10]; omega), rfl, N7, rfl⟩
                · skip
                  refine Go.pre (fun _ k => XS.icmpYes X7.here hx rfl (pc0 := 48) (pc' := 61) rfl (hb hby d_method_5_48) rfl (feq (fun q => hc48_9 ((own_oe (a := cu) (b := 35) (by omega) (by omega)).mp q))).2 (by decide) (by decide) k) ?_
                  show Go p e below _ (T7.setTop (mkF m 61 #[iv (Int32.ofNat ku), iv (Int32.ofNat cu)] []))
                  refine Go.pre (fun _ k => XS.iconst X7.here hx rfl (hb hby d_method_5_61) k) ?_
                  show Go p e below _ (T7.setTop (mkF m 62 #[iv (Int32.ofNat ku), iv (Int32.ofNat cu)] [(.int (0 : Int32))]))
                  obtain ⟨fs, hr, hrun, hended, hW, hsame⟩ := X7.leave (v := some (.int (0 : Int32))) (fun h => by rw [Bd.returns] at h; cases h)
                  refine Go.fin (retN X7 hx (t := .boolean) Bd.returns (by simp) (hb hby d_method_5_62) hr) ⟨hrun, hended, _, _, rfl, ?_, ⟨_, rfl⟩, hW, hsame.mono (by decide) (by decide)⟩
                  show Q_eC Z ku cu h0 n0 _ T7.heap _
                  rw [eh7]
                  exact Or.inr ⟨by first | (simp [own_eC, hc1_1, hc6_2, hc11_3, hc17_4, hc23_5, hc30_6, hp7, hc48_9]; done) | (simp [own_eC, hc1_1, hc6_2, hc11_3, hc17_4, hc23_5, hc30_6, hp7, hc48_9]; omega), rfl, N7, rfl⟩
            · skip
              refine Go.pre (fun _ k => XS.icmpNo X0.here hx rfl (hb hby d_method_5_30) rfl (feq (fun q => hc30_6 ((own_oe (a := ku) (b := 2) (by omega) (by omega)).mp q))).1 k) ?_
              show Go p e below _ (s₁.setTop (mkF m 33 #[iv (Int32.ofNat ku), iv (Int32.ofNat cu)] []))
              refine Go.pre (fun _ k => XS.iloadN X0.here hx rfl (hb hby d_method_5_33) rfl k) ?_
              show Go p e below _ (s₁.setTop (mkF m 34 #[iv (Int32.ofNat ku), iv (Int32.ofNat cu)] [(.int (Int32.ofNat ku))]))
              refine Go.pre (fun _ k => XS.iconst X0.here hx rfl (hb hby d_method_5_34) k) ?_
              show Go p e below _ (s₁.setTop (mkF m 35 #[iv (Int32.ofNat ku), iv (Int32.ofNat cu)] [(.int (3 : Int32)), (.int (Int32.ofNat ku))]))
              by_cases hc35_11 : ku = 3
              · skip
                refine Go.pre (fun _ k => XS.icmpNo X0.here hx rfl (hb hby d_method_5_35) rfl (teq ((own_oe (a := ku) (b := 3) (by omega) (by omega)).mpr hc35_11)).2 k) ?_
                show Go p e below _ (s₁.setTop (mkF m 38 #[iv (Int32.ofNat ku), iv (Int32.ofNat cu)] []))
                refine Go.pre (fun _ k => XS.iloadN X0.here hx rfl (hb hby d_method_5_38) rfl k) ?_
                show Go p e below _ (s₁.setTop (mkF m 39 #[iv (Int32.ofNat ku), iv (Int32.ofNat cu)] [(.int (Int32.ofNat cu))]))
                obtain ⟨_, _, ⟨T12, L12, k12, n12⟩, -, X12, ⟨Lc12, hQ12, l12, y12, z12⟩, st12⟩ := Jvm.LawKit.callS X0 hx (y := (⟨"com/example/entayl/entayl/input/IriTableIsPlainIriPinLaw", "query", "(I)Z"⟩ : MethodName)) hown (mvT hZ (hw _ (List.mem_of_getElem? (i := 21) rfl))) (mvT hZ (hw _ (List.mem_of_getElem? (i := 22) rfl))) (mvT hZ (hw _ (List.mem_of_getElem? (i := 19) rfl))) (mvT hZ (hw _ (List.mem_of_getElem? (i := 23) rfl))) (by decide) (backOf (W := 0) (rm_query l Z a0 hw [] cu h0 n0 Z0 hc) hZ (hw _ (List.mem_of_getElem? (i := 23) rfl)) (hw _ (List.mem_of_getElem? (i := 19) rfl)) (by decide) (by decide)) (g := (mkF m 39 #[iv (Int32.ofNat ku), iv (Int32.ofNat cu)] [(.int (Int32.ofNat cu))])) rfl (by rw [hml]; rfl) (argsL := [(.int (Int32.ofNat cu))]) (rest := []) (lenOf pd_0 rfl) rfl (by show 2 * 0 + _ ≤ _; exact Nat.le_of_eq rfl) (hb hby d_method_5_39) (fun _ _ => ⟨rfl, e0, (by decide : 0 + 0 ≤ _), (by decide : 0 + 0 ≤ _)⟩)
                dsimp only [Pt.U, Pt.locs, Pt.cells, Pt.slots] at X12 l12 y12 z12 st12 hQ12
                subst l12 y12 z12
                refine Go.pre st12 ?_
                rcases hQ12 with ⟨hp12, rfl, N12q, eh12⟩ | ⟨hp12, rfl, N12q, eh12⟩
                · skip
                  have N12 := Fr.app N0 N12q
                  show Go p e below _ (T12.setTop (mkF m 42 #[iv (Int32.ofNat ku), iv (Int32.ofNat cu)] [(.int (1 : Int32))]))
                  refine Go.pre (fun _ k => XS.ifYes X12.here hx rfl (pc0 := 42) (pc' := 51) rfl (hb hby d_method_5_42) rfl ((if0 _ _).trans (feq (by decide : ¬ ((1 : Int32) = (0 : Int32)))).2) (by decide) (by decide) k) ?_
                  show Go p e below _ (T12.setTop (mkF m 51 #[iv (Int32.ofNat ku), iv (Int32.ofNat cu)] []))
                  refine Go.pre (fun _ k => XS.iloadN X12.here hx rfl (hb hby d_method_5_51) rfl k) ?_
                  show Go p e below _ (T12.setTop (mkF m 52 #[iv (Int32.ofNat ku), iv (Int32.ofNat cu)] [(.int (Int32.ofNat cu))]))
                  refine Go.pre (fun _ k => XS.bipush X12.here hx rfl (hb hby d_method_5_52) k) ?_
                  show Go p e below _ (T12.setTop (mkF m 54 #[iv (Int32.ofNat ku), iv (Int32.ofNat cu)] [(.int (47 : Int32)), (.int (Int32.ofNat cu))]))
                  by_cases hc54_13 : cu = 47
                  · skip
                    refine Go.pre (fun _ k => XS.icmpYes X12.here hx rfl (pc0 := 54) (pc' := 61) rfl (hb hby d_method_5_54) rfl (teq ((own_oe (a := cu) (b := 47) (by omega) (by omega)).mpr hc54_13)).1 (by decide) (by decide) k) ?_
                    show Go p e below _ (T12.setTop (mkF m 61 #[iv (Int32.ofNat ku), iv (Int32.ofNat cu)] []))
                    refine Go.pre (fun _ k => XS.iconst X12.here hx rfl (hb hby d_method_5_61) k) ?_
                    show Go p e below _ (T12.setTop (mkF m 62 #[iv (Int32.ofNat ku), iv (Int32.ofNat cu)] [(.int (0 : Int32))]))
                    obtain ⟨fs, hr, hrun, hended, hW, hsame⟩ := X12.leave (v := some (.int (0 : Int32))) (fun h => by rw [Bd.returns] at h; cases h)
                    refine Go.fin (retN X12 hx (t := .boolean) Bd.returns (by simp) (hb hby d_method_5_62) hr) ⟨hrun, hended, _, _, rfl, ?_, ⟨_, rfl⟩, hW, hsame.mono (by decide) (by decide)⟩
                    show Q_eC Z ku cu h0 n0 _ T12.heap _
                    rw [eh12]
                    exact Or.inr ⟨by first | (simp [own_eC, hc1_1, hc6_2, hc11_3, hc17_4, hc23_5, hc30_6, hc35_11, hp12, hc54_13]; done) | (simp [own_eC, hc1_1, hc6_2, hc11_3, hc17_4, hc23_5, hc30_6, hc35_11, hp12, hc54_13]; omega), rfl, N12, rfl⟩
                  · skip
                    refine Go.pre (fun _ k => XS.icmpNo X12.here hx rfl (hb hby d_method_5_54) rfl (feq (fun q => hc54_13 ((own_oe (a := cu) (b := 47) (by omega) (by omega)).mp q))).1 k) ?_
                    show Go p e below _ (T12.setTop (mkF m 57 #[iv (Int32.ofNat ku), iv (Int32.ofNat cu)] []))
                    refine Go.pre (fun _ k => XS.iconst X12.here hx rfl (hb hby d_method_5_57) k) ?_
                    show Go p e below _ (T12.setTop (mkF m 58 #[iv (Int32.ofNat ku), iv (Int32.ofNat cu)] [(.int (1 : Int32))]))
                    refine Go.pre (fun _ k => XS.goto X12.here hx rfl (pc0 := 58) (pc' := 62) rfl (hb hby d_method_5_58) (by decide) (by decide) k) ?_
                    show Go p e below _ (T12.setTop (mkF m 62 #[iv (Int32.ofNat ku), iv (Int32.ofNat cu)] [(.int (1 : Int32))]))
                    obtain ⟨fs, hr, hrun, hended, hW, hsame⟩ := X12.leave (v := some (.int (1 : Int32))) (fun h => by rw [Bd.returns] at h; cases h)
                    refine Go.fin (retN X12 hx (t := .boolean) Bd.returns (by simp) (hb hby d_method_5_62) hr) ⟨hrun, hended, _, _, rfl, ?_, ⟨_, rfl⟩, hW, hsame.mono (by decide) (by decide)⟩
                    show Q_eC Z ku cu h0 n0 _ T12.heap _
                    rw [eh12]
                    exact Or.inl ⟨by first | (simp [own_eC, hc1_1, hc6_2, hc11_3, hc17_4, hc23_5, hc30_6, hc35_11, hp12, hc54_13]; done) | (simp [own_eC, hc1_1, hc6_2, hc11_3, hc17_4, hc23_5, hc30_6, hc35_11, hp12, hc54_13]; omega), rfl, N12, rfl⟩
                · skip
                  have N12 := Fr.app N0 N12q
                  show Go p e below _ (T12.setTop (mkF m 42 #[iv (Int32.ofNat ku), iv (Int32.ofNat cu)] [(.int (0 : Int32))]))
                  refine Go.pre (fun _ k => XS.ifNo X12.here hx rfl (hb hby d_method_5_42) rfl ((if0 _ _).trans (teq (by decide : (0 : Int32) = (0 : Int32))).2) k) ?_
                  show Go p e below _ (T12.setTop (mkF m 45 #[iv (Int32.ofNat ku), iv (Int32.ofNat cu)] []))
                  refine Go.pre (fun _ k => XS.iloadN X12.here hx rfl (hb hby d_method_5_45) rfl k) ?_
                  show Go p e below _ (T12.setTop (mkF m 46 #[iv (Int32.ofNat ku), iv (Int32.ofNat cu)] [(.int (Int32.ofNat cu))]))
                  refine Go.pre (fun _ k => XS.bipush X12.here hx rfl (hb hby d_method_5_46) k) ?_
                  show Go p e below _ (T12.setTop (mkF m 48 #[iv (Int32.ofNat ku), iv (Int32.ofNat cu)] [(.int (35 : Int32)), (.int (Int32.ofNat cu))]))
                  by_cases hc48_14 : cu = 35
                  · skip
                    refine Go.pre (fun _ k => XS.icmpNo X12.here hx rfl (hb hby d_method_5_48) rfl (teq ((own_oe (a := cu) (b := 35) (by omega) (by omega)).mpr hc48_14)).2 k) ?_
                    show Go p e below _ (T12.setTop (mkF m 51 #[iv (Int32.ofNat ku), iv (Int32.ofNat cu)] []))
                    refine Go.pre (fun _ k => XS.iloadN X12.here hx rfl (hb hby d_method_5_51) rfl k) ?_
                    show Go p e below _ (T12.setTop (mkF m 52 #[iv (Int32.ofNat ku), iv (Int32.ofNat cu)] [(.int (Int32.ofNat cu))]))
                    refine Go.pre (fun _ k => XS.bipush X12.here hx rfl (hb hby d_method_5_52) k) ?_
                    show Go p e below _ (T12.setTop (mkF m 54 #[iv (Int32.ofNat ku), iv (Int32.ofNat cu)] [(.int (47 : Int32)), (.int (Int32.ofNat cu))]))
                    by_cases hc54_15 : cu = 47
                    · skip
                      refine Go.pre (fun _ k => XS.icmpYes X12.here hx rfl (pc0 := 54) (pc' := 61) rfl (hb hby d_method_5_54) rfl (teq ((own_oe (a := cu) (b := 47) (by omega) (by omega)).mpr hc54_15)).1 (by decide) (by decide) k) ?_
                      show Go p e below _ (T12.setTop (mkF m 61 #[iv (Int32.ofNat ku), iv (Int32.ofNat cu)] []))
                      refine Go.pre (fun _ k => XS.iconst X12.here hx rfl (hb hby d_method_5_61) k) ?_
                      show Go p e below _ (T12.setTop (mkF m 62 #[iv (Int32.ofNat ku), iv (Int32.ofNat cu)] [(.int (0 : Int32))]))
                      obtain ⟨fs, hr, hrun, hended, hW, hsame⟩ := X12.leave (v := some (.int (0 : Int32))) (fun h => by rw [Bd.returns] at h; cases h)
                      refine Go.fin (retN X12 hx (t := .boolean) Bd.returns (by simp) (hb hby d_method_5_62) hr) ⟨hrun, hended, _, _, rfl, ?_, ⟨_, rfl⟩, hW, hsame.mono (by decide) (by decide)⟩
                      show Q_eC Z ku cu h0 n0 _ T12.heap _
                      rw [eh12]
                      exact Or.inr ⟨by first | (simp [own_eC, hc1_1, hc6_2, hc11_3, hc17_4, hc23_5, hc30_6, hc35_11, hp12, hc48_14, hc54_15]; done) | (simp [own_eC, hc1_1, hc6_2, hc11_3, hc17_4, hc23_5, hc30_6, hc35_11, hp12, hc48_14, hc54_15]; omega), rfl, N12, rfl⟩
                    · skip
                      refine Go.pre (fun _ k => XS.icmpNo X12.here hx rfl (hb hby d_method_5_54) rfl (feq (fun q => hc54_15 ((own_oe (a := cu) (b := 47) (by omega) (by omega)).mp q))).1 k) ?_
                      show Go p e below _ (T12.setTop (mkF m 57 #[iv (Int32.ofNat ku), iv (Int32.ofNat cu)] []))
                      refine Go.pre (fun _ k => XS.iconst X12.here hx rfl (hb hby d_method_5_57) k) ?_
                      show Go p e below _ (T12.setTop (mkF m 58 #[iv (Int32.ofNat ku), iv (Int32.ofNat cu)] [(.int (1 : Int32))]))
                      refine Go.pre (fun _ k => XS.goto X12.here hx rfl (pc0 := 58) (pc' := 62) rfl (hb hby d_method_5_58) (by decide) (by decide) k) ?_
                      show Go p e below _ (T12.setTop (mkF m 62 #[iv (Int32.ofNat ku), iv (Int32.ofNat cu)] [(.int (1 : Int32))]))
                      obtain ⟨fs, hr, hrun, hended, hW, hsame⟩ := X12.leave (v := some (.int (1 : Int32))) (fun h => by rw [Bd.returns] at h; cases h)
                      refine Go.fin (retN X12 hx (t := .boolean) Bd.returns (by simp) (hb hby d_method_5_62) hr) ⟨hrun, hended, _, _, rfl, ?_, ⟨_, rfl⟩, hW, hsame.mono (by decide) (by decide)⟩
                      show Q_eC Z ku cu h0 n0 _ T12.heap _
                      rw [eh12]
                      exact Or.inl ⟨by first | (simp [own_eC, hc1_1, hc6_2, hc11_3, hc17_4, hc23_5, hc30_6, hc35_11, hp12, hc48_14, hc54_15]; done) | (simp [own_eC, hc1_1, hc6_2, hc11_3, hc17_4, hc23_5, hc30_6, hc35_11, hp12, hc48_14, hc54_15]; omega), rfl, N12, rfl⟩
                  · skip
                    refine Go.pre (fun _ k => XS.icmpYes X12.here hx rfl (pc0 := 48) (pc' := 61) rfl (hb hby d_method_5_48) rfl (feq (fun q => hc48_14 ((own_oe (a := cu) (b := 35) (by omega) (by omega)).mp q))).2 (by decide) (by decide) k) ?_
                    show Go p e below _ (T12.setTop (mkF m 61 #[iv (Int32.ofNat ku), iv (Int32.ofNat cu)] []))
                    refine Go.pre (fun _ k => XS.iconst X12.here hx rfl (hb hby d_method_5_61) k) ?_
                    show Go p e below _ (T12.setTop (mkF m 62 #[iv (Int32.ofNat ku), iv (Int32.ofNat cu)] [(.int (0 : Int32))]))
                    obtain ⟨fs, hr, hrun, hended, hW, hsame⟩ := X12.leave (v := some (.int (0 : Int32))) (fun h => by rw [Bd.returns] at h; cases h)
                    refine Go.fin (retN X12 hx (t := .boolean) Bd.returns (by simp) (hb hby d_method_5_62) hr) ⟨hrun, hended, _, _, rfl, ?_, ⟨_, rfl⟩, hW, hsame.mono (by decide) (by decide)⟩
                    show Q_eC Z ku cu h0 n0 _ T12.heap _
                    rw [eh12]
                    exact Or.inr ⟨by first | (simp [own_eC, hc1_1, hc6_2, hc11_3, hc17_4, hc23_5, hc30_6, hc35_11, hp12, hc48_14]; done) | (simp [own_eC, hc1_1, hc6_2, hc11_3, hc17_4, hc23_5, hc30_6, hc35_11, hp12, hc48_14]; omega), rfl, N12, rfl⟩
              · skip
                refine Go.pre (fun _ k => XS.icmpYes X0.here hx rfl (pc0 := 35) (pc' := 63) rfl (hb hby d_method_5_35) rfl (feq (fun q => hc35_11 ((own_oe (a := ku) (b := 3) (by omega) (by omega)).mp q))).2 (by decide) (by decide) k) ?_
                show Go p e below _ (s₁.setTop (mkF m 63 #[iv (Int32.ofNat ku), iv (Int32.ofNat cu)] []))
                refine Go.pre (fun _ k => XS.iloadN X0.here hx rfl (hb hby d_method_5_63) rfl k) ?_
                show Go p e below _ (s₁.setTop (mkF m 64 #[iv (Int32.ofNat ku), iv (Int32.ofNat cu)] [(.int (Int32.ofNat ku))]))
                refine Go.pre (fun _ k => XS.bipush X0.here hx rfl (hb hby d_method_5_64) k) ?_
                show Go p e below _ (s₁.setTop (mkF m 66 #[iv (Int32.ofNat ku), iv (Int32.ofNat cu)] [(.int (8 : Int32)), (.int (Int32.ofNat ku))]))
                by_cases hc66_16 : ku = 8
                · skip
                  refine Go.pre (fun _ k => XS.icmpNo X0.here hx rfl (hb hby d_method_5_66) rfl (teq ((own_oe (a := ku) (b := 8) (by omega) (by omega)).mpr hc66_16)).2 k) ?_
                  show Go p e below _ (s₁.setTop (mkF m 69 #[iv (Int32.ofNat ku), iv (Int32.ofNat cu)] []))
                  refine Go.pre (fun _ k => XS.iloadN X0.here hx rfl (hb hby d_method_5_69) rfl k) ?_
                  show Go p e below _ (s₁.setTop (mkF m 70 #[iv (Int32.ofNat ku), iv (Int32.ofNat cu)] [(.int (Int32.ofNat cu))]))
                  obtain ⟨_, _, ⟨T17, L17, k17, n17⟩, -, X17, ⟨Lc17, hQ17, l17, y17, z17⟩, st17⟩ := Jvm.LawKit.callS X0 hx (y := (⟨"com/example/entayl/entayl/input/IriTableIsPlainIriPinLaw", "host", "(I)Z"⟩ : MethodName)) hown (mvT hZ (hw _ (List.mem_of_getElem? (i := 27) rfl))) (mvT hZ (hw _ (List.mem_of_getElem? (i := 28) rfl))) (mvT hZ (hw _ (List.mem_of_getElem? (i := 19) rfl))) (mvT hZ (hw _ (List.mem_of_getElem? (i := 29) rfl))) (by decide) (backOf (W := 0) (rm_host l Z a0 hw [] cu h0 n0 Z0 hc) hZ (hw _ (List.mem_of_getElem? (i := 29) rfl)) (hw _ (List.mem_of_getElem? (i := 19) rfl)) (by decide) (by decide)) (g := (mkF m 70 #[iv (Int32.ofNat ku), iv (Int32.ofNat cu)] [(.int (Int32.ofNat cu))])) rfl (by rw [hml]; rfl) (argsL := [(.int (Int32.ofNat cu))]) (rest := []) (lenOf pd_0 rfl) rfl (by show 2 * 0 + _ ≤ _; exact Nat.le_of_eq rfl) (hb hby d_method_5_70) (fun _ _ => ⟨rfl, e0, (by decide : 0 + 0 ≤ _), (by decide : 0 + 0 ≤ _)⟩)
                  dsimp only [Pt.U, Pt.locs, Pt.cells, Pt.slots] at X17 l17 y17 z17 st17 hQ17
                  subst l17 y17 z17
                  refine Go.pre st17 ?_
                  rcases hQ17 with ⟨hp17, rfl, N17q, eh17⟩ | ⟨hp17, rfl, N17q, eh17⟩
                  · skip
                    have N17 := Fr.app N0 N17q
                    show Go p e below _ (T17.setTop (mkF m 73 #[iv (Int32.ofNat ku), iv (Int32.ofNat cu)] [(.int (1 : Int32))]))
                    refine Go.pre (fun _ k => XS.ifYes X17.here hx rfl (pc0 := 73) (pc' := 100) rfl (hb hby d_method_5_73) rfl ((if0 _ _).trans (feq (by decide : ¬ ((1 : Int32) = (0 : Int32)))).2) (by decide) (by decide) k) ?_
                    show Go p e below _ (T17.setTop (mkF m 100 #[iv (Int32.ofNat ku), iv (Int32.ofNat cu)] []))
                    refine Go.pre (fun _ k => XS.iconst X17.here hx rfl (hb hby d_method_5_100) k) ?_
                    show Go p e below _ (T17.setTop (mkF m 101 #[iv (Int32.ofNat ku), iv (Int32.ofNat cu)] [(.int (1 : Int32))]))
                    refine Go.pre (fun _ k => XS.goto X17.here hx rfl (pc0 := 101) (pc' := 105) rfl (hb hby d_method_5_101) (by decide) (by decide) k) ?_
                    show Go p e below _ (T17.setTop (mkF m 105 #[iv (Int32.ofNat ku), iv (Int32.ofNat cu)] [(.int (1 : Int32))]))
                    obtain ⟨fs, hr, hrun, hended, hW, hsame⟩ := X17.leave (v := some (.int (1 : Int32))) (fun h => by rw [Bd.returns] at h; cases h)
                    refine Go.fin (retN X17 hx (t := .boolean) Bd.returns (by simp) (hb hby d_method_5_105) hr) ⟨hrun, hended, _, _, rfl, ?_, ⟨_, rfl⟩, hW, hsame.mono (by decide) (by decide)⟩
                    show Q_eC Z ku cu h0 n0 _ T17.heap _
                    rw [eh17]
                    exact Or.inl ⟨by first | (simp [own_eC, hc1_1, hc6_2, hc11_3, hc17_4, hc23_5, hc30_6, hc35_11, hc66_16, hp17]; done) | (simp [own_eC, hc1_1, hc6_2, hc11_3, hc17_4, hc23_5, hc30_6, hc35_11, hc66_16, hp17]; omega), rfl, N17, rfl⟩
                  · skip
                    have N17 := Fr.app N0 N17q
                    show Go p e below _ (T17.setTop (mkF m 73 #[iv (Int32.ofNat ku), iv (Int32.ofNat cu)] [(.int (0 : Int32))]))
                    refine Go.pre (fun _ k => XS.ifNo X17.here hx rfl (hb hby d_method_5_73) rfl ((if0 _ _).trans (teq (by decide : (0 : Int32) = (0 : Int32))).2) k) ?_
                    show Go p e below _ (T17.setTop (mkF m 76 #[iv (Int32.ofNat ku), iv (Int32.ofNat cu)] []))
                    refine Go.pre (fun _ k => XS.iloadN X17.here hx rfl (hb hby d_method_5_76) rfl k) ?_
                    show Go p e below _ (T17.setTop (mkF m 77 #[iv (Int32.ofNat ku), iv (Int32.ofNat cu)] [(.int (Int32.ofNat cu))]))
                    refine Go.pre (fun _ k => XS.bipush X17.here hx rfl (hb hby d_method_5_77) k) ?_
                    show Go p e below _ (T17.setTop (mkF m 79 #[iv (Int32.ofNat ku), iv (Int32.ofNat cu)] [(.int (37 : Int32)), (.int (Int32.ofNat cu))]))
                    by_cases hc79_18 : cu = 37
                    · skip
                      refine Go.pre (fun _ k => XS.icmpYes X17.here hx rfl (pc0 := 79) (pc' := 100) rfl (hb hby d_method_5_79) rfl (teq ((own_oe (a := cu) (b := 37) (by omega) (by omega)).mpr hc79_18)).1 (by decide) (by decide) k) ?_
                      show Go p e below _ (T17.setTop (mkF m 100 #[iv (Int32.ofNat ku), iv (Int32.ofNat cu)] []))
                      refine Go.pre (fun _ k => XS.iconst X17.here hx rfl (hb hby d_method_5_100) k) ?_
                      show Go p e below _ (T17.setTop (mkF m 101 #[iv (Int32.ofNat ku), iv (Int32.ofNat cu)] [(.int (1 : Int32))]))
                      refine Go.pre (fun _ k => XS.goto X17.here hx rfl (pc0 := 101) (pc' := 105) rfl (hb hby d_method_5_101) (by decide) (by decide) k) ?_
                      show Go p e below _ (T17.setTop (mkF m 105 #[iv (Int32.ofNat ku), iv (Int32.ofNat cu)] [(.int (1 : Int32))]))
                      obtain ⟨fs, hr, hrun, hended, hW, hsame⟩ := X17.leave (v := some (.int (1 : Int32))) (fun h => by rw [Bd.returns] at h; cases h)
                      refine Go.fin (retN X17 hx (t := .boolean) Bd.returns (by simp) (hb hby d_method_5_105) hr) ⟨hrun, hended, _, _, rfl, ?_, ⟨_, rfl⟩, hW, hsame.mono (by decide) (by decide)⟩
                      show Q_eC Z ku cu h0 n0 _ T17.heap _
                      rw [eh17]
                      exact Or.inl ⟨by first | (simp [own_eC, hc1_1, hc6_2, hc11_3, hc17_4, hc23_5, hc30_6, hc35_11, hc66_16, hp17, hc79_18]; done) | (simp [own_eC, hc1_1, hc6_2, hc11_3, hc17_4, hc23_5, hc30_6, hc35_11, hc66_16, hp17, hc79_18]; omega), rfl, N17, rfl⟩
                    · skip
                      refine Go.pre (fun _ k => XS.icmpNo X17.here hx rfl (hb hby d_method_5_79) rfl (feq (fun q => hc79_18 ((own_oe (a := cu) (b := 37) (by omega) (by omega)).mp q))).1 k) ?_
                      show Go p e below _ (T17.setTop (mkF m 82 #[iv (Int32.ofNat ku), iv (Int32.ofNat cu)] []))
                      refine Go.pre (fun _ k => XS.iloadN X17.here hx rfl (hb hby d_method_5_82) rfl k) ?_
                      show Go p e below _ (T17.setTop (mkF m 83 #[iv (Int32.ofNat ku), iv (Int32.ofNat cu)] [(.int (Int32.ofNat cu))]))
                      refine Go.pre (fun _ k => XS.bipush X17.here hx rfl (hb hby d_method_5_83) k) ?_
                      show Go p e below _ (T17.setTop (mkF m 85 #[iv (Int32.ofNat ku), iv (Int32.ofNat cu)] [(.int (47 : Int32)), (.int (Int32.ofNat cu))]))
                      by_cases hc85_19 : cu = 47
                      · skip
                        refine Go.pre (fun _ k => XS.icmpYes X17.here hx rfl (pc0 := 85) (pc' := 100) rfl (hb hby d_method_5_85) rfl (teq ((own_oe (a := cu) (b := 47) (by omega) (by omega)).mpr hc85_19)).1 (by decide) (by decide) k) ?_
                        show Go p e below _ (T17.setTop (mkF m 100 #[iv (Int32.ofNat ku), iv (Int32.ofNat cu)] []))
                        refine Go.pre (fun _ k => XS.iconst X17.here hx rfl (hb hby d_method_5_100) k) ?_
                        show Go p e below _ (T17.setTop (mkF m 101 #[iv (Int32.ofNat ku), iv (Int32.ofNat cu)] [(.int (1 : Int32))]))
                        refine Go.pre (fun _ k => XS.goto X17.here hx rfl (pc0 := 101) (pc' := 105) rfl (hb hby d_method_5_101) (by decide) (by decide) k) ?_
                        show Go p e below _ (T17.setTop (mkF m 105 #[iv (Int32.ofNat ku), iv (Int32.ofNat cu)] [(.int (1 : Int32))]))
                        obtain ⟨fs, hr, hrun, hended, hW, hsame⟩ := X17.leave (v := some (.int (1 : Int32))) (fun h => by rw [Bd.returns] at h; cases h)
                        refine Go.fin (retN X17 hx (t := .boolean) Bd.returns (by simp) (hb hby d_method_5_105) hr) ⟨hrun, hended, _, _, rfl, ?_, ⟨_, rfl⟩, hW, hsame.mono (by decide) (by decide)⟩
                        show Q_eC Z ku cu h0 n0 _ T17.heap _
                        rw [eh17]
                        exact Or.inl ⟨by first | (simp [own_eC, hc1_1, hc6_2, hc11_3, hc17_4, hc23_5, hc30_6, hc35_11, hc66_16, hp17, hc79_18, hc85_19]; done) | (simp [own_eC, hc1_1, hc6_2, hc11_3, hc17_4, hc23_5, hc30_6, hc35_11, hc66_16, hp17, hc79_18, hc85_19]; omega), rfl, N17, rfl⟩
                      · skip
                        refine Go.pre (fun _ k => XS.icmpNo X17.here hx rfl (hb hby d_method_5_85) rfl (feq (fun q => hc85_19 ((own_oe (a := cu) (b := 47) (by omega) (by omega)).mp q))).1 k) ?_
                        show Go p e below _ (T17.setTop (mkF m 88 #[iv (Int32.ofNat ku), iv (Int32.ofNat cu)] []))
                        refine Go.pre (fun _ k => XS.iloadN X17.here hx rfl (hb hby d_method_5_88) rfl k) ?_
                        show Go p e below _ (T17.setTop (mkF m 89 #[iv (Int32.ofNat ku), iv (Int32.ofNat cu)] [(.int (Int32.ofNat cu))]))
                        refine Go.pre (fun _ k => XS.bipush X17.here hx rfl (hb hby d_method_5_89) k) ?_
                        show Go p e below _ (T17.setTop (mkF m 91 #[iv (Int32.ofNat ku), iv (Int32.ofNat cu)] [(.int (63 : Int32)), (.int (Int32.ofNat cu))]))
                        by_cases hc91_20 : cu = 63
                        · skip
                          refine Go.pre (fun _ k => XS.icmpYes X17.here hx rfl (pc0 := 91) (pc' := 100) rfl (hb hby d_method_5_91) rfl (teq ((own_oe (a := cu) (b := 63) (by omega) (by omega)).mpr hc91_20)).1 (by decide) (by decide) k) ?_
                          show Go p e below _ (T17.setTop (mkF m 100 #[iv (Int32.ofNat ku), iv (Int32.ofNat cu)] []))
                          refine Go.pre (fun _ k => XS.iconst X17.here hx rfl (hb hby d_method_5_100) k) ?_
                          show Go p e below _ (T17.setTop (mkF m 101 #[iv (Int32.ofNat ku), iv (Int32.ofNat cu)] [(.int (1 : Int32))]))
                          refine Go.pre (fun _ k => XS.goto X17.here hx rfl (pc0 := 101) (pc' := 105) rfl (hb hby d_method_5_101) (by decide) (by decide) k) ?_
                          show Go p e below _ (T17.setTop (mkF m 105 #[iv (Int32.ofNat ku), iv (Int32.ofNat cu)] [(.int (1 : Int32))]))
                          obtain ⟨fs, hr, hrun, hended, hW, hsame⟩ := X17.leave (v := some (.int (1 : Int32))) (fun h => by rw [Bd.returns] at h; cases h)
                          refine Go.fin (retN X17 hx (t := .boolean) Bd.returns (by simp) (hb hby d_method_5_105) hr) ⟨hrun, hended, _, _, rfl, ?_, ⟨_, rfl⟩, hW, hsame.mono (by decide) (by decide)⟩
                          show Q_eC Z ku cu h0 n0 _ T17.heap _
                          rw [eh17]
                          exact Or.inl ⟨by first | (simp [own_eC, hc1_1, hc6_2, hc11_3, hc17_4, hc23_5, hc30_6, hc35_11, hc66_16, hp17, hc79_18, hc85_19, hc91_20]; done) | (simp [own_eC, hc1_1, hc6_2, hc11_3, hc17_4, hc23_5, hc30_6, hc35_11, hc66_16, hp17, hc79_18, hc85_19, hc91_20]; omega), rfl, N17, rfl⟩
                        · skip
                          refine Go.pre (fun _ k => XS.icmpNo X17.here hx rfl (hb hby d_method_5_91) rfl (feq (fun q => hc91_20 ((own_oe (a := cu) (b := 63) (by omega) (by omega)).mp q))).1 k) ?_
                          show Go p e below _ (T17.setTop (mkF m 94 #[iv (Int32.ofNat ku), iv (Int32.ofNat cu)] []))
                          refine Go.pre (fun _ k => XS.iloadN X17.here hx rfl (hb hby d_method_5_94) rfl k) ?_
                          show Go p e below _ (T17.setTop (mkF m 95 #[iv (Int32.ofNat ku), iv (Int32.ofNat cu)] [(.int (Int32.ofNat cu))]))
                          refine Go.pre (fun _ k => XS.bipush X17.here hx rfl (hb hby d_method_5_95) k) ?_
                          show Go p e below _ (T17.setTop (mkF m 97 #[iv (Int32.ofNat ku), iv (Int32.ofNat cu)] [(.int (35 : Int32)), (.int (Int32.ofNat cu))]))
                          by_cases hc97_21 : cu = 35
                          · skip
                            refine Go.pre (fun _ k => XS.icmpNo X17.here hx rfl (hb hby d_method_5_97) rfl (teq ((own_oe (a := cu) (b := 35) (by omega) (by omega)).mpr hc97_21)).2 k) ?_
                            show Go p e below _ (T17.setTop (mkF m 100 #[iv (Int32.ofNat ku), iv (Int32.ofNat cu)] []))
                            refine Go.pre (fun _ k => XS.iconst X17.here hx rfl (hb hby d_method_5_100) k) ?_
                            show Go p e below _ (T17.setTop (mkF m 101 #[iv (Int32.ofNat ku), iv (Int32.ofNat cu)] [(.int (1 : Int32))]))
                            refine Go.pre (fun _ k => XS.goto X17.here hx rfl (pc0 := 101) (pc' := 105) rfl (hb hby d_method_5_101) (by decide) (by decide) k) ?_
                            show Go p e below _ (T17.setTop (mkF m 105 #[iv (Int32.ofNat ku), iv (Int32.ofNat cu)] [(.int (1 : Int32))]))
                            obtain ⟨fs, hr, hrun, hended, hW, hsame⟩ := X17.leave (v := some (.int (1 : Int32))) (fun h => by rw [Bd.returns] at h; cases h)
                            refine Go.fin (retN X17 hx (t := .boolean) Bd.returns (by simp) (hb hby d_method_5_105) hr) ⟨hrun, hended, _, _, rfl, ?_, ⟨_, rfl⟩, hW, hsame.mono (by decide) (by decide)⟩
                            show Q_eC Z ku cu h0 n0 _ T17.heap _
                            rw [eh17]
                            exact Or.inl ⟨by first | (simp [own_eC, hc1_1, hc6_2, hc11_3, hc17_4, hc23_5, hc30_6, hc35_11, hc66_16, hp17, hc79_18, hc85_19, hc91_20, hc97_21]; done) | (simp [own_eC, hc1_1, hc6_2, hc11_3, hc17_4, hc23_5, hc30_6, hc35_11, hc66_16, hp17, hc79_18, hc85_19, hc91_20, hc97_21]; omega), rfl, N17, rfl⟩
                          · skip
                            refine Go.pre (fun _ k => XS.icmpYes X17.here hx rfl (pc0 := 97) (pc' := 104) rfl (hb hby d_method_5_97) rfl (feq (fun q => hc97_21 ((own_oe (a := cu) (b := 35) (by omega) (by omega)).mp q))).2 (by decide) (by decide) k) ?_
                            show Go p e below _ (T17.setTop (mkF m 104 #[iv (Int32.ofNat ku), iv (Int32.ofNat cu)] []))
                            refine Go.pre (fun _ k => XS.iconst X17.here hx rfl (hb hby d_method_5_104) k) ?_
                            show Go p e below _ (T17.setTop (mkF m 105 #[iv (Int32.ofNat ku), iv (Int32.ofNat cu)] [(.int (0 : Int32))]))
                            obtain ⟨fs, hr, hrun, hended, hW, hsame⟩ := X17.leave (v := some (.int (0 : Int32))) (fun h => by rw [Bd.returns] at h; cases h)
                            refine Go.fin (retN X17 hx (t := .boolean) Bd.returns (by simp) (hb hby d_method_5_105) hr) ⟨hrun, hended, _, _, rfl, ?_, ⟨_, rfl⟩, hW, hsame.mono (by decide) (by decide)⟩
                            show Q_eC Z ku cu h0 n0 _ T17.heap _
                            rw [eh17]
                            exact Or.inr ⟨by first | (simp [own_eC, hc1_1, hc6_2, hc11_3, hc17_4, hc23_5, hc30_6, hc35_11, hc66_16, hp17, hc79_18, hc85_19, hc91_20, hc97_21]; done) | (simp [own_eC, hc1_1, hc6_2, hc11_3, hc17_4, hc23_5, hc30_6, hc35_11, hc66_16, hp17, hc79_18, hc85_19, hc91_20, hc97_21]; omega), rfl, N17, rfl⟩
                · skip
                  refine Go.pre (fun _ k => XS.icmpYes X0.here hx rfl (pc0 := 66) (pc' := 106) rfl (hb hby d_method_5_66) rfl (feq (fun q => hc66_16 ((own_oe (a := ku) (b := 8) (by omega) (by omega)).mp q))).2 (by decide) (by decide) k) ?_
                  show Go p e below _ (s₁.setTop (mkF m 106 #[iv (Int32.ofNat ku), iv (Int32.ofNat cu)] []))
                  refine Go.pre (fun _ k => XS.iloadN X0.here hx rfl (hb hby d_method_5_106) rfl k) ?_
                  show Go p e below _ (s₁.setTop (mkF m 107 #[iv (Int32.ofNat ku), iv (Int32.ofNat cu)] [(.int (Int32.ofNat cu))]))
                  refine Go.pre (fun _ k => XS.bipush X0.here hx rfl (hb hby d_method_5_107) k) ?_
                  show Go p e below _ (s₁.setTop (mkF m 109 #[iv (Int32.ofNat ku), iv (Int32.ofNat cu)] [(.int (47 : Int32)), (.int (Int32.ofNat cu))]))
                  by_cases hc109_22 : cu = 47
                  · skip
                    refine Go.pre (fun _ k => XS.icmpYes X0.here hx rfl (pc0 := 109) (pc' := 124) rfl (hb hby d_method_5_109) rfl (teq ((own_oe (a := cu) (b := 47) (by omega) (by omega)).mpr hc109_22)).1 (by decide) (by decide) k) ?_
                    show Go p e below _ (s₁.setTop (mkF m 124 #[iv (Int32.ofNat ku), iv (Int32.ofNat cu)] []))
                    refine Go.pre (fun _ k => XS.iconst X0.here hx rfl (hb hby d_method_5_124) k) ?_
                    show Go p e below _ (s₁.setTop (mkF m 125 #[iv (Int32.ofNat ku), iv (Int32.ofNat cu)] [(.int (1 : Int32))]))
                    refine Go.pre (fun _ k => XS.goto X0.here hx rfl (pc0 := 125) (pc' := 129) rfl (hb hby d_method_5_125) (by decide) (by decide) k) ?_
                    show Go p e below _ (s₁.setTop (mkF m 129 #[iv (Int32.ofNat ku), iv (Int32.ofNat cu)] [(.int (1 : Int32))]))
                    obtain ⟨fs, hr, hrun, hended, hW, hsame⟩ := X0.leave (v := some (.int (1 : Int32))) (fun h => by rw [Bd.returns] at h; cases h)
                    refine Go.fin (retN X0 hx (t := .boolean) Bd.returns (by simp) (hb hby d_method_5_129) hr) ⟨hrun, hended, _, _, rfl, ?_, ⟨_, rfl⟩, hW, hsame.mono (by decide) (by decide)⟩
                    show Q_eC Z ku cu h0 n0 _ s₁.heap _
                    rw [e0]
                    exact Or.inl ⟨by first | (simp [own_eC, hc1_1, hc6_2, hc11_3, hc17_4, hc23_5, hc30_6, hc35_11, hc66_16, hc109_22]; done) | (simp [own_eC, hc1_1, hc6_2, hc11_3, hc17_4, hc23_5, hc30_6, hc35_11, hc66_16, hc109_22]; omega), rfl, N0, rfl⟩
                  · skip
                    refine Go.pre (fun _ k => XS.icmpNo X0.here hx rfl (hb hby d_method_5_109) rfl (feq (fun q => hc109_22 ((own_oe (a := cu) (b := 47) (by omega) (by omega)).mp q))).1 k) ?_
                    show Go p e below _ (s₁.setTop (mkF m 112 #[iv (Int32.ofNat ku), iv (Int32.ofNat cu)] []))
                    refine Go.pre (fun _ k => XS.iloadN X0.here hx rfl (hb hby d_method_5_112) rfl k) ?_
                    show Go p e below _ (s₁.setTop (mkF m 113 #[iv (Int32.ofNat ku), iv (Int32.ofNat cu)] [(.int (Int32.ofNat cu))]))
                    refine Go.pre (fun _ k => XS.bipush X0.here hx rfl (hb hby d_method_5_113) k) ?_
                    show Go p e below _ (s₁.setTop (mkF m 115 #[iv (Int32.ofNat ku), iv (Int32.ofNat cu)] [(.int (63 : Int32)), (.int (Int32.ofNat cu))]))
                    by_cases hc115_23 : cu = 63
                    · skip
                      refine Go.pre (fun _ k => XS.icmpYes X0.here hx rfl (pc0 := 115) (pc' := 124) rfl (hb hby d_method_5_115) rfl (teq ((own_oe (a := cu) (b := 63) (by omega) (by omega)).mpr hc115_23)).1 (by decide) (by decide) k) ?_
                      show Go p e below _ (s₁.setTop (mkF m 124 #[iv (Int32.ofNat ku), iv (Int32.ofNat cu)] []))
                      refine Go.pre (fun _ k => XS.iconst X0.here hx rfl (hb hby d_method_5_124) k) ?_
                      show Go p e below _ (s₁.setTop (mkF m 125 #[iv (Int32.ofNat ku), iv (Int32.ofNat cu)] [(.int (1 : Int32))]))
                      refine Go.pre (fun _ k => XS.goto X0.here hx rfl (pc0 := 125) (pc' := 129) rfl (hb hby d_method_5_125) (by decide) (by decide) k) ?_
                      show Go p e below _ (s₁.setTop (mkF m 129 #[iv (Int32.ofNat ku), iv (Int32.ofNat cu)] [(.int (1 : Int32))]))
                      obtain ⟨fs, hr, hrun, hended, hW, hsame⟩ := X0.leave (v := some (.int (1 : Int32))) (fun h => by rw [Bd.returns] at h; cases h)
                      refine Go.fin (retN X0 hx (t := .boolean) Bd.returns (by simp) (hb hby d_method_5_129) hr) ⟨hrun, hended, _, _, rfl, ?_, ⟨_, rfl⟩, hW, hsame.mono (by decide) (by decide)⟩
                      show Q_eC Z ku cu h0 n0 _ s₁.heap _
                      rw [e0]
                      exact Or.inl ⟨by first | (simp [own_eC, hc1_1, hc6_2, hc11_3, hc17_4, hc23_5, hc30_6, hc35_11, hc66_16, hc109_22, hc115_23]; done) | (simp [own_eC, hc1_1, hc6_2, hc11_3, hc17_4, hc23_5, hc30_6, hc35_11, hc66_16, hc109_22, hc115_23]; omega), rfl, N0, rfl⟩
                    · skip
                      refine Go.pre (fun _ k => XS.icmpNo X0.here hx rfl (hb hby d_method_5_115) rfl (feq (fun q => hc115_23 ((own_oe (a := cu) (b := 63) (by omega) (by omega)).mp q))).1 k) ?_
                      show Go p e below _ (s₁.setTop (mkF m 118 #[iv (Int32.ofNat ku), iv (Int32.ofNat cu)] []))
                      refine Go.pre (fun _ k => XS.iloadN X0.here hx rfl (hb hby d_method_5_118) rfl k) ?_
                      show Go p e below _ (s₁.setTop (mkF m 119 #[iv (Int32.ofNat ku), iv (Int32.ofNat cu)] [(.int (Int32.ofNat cu))]))
                      refine Go.pre (fun _ k => XS.bipush X0.here hx rfl (hb hby d_method_5_119) k) ?_
                      show Go p e below _ (s₁.setTop (mkF m 121 #[iv (Int32.ofNat ku), iv (Int32.ofNat cu)] [(.int (35 : Int32)), (.int (Int32.ofNat cu))]))
                      by_cases hc121_24 : cu = 35
                      · skip
                        refine Go.pre (fun _ k => XS.icmpNo X0.here hx rfl (hb hby d_method_5_121) rfl (teq ((own_oe (a := cu) (b := 35) (by omega) (by omega)).mpr hc121_24)).2 k) ?_
                        show Go p e below _ (s₁.setTop (mkF m 124 #[iv (Int32.ofNat ku), iv (Int32.ofNat cu)] []))
                        refine Go.pre (fun _ k => XS.iconst X0.here hx rfl (hb hby d_method_5_124) k) ?_
                        show Go p e below _ (s₁.setTop (mkF m 125 #[iv (Int32.ofNat ku), iv (Int32.ofNat cu)] [(.int (1 : Int32))]))
                        refine Go.pre (fun _ k => XS.goto X0.here hx rfl (pc0 := 125) (pc' := 129) rfl (hb hby d_method_5_125) (by decide) (by decide) k) ?_
                        show Go p e below _ (s₁.setTop (mkF m 129 #[iv (Int32.ofNat ku), iv (Int32.ofNat cu)] [(.int (1 : Int32))]))
                        obtain ⟨fs, hr, hrun, hended, hW, hsame⟩ := X0.leave (v := some (.int (1 : Int32))) (fun h => by rw [Bd.returns] at h; cases h)
                        refine Go.fin (retN X0 hx (t := .boolean) Bd.returns (by simp) (hb hby d_method_5_129) hr) ⟨hrun, hended, _, _, rfl, ?_, ⟨_, rfl⟩, hW, hsame.mono (by decide) (by decide)⟩
                        show Q_eC Z ku cu h0 n0 _ s₁.heap _
                        rw [e0]
                        exact Or.inl ⟨by first | (simp [own_eC, hc1_1, hc6_2, hc11_3, hc17_4, hc23_5, hc30_6, hc35_11, hc66_16, hc109_22, hc115_23, hc121_24]; done) | (simp [own_eC, hc1_1, hc6_2, hc11_3, hc17_4, hc23_5, hc30_6, hc35_11, hc66_16, hc109_22, hc115_23, hc121_24]; omega), rfl, N0, rfl⟩
                      · skip
                        refine Go.pre (fun _ k => XS.icmpYes X0.here hx rfl (pc0 := 121) (pc' := 128) rfl (hb hby d_method_5_121) rfl (feq (fun q => hc121_24 ((own_oe (a := cu) (b := 35) (by omega) (by omega)).mp q))).2 (by decide) (by decide) k) ?_
                        show Go p e below _ (s₁.setTop (mkF m 128 #[iv (Int32.ofNat ku), iv (Int32.ofNat cu)] []))
                        refine Go.pre (fun _ k => XS.iconst X0.here hx rfl (hb hby d_method_5_128) k) ?_
                        show Go p e below _ (s₁.setTop (mkF m 129 #[iv (Int32.ofNat ku), iv (Int32.ofNat cu)] [(.int (0 : Int32))]))
                        obtain ⟨fs, hr, hrun, hended, hW, hsame⟩ := X0.leave (v := some (.int (0 : Int32))) (fun h => by rw [Bd.returns] at h; cases h)
                        refine Go.fin (retN X0 hx (t := .boolean) Bd.returns (by simp) (hb hby d_method_5_129) hr) ⟨hrun, hended, _, _, rfl, ?_, ⟨_, rfl⟩, hW, hsame.mono (by decide) (by decide)⟩
                        show Q_eC Z ku cu h0 n0 _ s₁.heap _
                        rw [e0]
                        exact Or.inr ⟨by first | (simp [own_eC, hc1_1, hc6_2, hc11_3, hc17_4, hc23_5, hc30_6, hc35_11, hc66_16, hc109_22, hc115_23, hc121_24]; done) | (simp [own_eC, hc1_1, hc6_2, hc11_3, hc17_4, hc23_5, hc30_6, hc35_11, hc66_16, hc109_22, hc115_23, hc121_24]; omega), rfl, N0, rfl⟩

theorem ef_isLetter (m : MethodId) (x0 : Int32) : entryFrame m #[(.int x0)] 1 = mkF m 0 #[iv x0] [] := by first | (simp [entryFrame, mkF, argsToLocals, Value.category]; done) | rfl
theorem pn_isLetter : plainName "com/example/entayl/entayl/input/IriTable" = true := by first | (simp [plainName, overriddenIn]; done) | decide +kernel
def Q_isLetter (Z : State) (u : Nat) (h0 : Heap) (n0 : Nat) (v : Option Value) (h : Heap) (L : List Loc) : Prop := (own_letter u = true ∧ v = some (.int 1) ∧ Fr n0 L ∧ h = h0) ∨ (¬ own_letter u = true ∧ v = some (.int 0) ∧ Fr n0 L ∧ h = h0)
set_option maxRecDepth 65536 in
set_option maxHeartbeats 40000000 in
theorem rm_isLetter (l : Launch) (Z : State) (a0 : Array Value) (hw : ∀ d ∈ tables_1, d.before a0 Z = true) (ws : List Jvm.Cond) (u : Nat) (h0 : Heap) (n0 : Nat) (Z0 : n0 ≤ h0.size) (hu : u < 256) :
    MetFree l (⟨"com/example/entayl/entayl/input/IriTable", "isLetter", "(B)Z"⟩ : MethodName) (head1 (Jvm.Cond.code (⟨"com/example/entayl/entayl/input/IriTable", "isLetter", "(B)Z"⟩ : MethodName) prog_16_method_20_code 1 (some .boolean) :: ws) ({ frames := 0, cells := 0, slots := 0, locals := 0 } : Room)) (fun as_ U => as_ = #[(.int (own_sb u))] ∧ Z.Warmed39 U.vm ∧ U.heap = h0) (fun _ _ _ _ _ => True) (fun _ U o U' => ∃ v L, o = .returned v ∧ Q_isLetter Z u h0 n0 v U'.heap L ∧ FrameEnd U o U' L ({ frames := 0, cells := 0, slots := 0, locals := 0 } : Room).cells ({ frames := 0, cells := 0, slots := 0, locals := 0 } : Room).slots) := by
  refine MetFree.of_bodySF (plainFor_of_name pn_isLetter) hisR ?_
  intro p e s m args below meth c s₁ Bd hml0 hP hK
  obtain ⟨rfl, hZ, hh⟩ := hP
  have hx := Bd.exec
  have hby := Bd.bytes
  have hml : c.maxLocals = 1 := hml0
  have hown : s.vm.findClass "com/example/entayl/entayl/input/IriTable" = some m.cls := findClass_of_methodNamed Bd.named
  have hnm := (name_of_methodNamed Bd.named Bd.method).1
  have X0 : Stand p l e ({ frames := 0, cells := 0, slots := 0, locals := 0 } : Room) s m #[(.int (own_sb u))] below meth c s₁ [] 0 0 := Stand.of_body Bd
  have e0 : s₁.heap = h0 := by rw [← hh, Bd.state]; rfl
  have N0 := Fr.nil n0
  refine Go.out ?_
  refine Go.pre (fun t k => castTop (ef_isLetter m (own_sb u)) k) ?_
  show Go p e below _ (s₁.setTop (mkF m 0 #[iv (own_sb u)] []))
  refine Go.pre (fun _ k => XS.iloadN X0.here hx rfl (hb hby d_prog_16_method_20_0) rfl k) ?_
  show Go p e below _ (s₁.setTop (mkF m 1 #[iv (own_sb u)] [(.int (own_sb u))]))
  refine Go.pre (fun _ k => XS.bipush X0.here hx rfl (hb hby d_prog_16_method_20_1) k) ?_
  show Go p e below _ (s₁.setTop (mkF m 3 #[iv (own_sb u)] [(.int (65 : Int32)), (.int (own_sb u))]))
  by_cases hc3_1 : (u < 65 ∨ 128 ≤ u)
  · skip
    refine Go.pre (fun _ k => XS.icmpYes X0.here hx rfl (pc0 := 3) (pc' := 12) rfl (hb hby d_prog_16_method_20_3) rfl (tlt ((own_sbl (u := u) (k := 65) hu (by omega)).mpr hc3_1)).1 (by decide) (by decide) k) ?_
    show Go p e below _ (s₁.setTop (mkF m 12 #[iv (own_sb u)] []))
    refine Go.pre (fun _ k => XS.iloadN X0.here hx rfl (hb hby d_prog_16_method_20_12) rfl k) ?_
    show Go p e below _ (s₁.setTop (mkF m 13 #[iv (own_sb u)] [(.int (own_sb u))]))
    refine Go.pre (fun _ k => XS.bipush X0.here hx rfl (hb hby d_prog_16_method_20_13) k) ?_
    show Go p e below _ (s₁.setTop (mkF m 15 #[iv (own_sb u)] [(.int (97 : Int32)), (.int (own_sb u))]))
    by_cases hc15_2 : (u < 97 ∨ 128 ≤ u)
    · skip
      refine Go.pre (fun _ k => XS.icmpYes X0.here hx rfl (pc0 := 15) (pc' := 28) rfl (hb hby d_prog_16_method_20_15) rfl (tlt ((own_sbl (u := u) (k := 97) hu (by omega)).mpr hc15_2)).1 (by decide) (by decide) k) ?_
      show Go p e below _ (s₁.setTop (mkF m 28 #[iv (own_sb u)] []))
      refine Go.pre (fun _ k => XS.iconst X0.here hx rfl (hb hby d_prog_16_method_20_28) k) ?_
      show Go p e below _ (s₁.setTop (mkF m 29 #[iv (own_sb u)] [(.int (0 : Int32))]))
      obtain ⟨fs, hr, hrun, hended, hW, hsame⟩ := X0.leave (v := some (.int (0 : Int32))) (fun h => by rw [Bd.returns] at h; cases h)
      refine Go.fin (retN X0 hx (t := .boolean) Bd.returns (by simp) (hb hby d_prog_16_method_20_29) hr) ⟨hrun, hended, _, _, rfl, ?_, ⟨_, rfl⟩, hW, hsame.mono (by decide) (by decide)⟩
      show Q_isLetter Z u h0 n0 _ s₁.heap _
      rw [e0]
      exact Or.inr ⟨fun q => by have q := own_letter_iff.mp q; omega, rfl, N0, rfl⟩
    · skip
      refine Go.pre (fun _ k => XS.icmpNo X0.here hx rfl (hb hby d_prog_16_method_20_15) rfl (flt (fun q => hc15_2 ((own_sbl (u := u) (k := 97) hu (by omega)).mp q))).1 k) ?_
      show Go p e below _ (s₁.setTop (mkF m 18 #[iv (own_sb u)] []))
      refine Go.pre (fun _ k => XS.iloadN X0.here hx rfl (hb hby d_prog_16_method_20_18) rfl k) ?_
      show Go p e below _ (s₁.setTop (mkF m 19 #[iv (own_sb u)] [(.int (own_sb u))]))
      refine Go.pre (fun _ k => XS.bipush X0.here hx rfl (hb hby d_prog_16_method_20_19) k) ?_
      show Go p e below _ (s₁.setTop (mkF m 21 #[iv (own_sb u)] [(.int (122 : Int32)), (.int (own_sb u))]))
      by_cases hc21_3 : (122 < u ∧ u < 128)
      · skip
        refine Go.pre (fun _ k => XS.icmpYes X0.here hx rfl (pc0 := 21) (pc' := 28) rfl (hb hby d_prog_16_method_20_21) rfl (tlt ((own_sbg (u := u) (k := 122) hu (by omega)).mpr hc21_3)).2.2.1 (by decide) (by decide) k) ?_
        show Go p e below _ (s₁.setTop (mkF m 28 #[iv (own_sb u)] []))
        refine Go.pre (fun _ k => XS.iconst X0.here hx rfl (hb hby d_prog_16_method_20_28) k) ?_
        show Go p e below _ (s₁.setTop (mkF m 29 #[iv (own_sb u)] [(.int (0 : Int32))]))
        obtain ⟨fs, hr, hrun, hended, hW, hsame⟩ := X0.leave (v := some (.int (0 : Int32))) (fun h => by rw [Bd.returns] at h; cases h)
        refine Go.fin (retN X0 hx (t := .boolean) Bd.returns (by simp) (hb hby d_prog_16_method_20_29) hr) ⟨hrun, hended, _, _, rfl, ?_, ⟨_, rfl⟩, hW, hsame.mono (by decide) (by decide)⟩
        show Q_isLetter Z u h0 n0 _ s₁.heap _
        rw [e0]
        exact Or.inr ⟨fun q => by have q := own_letter_iff.mp q; omega, rfl, N0, rfl⟩
      · skip
        refine Go.pre (fun _ k => XS.icmpNo X0.here hx rfl (hb hby d_prog_16_method_20_21) rfl (flt (fun q => hc21_3 ((own_sbg (u := u) (k := 122) hu (by omega)).mp q))).2.2.1 k) ?_
        show Go p e below _ (s₁.setTop (mkF m 24 #[iv (own_sb u)] []))
        refine Go.pre (fun _ k => XS.iconst X0.here hx rfl (hb hby d_prog_16_method_20_24) k) ?_
        show Go p e below _ (s₁.setTop (mkF m 25 #[iv (own_sb u)] [(.int (1 : Int32))]))
        refine Go.pre (fun _ k => XS.goto X0.here hx rfl (pc0 := 25) (pc' := 29) rfl (hb hby d_prog_16_method_20_25) (by decide) (by decide) k) ?_
        show Go p e below _ (s₁.setTop (mkF m 29 #[iv (own_sb u)] [(.int (1 : Int32))]))
        obtain ⟨fs, hr, hrun, hended, hW, hsame⟩ := X0.leave (v := some (.int (1 : Int32))) (fun h => by rw [Bd.returns] at h; cases h)
        refine Go.fin (retN X0 hx (t := .boolean) Bd.returns (by simp) (hb hby d_prog_16_method_20_29) hr) ⟨hrun, hended, _, _, rfl, ?_, ⟨_, rfl⟩, hW, hsame.mono (by decide) (by decide)⟩
        show Q_isLetter Z u h0 n0 _ s₁.heap _
        rw [e0]
        exact Or.inl ⟨own_letter_iff.mpr (by omega), rfl, N0, rfl⟩
  · skip
    refine Go.pre (fun _ k => XS.icmpNo X0.here hx rfl (hb hby d_prog_16_method_20_3) rfl (flt (fun q => hc3_1 ((own_sbl (u := u) (k := 65) hu (by omega)).mp q))).1 k) ?_
    show Go p e below _ (s₁.setTop (mkF m 6 #[iv (own_sb u)] []))
    refine Go.pre (fun _ k => XS.iloadN X0.here hx rfl (hb hby d_prog_16_method_20_6) rfl k) ?_
    show Go p e below _ (s₁.setTop (mkF m 7 #[iv (own_sb u)] [(.int (own_sb u))]))
    refine Go.pre (fun _ k => XS.bipush X0.here hx rfl (hb hby d_prog_16_method_20_7) k) ?_
    show Go p e below _ (s₁.setTop (mkF m 9 #[iv (own_sb u)] [(.int (90 : Int32)), (.int (own_sb u))]))
    by_cases hc9_4 : (90 < u ∧ u < 128)
    · skip
      refine Go.pre (fun _ k => XS.icmpNo X0.here hx rfl (hb hby d_prog_16_method_20_9) rfl (tlt ((own_sbg (u := u) (k := 90) hu (by omega)).mpr hc9_4)).2.2.2 k) ?_
      show Go p e below _ (s₁.setTop (mkF m 12 #[iv (own_sb u)] []))
      refine Go.pre (fun _ k => XS.iloadN X0.here hx rfl (hb hby d_prog_16_method_20_12) rfl k) ?_
      show Go p e below _ (s₁.setTop (mkF m 13 #[iv (own_sb u)] [(.int (own_sb u))]))
      refine Go.pre (fun _ k => XS.bipush X0.here hx rfl (hb hby d_prog_16_method_20_13) k) ?_
      show Go p e below _ (s₁.setTop (mkF m 15 #[iv (own_sb u)] [(.int (97 : Int32)), (.int (own_sb u))]))
      by_cases hc15_5 : (u < 97 ∨ 128 ≤ u)
      · skip
        refine Go.pre (fun _ k => XS.icmpYes X0.here hx rfl (pc0 := 15) (pc' := 28) rfl (hb hby d_prog_16_method_20_15) rfl (tlt ((own_sbl (u := u) (k := 97) hu (by omega)).mpr hc15_5)).1 (by decide) (by decide) k) ?_
        show Go p e below _ (s₁.setTop (mkF m 28 #[iv (own_sb u)] []))
        refine Go.pre (fun _ k => XS.iconst X0.here hx rfl (hb hby d_prog_16_method_20_28) k) ?_
        show Go p e below _ (s₁.setTop (mkF m 29 #[iv (own_sb u)] [(.int (0 : Int32))]))
        obtain ⟨fs, hr, hrun, hended, hW, hsame⟩ := X0.leave (v := some (.int (0 : Int32))) (fun h => by rw [Bd.returns] at h; cases h)
        refine Go.fin (retN X0 hx (t := .boolean) Bd.returns (by simp) (hb hby d_prog_16_method_20_29) hr) ⟨hrun, hended, _, _, rfl, ?_, ⟨_, rfl⟩, hW, hsame.mono (by decide) (by decide)⟩
        show Q_isLetter Z u h0 n0 _ s₁.heap _
        rw [e0]
        exact Or.inr ⟨fun q => by have q := own_letter_iff.mp q; omega, rfl, N0, rfl⟩
      · skip
        refine Go.pre (fun _ k => XS.icmpNo X0.here hx rfl (hb hby d_prog_16_method_20_15) rfl (flt (fun q => hc15_5 ((own_sbl (u := u) (k := 97) hu (by omega)).mp q))).1 k) ?_
        show Go p e below _ (s₁.setTop (mkF m 18 #[iv (own_sb u)] []))
        refine Go.pre (fun _ k => XS.iloadN X0.here hx rfl (hb hby d_prog_16_method_20_18) rfl k) ?_
        show Go p e below _ (s₁.setTop (mkF m 19 #[iv (own_sb u)] [(.int (own_sb u))]))
        refine Go.pre (fun _ k => XS.bipush X0.here hx rfl (hb hby d_prog_16_method_20_19) k) ?_
        show Go p e below _ (s₁.setTop (mkF m 21 #[iv (own_sb u)] [(.int (122 : Int32)), (.int (own_sb u))]))
        by_cases hc21_6 : (122 < u ∧ u < 128)
        · skip
          refine Go.pre (fun _ k => XS.icmpYes X0.here hx rfl (pc0 := 21) (pc' := 28) rfl (hb hby d_prog_16_method_20_21) rfl (tlt ((own_sbg (u := u) (k := 122) hu (by omega)).mpr hc21_6)).2.2.1 (by decide) (by decide) k) ?_
          show Go p e below _ (s₁.setTop (mkF m 28 #[iv (own_sb u)] []))
          refine Go.pre (fun _ k => XS.iconst X0.here hx rfl (hb hby d_prog_16_method_20_28) k) ?_
          show Go p e below _ (s₁.setTop (mkF m 29 #[iv (own_sb u)] [(.int (0 : Int32))]))
          obtain ⟨fs, hr, hrun, hended, hW, hsame⟩ := X0.leave (v := some (.int (0 : Int32))) (fun h => by rw [Bd.returns] at h; cases h)
          refine Go.fin (retN X0 hx (t := .boolean) Bd.returns (by simp) (hb hby d_prog_16_method_20_29) hr) ⟨hrun, hended, _, _, rfl, ?_, ⟨_, rfl⟩, hW, hsame.mono (by decide) (by decide)⟩
          show Q_isLetter Z u h0 n0 _ s₁.heap _
          rw [e0]
          exact Or.inr ⟨fun q => by have q := own_letter_iff.mp q; omega, rfl, N0, rfl⟩
        · skip
          refine Go.pre (fun _ k => XS.icmpNo X0.here hx rfl (hb hby d_prog_16_method_20_21) rfl (flt (fun q => hc21_6 ((own_sbg (u := u) (k := 122) hu (by omega)).mp q))).2.2.1 k) ?_
          show Go p e below _ (s₁.setTop (mkF m 24 #[iv (own_sb u)] []))
          refine Go.pre (fun _ k => XS.iconst X0.here hx rfl (hb hby d_prog_16_method_20_24) k) ?_
          show Go p e below _ (s₁.setTop (mkF m 25 #[iv (own_sb u)] [(.int (1 : Int32))]))
          refine Go.pre (fun _ k => XS.goto X0.here hx rfl (pc0 := 25) (pc' := 29) rfl (hb hby d_prog_16_method_20_25) (by decide) (by decide) k) ?_
          show Go p e below _ (s₁.setTop (mkF m 29 #[iv (own_sb u)] [(.int (1 : Int32))]))
          obtain ⟨fs, hr, hrun, hended, hW, hsame⟩ := X0.leave (v := some (.int (1 : Int32))) (fun h => by rw [Bd.returns] at h; cases h)
          refine Go.fin (retN X0 hx (t := .boolean) Bd.returns (by simp) (hb hby d_prog_16_method_20_29) hr) ⟨hrun, hended, _, _, rfl, ?_, ⟨_, rfl⟩, hW, hsame.mono (by decide) (by decide)⟩
          show Q_isLetter Z u h0 n0 _ s₁.heap _
          rw [e0]
          exact Or.inl ⟨own_letter_iff.mpr (by omega), rfl, N0, rfl⟩
    · skip
      refine Go.pre (fun _ k => XS.icmpYes X0.here hx rfl (pc0 := 9) (pc' := 24) rfl (hb hby d_prog_16_method_20_9) rfl (flt (fun q => hc9_4 ((own_sbg (u := u) (k := 90) hu (by omega)).mp q))).2.2.2 (by decide) (by decide) k) ?_
      show Go p e below _ (s₁.setTop (mkF m 24 #[iv (own_sb u)] []))
      refine Go.pre (fun _ k => XS.iconst X0.here hx rfl (hb hby d_prog_16_method_20_24) k) ?_
      show Go p e below _ (s₁.setTop (mkF m 25 #[iv (own_sb u)] [(.int (1 : Int32))]))
      refine Go.pre (fun _ k => XS.goto X0.here hx rfl (pc0 := 25) (pc' := 29) rfl (hb hby d_prog_16_method_20_25) (by decide) (by decide) k) ?_
      show Go p e below _ (s₁.setTop (mkF m 29 #[iv (own_sb u)] [(.int (1 : Int32))]))
      obtain ⟨fs, hr, hrun, hended, hW, hsame⟩ := X0.leave (v := some (.int (1 : Int32))) (fun h => by rw [Bd.returns] at h; cases h)
      refine Go.fin (retN X0 hx (t := .boolean) Bd.returns (by simp) (hb hby d_prog_16_method_20_29) hr) ⟨hrun, hended, _, _, rfl, ?_, ⟨_, rfl⟩, hW, hsame.mono (by decide) (by decide)⟩
      show Q_isLetter Z u h0 n0 _ s₁.heap _
      rw [e0]
      exact Or.inl ⟨own_letter_iff.mpr (by omega), rfl, N0, rfl⟩

theorem ef_isJar (m : MethodId) (x0 : Addr) (x1 : Int32) (x2 : Int32) : entryFrame m #[(.ref x0), (.int x1), (.int x2)] 3 = mkF m 0 #[rv x0, iv x1, iv x2] [] := by first | (simp [entryFrame, mkF, argsToLocals, Value.category]; done) | rfl
theorem pn_isJar : plainName "com/example/entayl/entayl/input/IriTable" = true := by first | (simp [plainName, overriddenIn]; done) | decide +kernel
def Q_isJar (Z : State) (a : Addr) (b : Nat → Nat) (to : Nat) (ej : Nat) (h0 : Heap) (n0 : Nat) (v : Option Value) (h : Heap) (L : List Loc) : Prop := (own_jar b 1 ej = true ∧ v = some (.int 1) ∧ Fr n0 L ∧ h = h0) ∨ (¬ own_jar b 1 ej = true ∧ v = some (.int 0) ∧ Fr n0 L ∧ h = h0)
set_option maxRecDepth 65536 in
set_option maxHeartbeats 40000000 in
theorem rm_isJar (l : Launch) (Z : State) (a0 : Array Value) (hw : ∀ d ∈ tables_1, d.before a0 Z = true) (ws : List Jvm.Cond) (a : Addr) (b : Nat → Nat) (to : Nat) (ej : Nat) (h0 : Heap) (n0 : Nat) (Z0 : n0 ≤ h0.size) (B : Byt Z h0 a b to) (hB : ∀ i, b i < 256) (hto : to ≤ 64) (he1 : 1 ≤ ej) (he2 : ej ≤ to) :
    MetFree l (⟨"com/example/entayl/entayl/input/IriTable", "isJar", "([BII)Z"⟩ : MethodName) (head1 (Jvm.Cond.code (⟨"com/example/entayl/entayl/input/IriTable", "isJar", "([BII)Z"⟩ : MethodName) prog_16_method_21_code 3 (some .boolean) :: ws) ({ frames := 0, cells := 0, slots := 0, locals := 0 } : Room)) (fun as_ U => as_ = #[(.ref a), (.int (1 : Int32)), (.int (Int32.ofNat ej))] ∧ Z.Warmed39 U.vm ∧ U.heap = h0) (fun _ _ _ _ _ => True) (fun _ U o U' => ∃ v L, o = .returned v ∧ Q_isJar Z a b to ej h0 n0 v U'.heap L ∧ FrameEnd U o U' L ({ frames := 0, cells := 0, slots := 0, locals := 0 } : Room).cells ({ frames := 0, cells := 0, slots := 0, locals := 0 } : Room).slots) := by
  refine MetFree.of_bodySF (plainFor_of_name pn_isJar) hisR ?_
  intro p e s m args below meth c s₁ Bd hml0 hP hK
  obtain ⟨rfl, hZ, hh⟩ := hP
  have hx := Bd.exec
  have hby := Bd.bytes
  have hml : c.maxLocals = 3 := hml0
  have hown : s.vm.findClass "com/example/entayl/entayl/input/IriTable" = some m.cls := findClass_of_methodNamed Bd.named
  have hnm := (name_of_methodNamed Bd.named Bd.method).1
  have X0 : Stand p l e ({ frames := 0, cells := 0, slots := 0, locals := 0 } : Room) s m #[(.ref a), (.int (1 : Int32)), (.int (Int32.ofNat ej))] below meth c s₁ [] 0 0 := Stand.of_body Bd
  have e0 : s₁.heap = h0 := by rw [← hh, Bd.state]; rfl
  have N0 := Fr.nil n0
  refine Go.out ?_
  refine Go.pre (fun t k => castTop (ef_isJar m a (1 : Int32) (Int32.ofNat ej)) k) ?_
  show Go p e below _ (s₁.setTop (mkF m 0 #[rv a, iv (1 : Int32), iv (Int32.ofNat ej)] []))
  refine Go.pre (fun _ k => XS.iloadN X0.here hx rfl (hb hby d_prog_16_method_21_0) rfl k) ?_
  show Go p e below _ (s₁.setTop (mkF m 1 #[rv a, iv (1 : Int32), iv (Int32.ofNat ej)] [(.int (Int32.ofNat ej))]))
  refine Go.pre (fun _ k => XS.iloadN X0.here hx rfl (hb hby d_prog_16_method_21_1) rfl k) ?_
  show Go p e below _ (s₁.setTop (mkF m 2 #[rv a, iv (1 : Int32), iv (Int32.ofNat ej)] [(.int (1 : Int32)), (.int (Int32.ofNat ej))]))
  refine Go.pre (fun _ k => XS.isub X0.here hx rfl (hb hby d_prog_16_method_21_2) rfl k) ?_
  show Go p e below _ (s₁.setTop (mkF m 3 #[rv a, iv (1 : Int32), iv (Int32.ofNat ej)] [(.int ((Int32.ofNat ej) - (Int32.ofNat 1)))]))
  rw [own_osub (a := ej) (b := 1) (by omega)]
  show Go p e below _ (s₁.setTop (mkF m 3 #[rv a, iv (1 : Int32), iv (Int32.ofNat ej)] [(.int (Int32.ofNat (ej - 1)))]))
  refine Go.pre (fun _ k => XS.iconst X0.here hx rfl (hb hby d_prog_16_method_21_3) k) ?_
  show Go p e below _ (s₁.setTop (mkF m 4 #[rv a, iv (1 : Int32), iv (Int32.ofNat ej)] [(.int (3 : Int32)), (.int (Int32.ofNat (ej - 1)))]))
  by_cases hc4_1 : ej - 1 = 3
  · skip
    refine Go.pre (fun _ k => XS.icmpNo X0.here hx rfl (hb hby d_prog_16_method_21_4) rfl (teq ((own_oe (a := ej - 1) (b := 3) (by omega) (by omega)).mpr hc4_1)).2 k) ?_
    show Go p e below _ (s₁.setTop (mkF m 7 #[rv a, iv (1 : Int32), iv (Int32.ofNat ej)] []))
    refine Go.pre (fun _ k => XS.aloadN X0.here hx rfl (hb hby d_prog_16_method_21_7) rfl rfl k) ?_
    show Go p e below _ (s₁.setTop (mkF m 8 #[rv a, iv (1 : Int32), iv (Int32.ofNat ej)] [(.ref a)]))
    refine Go.pre (fun _ k => XS.iloadN X0.here hx rfl (hb hby d_prog_16_method_21_8) rfl k) ?_
    show Go p e below _ (s₁.setTop (mkF m 9 #[rv a, iv (1 : Int32), iv (Int32.ofNat ej)] [(.int (1 : Int32)), (.ref a)]))
    obtain ⟨cl2, Ar2, R2⟩ := id B
    obtain ⟨hin2, hat2⟩ := R2 1 (by omega) (by omega)
    refine Go.pre (X0.baloadBytes hx (j := (Int32.ofNat 1)) (v := .int (own_sb (b 1))) (by rw [e0]; exact Ar2.1) (State.isArrayOf_alike hZ.alike Ar2.2.1) Ar2.2.2 hin2 hat2 (g := (mkF m 9 #[rv a, iv (1 : Int32), iv (Int32.ofNat ej)] [(.int (1 : Int32)), (.ref a)])) rfl rfl (hb hby d_prog_16_method_21_9)) ?_
    show Go p e below _ (s₁.setTop (mkF m 10 #[rv a, iv (1 : Int32), iv (Int32.ofNat ej)] [(.int (own_sb (b 1)))]))
    refine Go.pre (fun _ k => XS.bipush X0.here hx rfl (hb hby d_prog_16_method_21_10) k) ?_
    show Go p e below _ (s₁.setTop (mkF m 12 #[rv a, iv (1 : Int32), iv (Int32.ofNat ej)] [(.int (32 : Int32)), (.int (own_sb (b 1)))]))
    refine Go.pre (fun _ k => XS.ior X0.here hx rfl (hb hby d_prog_16_method_21_12) rfl k) ?_
    show Go p e below _ (s₁.setTop (mkF m 13 #[rv a, iv (1 : Int32), iv (Int32.ofNat ej)] [(.int ((own_sb (b 1)) ||| (32 : Int32)))]))
    refine Go.pre (fun _ k => XS.bipush X0.here hx rfl (hb hby d_prog_16_method_21_13) k) ?_
    show Go p e below _ (s₁.setTop (mkF m 15 #[rv a, iv (1 : Int32), iv (Int32.ofNat ej)] [(.int (106 : Int32)), (.int ((own_sb (b 1)) ||| (32 : Int32)))]))
    by_cases hc15_3 : (b 1 = 106 ∨ b 1 = 74)
    · skip
      refine Go.pre (fun _ k => XS.icmpNo X0.here hx rfl (hb hby d_prog_16_method_21_15) rfl (teq ((own_sbo (u := b 1) (hB _)).1.mpr hc15_3)).2 k) ?_
      show Go p e below _ (s₁.setTop (mkF m 18 #[rv a, iv (1 : Int32), iv (Int32.ofNat ej)] []))
      refine Go.pre (fun _ k => XS.aloadN X0.here hx rfl (hb hby d_prog_16_method_21_18) rfl rfl k) ?_
      show Go p e below _ (s₁.setTop (mkF m 19 #[rv a, iv (1 : Int32), iv (Int32.ofNat ej)] [(.ref a)]))
      refine Go.pre (fun _ k => XS.iloadN X0.here hx rfl (hb hby d_prog_16_method_21_19) rfl k) ?_
      show Go p e below _ (s₁.setTop (mkF m 20 #[rv a, iv (1 : Int32), iv (Int32.ofNat ej)] [(.int (1 : Int32)), (.ref a)]))
      refine Go.pre (fun _ k => XS.iconst X0.here hx rfl (hb hby d_prog_16_method_21_20) k) ?_
      show Go p e below _ (s₁.setTop (mkF m 21 #[rv a, iv (1 : Int32), iv (Int32.ofNat ej)] [(.int (1 : Int32)), (.int (1 : Int32)), (.ref a)]))
      refine Go.pre (fun _ k => XS.iadd X0.here hx rfl (hb hby d_prog_16_method_21_21) rfl k) ?_
      show Go p e below _ (s₁.setTop (mkF m 22 #[rv a, iv (1 : Int32), iv (Int32.ofNat ej)] [(.int (2 : Int32)), (.ref a)]))
      obtain ⟨cl4, Ar4, R4⟩ := id B
      obtain ⟨hin4, hat4⟩ := R4 2 (by omega) (by omega)
      refine Go.pre (X0.baloadBytes hx (j := (Int32.ofNat 2)) (v := .int (own_sb (b 2))) (by rw [e0]; exact Ar4.1) (State.isArrayOf_alike hZ.alike Ar4.2.1) Ar4.2.2 hin4 hat4 (g := (mkF m 22 #[rv a, iv (1 : Int32), iv (Int32.ofNat ej)] [(.int (2 : Int32)), (.ref a)])) rfl rfl (hb hby d_prog_16_method_21_22)) ?_
      show Go p e below _ (s₁.setTop (mkF m 23 #[rv a, iv (1 : Int32), iv (Int32.ofNat ej)] [(.int (own_sb (b 2)))]))
      refine Go.pre (fun _ k => XS.bipush X0.here hx rfl (hb hby d_prog_16_method_21_23) k) ?_
      show Go p e below _ (s₁.setTop (mkF m 25 #[rv a, iv (1 : Int32), iv (Int32.ofNat ej)] [(.int (32 : Int32)), (.int (own_sb (b 2)))]))
      refine Go.pre (fun _ k => XS.ior X0.here hx rfl (hb hby d_prog_16_method_21_25) rfl k) ?_
      show Go p e below _ (s₁.setTop (mkF m 26 #[rv a, iv (1 : Int32), iv (Int32.ofNat ej)] [(.int ((own_sb (b 2)) ||| (32 : Int32)))]))
      refine Go.pre (fun _ k => XS.bipush X0.here hx rfl (hb hby d_prog_16_method_21_26) k) ?_
      show Go p e below _ (s₁.setTop (mkF m 28 #[rv a, iv (1 : Int32), iv (Int32.ofNat ej)] [(.int (97 : Int32)), (.int ((own_sb (b 2)) ||| (32 : Int32)))]))
      by_cases hc28_5 : (b 2 = 97 ∨ b 2 = 65)
      · skip
        refine Go.pre (fun _ k => XS.icmpNo X0.here hx rfl (hb hby d_prog_16_method_21_28) rfl (teq ((own_sbo (u := b 2) (hB _)).2.1.mpr hc28_5)).2 k) ?_
        show Go p e below _ (s₁.setTop (mkF m 31 #[rv a, iv (1 : Int32), iv (Int32.ofNat ej)] []))
        refine Go.pre (fun _ k => XS.aloadN X0.here hx rfl (hb hby d_prog_16_method_21_31) rfl rfl k) ?_
        show Go p e below _ (s₁.setTop (mkF m 32 #[rv a, iv (1 : Int32), iv (Int32.ofNat ej)] [(.ref a)]))
        refine Go.pre (fun _ k => XS.iloadN X0.here hx rfl (hb hby d_prog_16_method_21_32) rfl k) ?_
        show Go p e below _ (s₁.setTop (mkF m 33 #[rv a, iv (1 : Int32), iv (Int32.ofNat ej)] [(.int (1 : Int32)), (.ref a)]))
        refine Go.pre (fun _ k => XS.iconst X0.here hx rfl (hb hby d_prog_16_method_21_33) k) ?_
        show Go p e below _ (s₁.setTop (mkF m 34 #[rv a, iv (1 : Int32), iv (Int32.ofNat ej)] [(.int (2 : Int32)), (.int (1 : Int32)), (.ref a)]))
        refine Go.pre (fun _ k => XS.iadd X0.here hx rfl (hb hby d_prog_16_method_21_34) rfl k) ?_
        show Go p e below _ (s₁.setTop (mkF m 35 #[rv a, iv (1 : Int32), iv (Int32.ofNat ej)] [(.int (3 : Int32)), (.ref a)]))
        obtain ⟨cl6, Ar6, R6⟩ := id B
        obtain ⟨hin6, hat6⟩ := R6 3 (by omega) (by omega)
        refine Go.pre (X0.baloadBytes hx (j := (Int32.ofNat 3)) (v := .int (own_sb (b 3))) (by rw [e0]; exact Ar6.1) (State.isArrayOf_alike hZ.alike Ar6.2.1) Ar6.2.2 hin6 hat6 (g := (mkF m 35 #[rv a, iv (1 : Int32), iv (Int32.ofNat ej)] [(.int (3 : Int32)), (.ref a)])) rfl rfl (hb hby d_prog_16_method_21_35)) ?_
        show Go p e below _ (s₁.setTop (mkF m 36 #[rv a, iv (1 : Int32), iv (Int32.ofNat ej)] [(.int (own_sb (b 3)))]))
        refine Go.pre (fun _ k => XS.bipush X0.here hx rfl (hb hby d_prog_16_method_21_36) k) ?_
        show Go p e below _ (s₁.setTop (mkF m 38 #[rv a, iv (1 : Int32), iv (Int32.ofNat ej)] [(.int (32 : Int32)), (.int (own_sb (b 3)))]))
        refine Go.pre (fun _ k => XS.ior X0.here hx rfl (hb hby d_prog_16_method_21_38) rfl k) ?_
        show Go p e below _ (s₁.setTop (mkF m 39 #[rv a, iv (1 : Int32), iv (Int32.ofNat ej)] [(.int ((own_sb (b 3)) ||| (32 : Int32)))]))
        refine Go.pre (fun _ k => XS.bipush X0.here hx rfl (hb hby d_prog_16_method_21_39) k) ?_
        show Go p e below _ (s₁.setTop (mkF m 41 #[rv a, iv (1 : Int32), iv (Int32.ofNat ej)] [(.int (114 : Int32)), (.int ((own_sb (b 3)) ||| (32 : Int32)))]))
        by_cases hc41_7 : (b 3 = 114 ∨ b 3 = 82)
        · skip
          refine Go.pre (fun _ k => XS.icmpNo X0.here hx rfl (hb hby d_prog_16_method_21_41) rfl (teq ((own_sbo (u := b 3) (hB _)).2.2.mpr hc41_7)).2 k) ?_
          show Go p e below _ (s₁.setTop (mkF m 44 #[rv a, iv (1 : Int32), iv (Int32.ofNat ej)] []))
          refine Go.pre (fun _ k => XS.iconst X0.here hx rfl (hb hby d_prog_16_method_21_44) k) ?_
          show Go p e below _ (s₁.setTop (mkF m 45 #[rv a, iv (1 : Int32), iv (Int32.ofNat ej)] [(.int (1 : Int32))]))
          refine Go.pre (fun _ k => XS.goto X0.here hx rfl (pc0 := 45) (pc' := 49) rfl (hb hby d_prog_16_method_21_45) (by decide) (by decide) k) ?_
          show Go p e below _ (s₁.setTop (mkF m 49 #[rv a, iv (1 : Int32), iv (Int32.ofNat ej)] [(.int (1 : Int32))]))
          obtain ⟨fs, hr, hrun, hended, hW, hsame⟩ := X0.leave (v := some (.int (1 : Int32))) (fun h => by rw [Bd.returns] at h; cases h)
          refine Go.fin (retN X0 hx (t := .boolean) Bd.returns (by simp) (hb hby d_prog_16_method_21_49) hr) ⟨hrun, hended, _, _, rfl, ?_, ⟨_, rfl⟩, hW, hsame.mono (by decide) (by decide)⟩
          show Q_isJar Z a b to ej h0 n0 _ s₁.heap _
          rw [e0]
          exact Or.inl ⟨by first | (simp [own_jar, hc4_1, hc15_3, hc28_5, hc41_7]; done) | (simp [own_jar, hc4_1, hc15_3, hc28_5, hc41_7]; omega), rfl, N0, rfl⟩
        · skip
          refine Go.pre (fun _ k => XS.icmpYes X0.here hx rfl (pc0 := 41) (pc' := 48) rfl (hb hby d_prog_16_method_21_41) rfl (feq (fun q => hc41_7 ((own_sbo (u := b 3) (hB _)).2.2.mp q))).2 (by decide) (by decide) k) ?_
          show Go p e below _ (s₁.setTop (mkF m 48 #[rv a, iv (1 : Int32), iv (Int32.ofNat ej)] []))
          refine Go.pre (fun _ k => XS.iconst X0.here hx rfl (hb hby d_prog_16_method_21_48) k) ?_
          show Go p e below _ (s₁.setTop (mkF m 49 #[rv a, iv (1 : Int32), iv (Int32.ofNat ej)] [(.int (0 : Int32))]))
          obtain ⟨fs, hr, hrun, hended, hW, hsame⟩ := X0.leave (v := some (.int (0 : Int32))) (fun h => by rw [Bd.returns] at h; cases h)
          refine Go.fin (retN X0 hx (t := .boolean) Bd.returns (by simp) (hb hby d_prog_16_method_21_49) hr) ⟨hrun, hended, _, _, rfl, ?_, ⟨_, rfl⟩, hW, hsame.mono (by decide) (by decide)⟩
          show Q_isJar Z a b to ej h0 n0 _ s₁.heap _
          rw [e0]
          exact Or.inr ⟨by first | (simp [own_jar, hc4_1, hc15_3, hc28_5, hc41_7]; done) | (simp [own_jar, hc4_1, hc15_3, hc28_5, hc41_7]; omega), rfl, N0, rfl⟩
      · skip
        refine Go.pre (fun _ k => XS.icmpYes X0.here hx rfl (pc0 := 28) (pc' := 48) rfl (hb hby d_prog_16_method_21_28) rfl (feq (fun q => hc28_5 ((own_sbo (u := b 2) (hB _)).2.1.mp q))).2 (by decide) (by decide) k) ?_
        show Go p e below _ (s₁.setTop (mkF m 48 #[rv a, iv (1 : Int32), iv (Int32.ofNat ej)] []))
        refine Go.pre (fun _ k => XS.iconst X0.here hx rfl (hb hby d_prog_16_method_21_48) k) ?_
        show Go p e below _ (s₁.setTop (mkF m 49 #[rv a, iv (1 : Int32), iv (Int32.ofNat ej)] [(.int (0 : Int32))]))
        obtain ⟨fs, hr, hrun, hended, hW, hsame⟩ := X0.leave (v := some (.int (0 : Int32))) (fun h => by rw [Bd.returns] at h; cases h)
        refine Go.fin (retN X0 hx (t := .boolean) Bd.returns (by simp) (hb hby d_prog_16_method_21_49) hr) ⟨hrun, hended, _, _, rfl, ?_, ⟨_, rfl⟩, hW, hsame.mono (by decide) (by decide)⟩
        show Q_isJar Z a b to ej h0 n0 _ s₁.heap _
        rw [e0]
        exact Or.inr ⟨by first | (simp [own_jar, hc4_1, hc15_3, hc28_5]; done) | (simp [own_jar, hc4_1, hc15_3, hc28_5]; omega), rfl, N0, rfl⟩
    · skip
      refine Go.pre (fun _ k => XS.icmpYes X0.here hx rfl (pc0 := 15) (pc' := 48) rfl (hb hby d_prog_16_method_21_15) rfl (feq (fun q => hc15_3 ((own_sbo (u := b 1) (hB _)).1.mp q))).2 (by decide) (by decide) k) ?_
      show Go p e below _ (s₁.setTop (mkF m 48 #[rv a, iv (1 : Int32), iv (Int32.ofNat ej)] []))
      refine Go.pre (fun _ k => XS.iconst X0.here hx rfl (hb hby d_prog_16_method_21_48) k) ?_
      show Go p e below _ (s₁.setTop (mkF m 49 #[rv a, iv (1 : Int32), iv (Int32.ofNat ej)] [(.int (0 : Int32))]))
      obtain ⟨fs, hr, hrun, hended, hW, hsame⟩ := X0.leave (v := some (.int (0 : Int32))) (fun h => by rw [Bd.returns] at h; cases h)
      refine Go.fin (retN X0 hx (t := .boolean) Bd.returns (by simp) (hb hby d_prog_16_method_21_49) hr) ⟨hrun, hended, _, _, rfl, ?_, ⟨_, rfl⟩, hW, hsame.mono (by decide) (by decide)⟩
      show Q_isJar Z a b to ej h0 n0 _ s₁.heap _
      rw [e0]
      exact Or.inr ⟨by first | (simp [own_jar, hc4_1, hc15_3]; done) | (simp [own_jar, hc4_1, hc15_3]; omega), rfl, N0, rfl⟩
  · skip
    refine Go.pre (fun _ k => XS.icmpYes X0.here hx rfl (pc0 := 4) (pc' := 48) rfl (hb hby d_prog_16_method_21_4) rfl (feq (fun q => hc4_1 ((own_oe (a := ej - 1) (b := 3) (by omega) (by omega)).mp q))).2 (by decide) (by decide) k) ?_
    show Go p e below _ (s₁.setTop (mkF m 48 #[rv a, iv (1 : Int32), iv (Int32.ofNat ej)] []))
    refine Go.pre (fun _ k => XS.iconst X0.here hx rfl (hb hby d_prog_16_method_21_48) k) ?_
    show Go p e below _ (s₁.setTop (mkF m 49 #[rv a, iv (1 : Int32), iv (Int32.ofNat ej)] [(.int (0 : Int32))]))
    obtain ⟨fs, hr, hrun, hended, hW, hsame⟩ := X0.leave (v := some (.int (0 : Int32))) (fun h => by rw [Bd.returns] at h; cases h)
    refine Go.fin (retN X0 hx (t := .boolean) Bd.returns (by simp) (hb hby d_prog_16_method_21_49) hr) ⟨hrun, hended, _, _, rfl, ?_, ⟨_, rfl⟩, hW, hsame.mono (by decide) (by decide)⟩
    show Q_isJar Z a b to ej h0 n0 _ s₁.heap _
    rw [e0]
    exact Or.inr ⟨by first | (simp [own_jar, hc4_1]; done) | (simp [own_jar, hc4_1]; omega), rfl, N0, rfl⟩

theorem ef_skip (m : MethodId) (x0 : Addr) (x1 : Int32) (x2 : Int32) (x3 : Int32) : entryFrame m #[(.ref x0), (.int x1), (.int x2), (.int x3)] 5 = mkF m 0 #[rv x0, iv x1, iv x2, iv x3, .unset] [] := by first | (simp [entryFrame, mkF, argsToLocals, Value.category]; done) | rfl
theorem pn_skip : plainName "com/example/entayl/entayl/input/IriTable" = true := by first | (simp [plainName, overriddenIn]; done) | decide +kernel
def Q_skip (Z : State) (a : Addr) (b : Nat → Nat) (i0 : Nat) (to : Nat) (mk : Nat) (ck : Addr) (h0 : Heap) (n0 : Nat) (v : Option Value) (h : Heap) (L : List Loc) : Prop := (own_sk b to mk to i0 = none ∧ v = some (.int (-1)) ∧ Fr n0 L ∧ h = h0) ∨ (∃ ej : Nat, own_sk b to mk to i0 = some ej ∧ i0 ≤ ej ∧ ej ≤ to ∧ v = some (.int (Int32.ofNat ej)) ∧ Fr n0 L ∧ h = h0)
set_option maxRecDepth 65536 in
set_option maxHeartbeats 40000000 in
theorem rm_skip (l : Launch) (Z : State) (a0 : Array Value) (hw : ∀ d ∈ tables_1, d.before a0 Z = true) (ws : List Jvm.Cond) (a : Addr) (b : Nat → Nat) (i0 : Nat) (to : Nat) (mk : Nat) (ck : Addr) (h0 : Heap) (n0 : Nat) (Z0 : n0 ≤ h0.size) (B : Byt Z h0 a b to) (hB : ∀ i, b i < 256) (hto : to ≤ 64) (SK : Sta Z h0 "com/example/entayl/entayl/input/IriTable" "KINDS" "[I" (.ref ck)) (KD : Kds Z h0 ck) (hi1 : 1 ≤ i0) (hi2 : i0 ≤ to) (hm : mk ≤ 31) :
    MetFree l (⟨"com/example/entayl/entayl/input/IriTable", "skip", "([BIII)I"⟩ : MethodName) (head1 (Jvm.Cond.code (⟨"com/example/entayl/entayl/input/IriTable", "skip", "([BIII)I"⟩ : MethodName) prog_16_method_19_code 5 (some .int) :: ws) ({ frames := 0, cells := 0, slots := 0, locals := 0 } : Room)) (fun as_ U => as_ = #[(.ref a), (.int (Int32.ofNat i0)), (.int (Int32.ofNat to)), (.int (Int32.ofNat mk))] ∧ Z.Warmed39 U.vm ∧ U.heap = h0) (fun _ _ _ _ _ => True) (fun _ U o U' => ∃ v L, o = .returned v ∧ Q_skip Z a b i0 to mk ck h0 n0 v U'.heap L ∧ FrameEnd U o U' L ({ frames := 0, cells := 0, slots := 0, locals := 0 } : Room).cells ({ frames := 0, cells := 0, slots := 0, locals := 0 } : Room).slots) := by
  refine MetFree.of_bodySF (plainFor_of_name pn_skip) hisR ?_
  intro p e s m args below meth c s₁ Bd hml0 hP hK
  obtain ⟨rfl, hZ, hh⟩ := hP
  have hx := Bd.exec
  have hby := Bd.bytes
  have hml : c.maxLocals = 5 := hml0
  have hown : s.vm.findClass "com/example/entayl/entayl/input/IriTable" = some m.cls := findClass_of_methodNamed Bd.named
  have hnm := (name_of_methodNamed Bd.named Bd.method).1
  have X0 : Stand p l e ({ frames := 0, cells := 0, slots := 0, locals := 0 } : Room) s m #[(.ref a), (.int (Int32.ofNat i0)), (.int (Int32.ofNat to)), (.int (Int32.ofNat mk))] below meth c s₁ [] 0 0 := Stand.of_body Bd
  have e0 : s₁.heap = h0 := by rw [← hh, Bd.state]; rfl
  have N0 := Fr.nil n0
  refine Go.out ?_
  refine Go.pre (fun t k => castTop (ef_skip m a (Int32.ofNat i0) (Int32.ofNat to) (Int32.ofNat mk)) k) ?_
  refine Go.named fun P hP => ?_
  have J3 : ∀ (f i : Nat), 1 ≤ i → i ≤ to → to - i ≤ f → own_sk b to mk f i = own_sk b to mk to i0 → ∀ (T : State) (locs : List Loc), Stand p l e ({ frames := 0, cells := 0, slots := 0, locals := 0 } : Room) s m #[(.ref a), (.int (Int32.ofNat i0)), (.int (Int32.ofNat to)), (.int (Int32.ofNat mk))] below meth c T locs 0 0 → Fr n0 locs → T.heap = h0 → Go p e below P (T.setTop (mkF m 3 #[rv a, iv (Int32.ofNat i0), iv (Int32.ofNat to), iv (Int32.ofNat mk), iv (Int32.ofNat i)] [])) := by
    intro f
    induction f with
    | zero =>
      intro i h1 h2 h3 hR T locs X N eT
      have hz : ¬ i < to := by omega
      show Go p e below _ (T.setTop (mkF m 3 #[rv a, iv (Int32.ofNat i0), iv (Int32.ofNat to), iv (Int32.ofNat mk), iv (Int32.ofNat i)] []))
      refine Go.pre (fun _ k => XS.iload X.here hx rfl (hb hby d_prog_16_method_19_3) rfl k) ?_
      show Go p e below _ (T.setTop (mkF m 5 #[rv a, iv (Int32.ofNat i0), iv (Int32.ofNat to), iv (Int32.ofNat mk), iv (Int32.ofNat i)] [(.int (Int32.ofNat i))]))
      refine Go.pre (fun _ k => XS.iloadN X.here hx rfl (hb hby d_prog_16_method_19_5) rfl k) ?_
      show Go p e below _ (T.setTop (mkF m 6 #[rv a, iv (Int32.ofNat i0), iv (Int32.ofNat to), iv (Int32.ofNat mk), iv (Int32.ofNat i)] [(.int (Int32.ofNat to)), (.int (Int32.ofNat i))]))
      refine Go.pre (fun _ k => XS.icmpYes X.here hx rfl (pc0 := 6) (pc' := 105) rfl (hb hby d_prog_16_method_19_6) rfl (flt (fun q => hz ((own_ol (a := i) (b := to) (by omega) (by omega)).mp q))).2.1 (by decide) (by decide) k) ?_
      show Go p e below _ (T.setTop (mkF m 105 #[rv a, iv (Int32.ofNat i0), iv (Int32.ofNat to), iv (Int32.ofNat mk), iv (Int32.ofNat i)] []))
      refine Go.pre (fun _ k => XS.iload X.here hx rfl (hb hby d_prog_16_method_19_105) rfl k) ?_
      show Go p e below _ (T.setTop (mkF m 107 #[rv a, iv (Int32.ofNat i0), iv (Int32.ofNat to), iv (Int32.ofNat mk), iv (Int32.ofNat i)] [(.int (Int32.ofNat i))]))
      obtain ⟨fs, hr, hrun, hended, hW, hsame⟩ := X.leave (v := some (.int (Int32.ofNat i))) (fun h => by rw [Bd.returns] at h; cases h)
      refine Go.fin (o := .returned (some (.int (Int32.ofNat i)))) (retI X hx Bd.returns (hb hby d_prog_16_method_19_107) hr) ?_
      rw [hP]
      refine ⟨hrun, hended, _, _, rfl, ?_, ⟨_, rfl⟩, hW, hsame.mono (by decide) (by decide)⟩
      show Q_skip Z a b i0 to mk ck h0 n0 _ T.heap _
      rw [eT]
      have q : own_sk b to mk to i0 = some i := hR.symm
      have qb := own_sk_bd b to mk to i0 _ (by omega) q
      exact Or.inr ⟨_, q, qb.1, qb.2, rfl, N, rfl⟩
    | succ f ih =>
      intro i h1 h2 h3 hR T locs X N eT
      show Go p e below _ (T.setTop (mkF m 3 #[rv a, iv (Int32.ofNat i0), iv (Int32.ofNat to), iv (Int32.ofNat mk), iv (Int32.ofNat i)] []))
      refine Go.pre (fun _ k => XS.iload X.here hx rfl (hb hby d_prog_16_method_19_3) rfl k) ?_
      show Go p e below _ (T.setTop (mkF m 5 #[rv a, iv (Int32.ofNat i0), iv (Int32.ofNat to), iv (Int32.ofNat mk), iv (Int32.ofNat i)] [(.int (Int32.ofNat i))]))
      refine Go.pre (fun _ k => XS.iloadN X.here hx rfl (hb hby d_prog_16_method_19_5) rfl k) ?_
      show Go p e below _ (T.setTop (mkF m 6 #[rv a, iv (Int32.ofNat i0), iv (Int32.ofNat to), iv (Int32.ofNat mk), iv (Int32.ofNat i)] [(.int (Int32.ofNat to)), (.int (Int32.ofNat i))]))
      by_cases hc6_1 : i < to
      · skip
        refine Go.pre (fun _ k => XS.icmpNo X.here hx rfl (hb hby d_prog_16_method_19_6) rfl (tlt ((own_ol (a := i) (b := to) (by omega) (by omega)).mpr hc6_1)).2.1 k) ?_
        show Go p e below _ (T.setTop (mkF m 9 #[rv a, iv (Int32.ofNat i0), iv (Int32.ofNat to), iv (Int32.ofNat mk), iv (Int32.ofNat i)] []))
        obtain ⟨T2, X2, e2, st2⟩ := getS2 X hx hZ hown (host := "") (Or.inl (hw _ (List.mem_of_getElem? (i := 12) rfl))) Via.refl eT SK (g := (mkF m 9 #[rv a, iv (Int32.ofNat i0), iv (Int32.ofNat to), iv (Int32.ofNat mk), iv (Int32.ofNat i)] [])) rfl (hb hby d_prog_16_method_19_9)
        refine Go.pre st2 ?_
        show Go p e below _ (T2.setTop (mkF m 12 #[rv a, iv (Int32.ofNat i0), iv (Int32.ofNat to), iv (Int32.ofNat mk), iv (Int32.ofNat i)] [(.ref ck)]))
        refine Go.pre (fun _ k => XS.aloadN X2.here hx rfl (hb hby d_prog_16_method_19_12) rfl rfl k) ?_
        show Go p e below _ (T2.setTop (mkF m 13 #[rv a, iv (Int32.ofNat i0), iv (Int32.ofNat to), iv (Int32.ofNat mk), iv (Int32.ofNat i)] [(.ref a), (.ref ck)]))
        refine Go.pre (fun _ k => XS.iload X2.here hx rfl (hb hby d_prog_16_method_19_13) rfl k) ?_
        show Go p e below _ (T2.setTop (mkF m 15 #[rv a, iv (Int32.ofNat i0), iv (Int32.ofNat to), iv (Int32.ofNat mk), iv (Int32.ofNat i)] [(.int (Int32.ofNat i)), (.ref a), (.ref ck)]))
        obtain ⟨cl3, Ar3, R3⟩ := id B
        obtain ⟨hin3, hat3⟩ := R3 i (by omega) (by omega)
        refine Go.pre (X2.baloadBytes hx (j := (Int32.ofNat i)) (v := .int (own_sb (b i))) (by rw [e2]; exact Ar3.1) (State.isArrayOf_alike hZ.alike Ar3.2.1) Ar3.2.2 hin3 hat3 (g := (mkF m 15 #[rv a, iv (Int32.ofNat i0), iv (Int32.ofNat to), iv (Int32.ofNat mk), iv (Int32.ofNat i)] [(.int (Int32.ofNat i)), (.ref a), (.ref ck)])) rfl rfl (hb hby d_prog_16_method_19_15)) ?_
        show Go p e below _ (T2.setTop (mkF m 16 #[rv a, iv (Int32.ofNat i0), iv (Int32.ofNat to), iv (Int32.ofNat mk), iv (Int32.ofNat i)] [(.int (own_sb (b i))), (.ref ck)]))
        refine Go.pre (fun _ k => XS.sipush X2.here hx rfl (hb hby d_prog_16_method_19_16) k) ?_
        show Go p e below _ (T2.setTop (mkF m 19 #[rv a, iv (Int32.ofNat i0), iv (Int32.ofNat to), iv (Int32.ofNat mk), iv (Int32.ofNat i)] [(.int (255 : Int32)), (.int (own_sb (b i))), (.ref ck)]))
        refine Go.pre (fun _ k => XS.iand X2.here hx rfl (hb hby d_prog_16_method_19_19) rfl k) ?_
        show Go p e below _ (T2.setTop (mkF m 20 #[rv a, iv (Int32.ofNat i0), iv (Int32.ofNat to), iv (Int32.ofNat mk), iv (Int32.ofNat i)] [(.int ((own_sb (b i)) &&& (255 : Int32))), (.ref ck)]))
        rw [own_sbm (hB _)]
        show Go p e below _ (T2.setTop (mkF m 20 #[rv a, iv (Int32.ofNat i0), iv (Int32.ofNat to), iv (Int32.ofNat mk), iv (Int32.ofNat i)] [(.int (Int32.ofNat (b i))), (.ref ck)]))
        obtain ⟨cl4, Ar4, R4⟩ := id KD
        obtain ⟨hin4, hat4⟩ := R4 (b i) (hB _)
        refine Go.pre (X2.iaload hx (j := (Int32.ofNat (b i))) (v := .int (Int32.ofNat (own_kd (b i)))) (by rw [e2]; exact Ar4.1) (State.isArrayOf_alike hZ.alike Ar4.2.1) Ar4.2.2 hin4 hat4 (g := (mkF m 20 #[rv a, iv (Int32.ofNat i0), iv (Int32.ofNat to), iv (Int32.ofNat mk), iv (Int32.ofNat i)] [(.int (Int32.ofNat (b i))), (.ref ck)])) rfl rfl (hb hby d_prog_16_method_19_20)) ?_
        show Go p e below _ (T2.setTop (mkF m 21 #[rv a, iv (Int32.ofNat i0), iv (Int32.ofNat to), iv (Int32.ofNat mk), iv (Int32.ofNat i)] [(.int (Int32.ofNat (own_kd (b i))))]))
        refine Go.pre (fun _ k => XS.iloadN X2.here hx rfl (hb hby d_prog_16_method_19_21) rfl k) ?_
        show Go p e below _ (T2.setTop (mkF m 22 #[rv a, iv (Int32.ofNat i0), iv (Int32.ofNat to), iv (Int32.ofNat mk), iv (Int32.ofNat i)] [(.int (Int32.ofNat mk)), (.int (Int32.ofNat (own_kd (b i))))]))
        refine Go.pre (fun _ k => XS.iand X2.here hx rfl (hb hby d_prog_16_method_19_22) rfl k) ?_
        show Go p e below _ (T2.setTop (mkF m 23 #[rv a, iv (Int32.ofNat i0), iv (Int32.ofNat to), iv (Int32.ofNat mk), iv (Int32.ofNat i)] [(.int ((Int32.ofNat (own_kd (b i))) &&& (Int32.ofNat mk)))]))
        rw [own_oand]
        show Go p e below _ (T2.setTop (mkF m 23 #[rv a, iv (Int32.ofNat i0), iv (Int32.ofNat to), iv (Int32.ofNat mk), iv (Int32.ofNat i)] [(.int (Int32.ofNat (own_kd (b i) &&& mk)))]))
        by_cases hc23_5 : own_kd (b i) &&& mk = 0
        · skip
          refine Go.pre (fun _ k => XS.ifYes X2.here hx rfl (pc0 := 23) (pc' := 32) rfl (hb hby d_prog_16_method_19_23) rfl ((if0 _ _).trans (teq ((own_oe (a := own_kd (b i) &&& mk) (b := 0) (Nat.lt_of_le_of_lt Nat.and_le_right (by omega)) (by omega)).mpr hc23_5)).1) (by decide) (by decide) k) ?_
          show Go p e below _ (T2.setTop (mkF m 32 #[rv a, iv (Int32.ofNat i0), iv (Int32.ofNat to), iv (Int32.ofNat mk), iv (Int32.ofNat i)] []))
          refine Go.pre (fun _ k => XS.aloadN X2.here hx rfl (hb hby d_prog_16_method_19_32) rfl rfl k) ?_
          show Go p e below _ (T2.setTop (mkF m 33 #[rv a, iv (Int32.ofNat i0), iv (Int32.ofNat to), iv (Int32.ofNat mk), iv (Int32.ofNat i)] [(.ref a)]))
          refine Go.pre (fun _ k => XS.iload X2.here hx rfl (hb hby d_prog_16_method_19_33) rfl k) ?_
          show Go p e below _ (T2.setTop (mkF m 35 #[rv a, iv (Int32.ofNat i0), iv (Int32.ofNat to), iv (Int32.ofNat mk), iv (Int32.ofNat i)] [(.int (Int32.ofNat i)), (.ref a)]))
          obtain ⟨cl6, Ar6, R6⟩ := id B
          obtain ⟨hin6, hat6⟩ := R6 i (by omega) (by omega)
          refine Go.pre (X2.baloadBytes hx (j := (Int32.ofNat i)) (v := .int (own_sb (b i))) (by rw [e2]; exact Ar6.1) (State.isArrayOf_alike hZ.alike Ar6.2.1) Ar6.2.2 hin6 hat6 (g := (mkF m 35 #[rv a, iv (Int32.ofNat i0), iv (Int32.ofNat to), iv (Int32.ofNat mk), iv (Int32.ofNat i)] [(.int (Int32.ofNat i)), (.ref a)])) rfl rfl (hb hby d_prog_16_method_19_35)) ?_
          show Go p e below _ (T2.setTop (mkF m 36 #[rv a, iv (Int32.ofNat i0), iv (Int32.ofNat to), iv (Int32.ofNat mk), iv (Int32.ofNat i)] [(.int (own_sb (b i)))]))
          refine Go.pre (fun _ k => XS.bipush X2.here hx rfl (hb hby d_prog_16_method_19_36) k) ?_
          show Go p e below _ (T2.setTop (mkF m 38 #[rv a, iv (Int32.ofNat i0), iv (Int32.ofNat to), iv (Int32.ofNat mk), iv (Int32.ofNat i)] [(.int (37 : Int32)), (.int (own_sb (b i)))]))
          by_cases hc38_7 : b i = 37
          · skip
            refine Go.pre (fun _ k => XS.icmpNo X2.here hx rfl (hb hby d_prog_16_method_19_38) rfl (teq ((own_sbe (u := b i) (k := 37) (hB _) (by omega)).mpr hc38_7)).2 k) ?_
            show Go p e below _ (T2.setTop (mkF m 41 #[rv a, iv (Int32.ofNat i0), iv (Int32.ofNat to), iv (Int32.ofNat mk), iv (Int32.ofNat i)] []))
            refine Go.pre (fun _ k => XS.iloadN X2.here hx rfl (hb hby d_prog_16_method_19_41) rfl k) ?_
            show Go p e below _ (T2.setTop (mkF m 42 #[rv a, iv (Int32.ofNat i0), iv (Int32.ofNat to), iv (Int32.ofNat mk), iv (Int32.ofNat i)] [(.int (Int32.ofNat mk))]))
            refine Go.pre (fun _ k => XS.iconst X2.here hx rfl (hb hby d_prog_16_method_19_42) k) ?_
            show Go p e below _ (T2.setTop (mkF m 43 #[rv a, iv (Int32.ofNat i0), iv (Int32.ofNat to), iv (Int32.ofNat mk), iv (Int32.ofNat i)] [(.int (1 : Int32)), (.int (Int32.ofNat mk))]))
            by_cases hc43_8 : mk = 1
            · skip
              refine Go.pre (fun _ k => XS.icmpYes X2.here hx rfl (pc0 := 43) (pc' := 102) rfl (hb hby d_prog_16_method_19_43) rfl (teq ((own_oe (a := mk) (b := 1) (by omega) (by omega)).mpr hc43_8)).1 (by decide) (by decide) k) ?_
              show Go p e below _ (T2.setTop (mkF m 102 #[rv a, iv (Int32.ofNat i0), iv (Int32.ofNat to), iv (Int32.ofNat mk), iv (Int32.ofNat i)] []))
              refine Go.pre (fun _ k => XS.iload X2.here hx rfl (hb hby d_prog_16_method_19_102) rfl k) ?_
              show Go p e below _ (T2.setTop (mkF m 104 #[rv a, iv (Int32.ofNat i0), iv (Int32.ofNat to), iv (Int32.ofNat mk), iv (Int32.ofNat i)] [(.int (Int32.ofNat i))]))
              obtain ⟨fs, hr, hrun, hended, hW, hsame⟩ := X2.leave (v := some (.int (Int32.ofNat i))) (fun h => by rw [Bd.returns] at h; cases h)
              refine Go.fin (o := .returned (some (.int (Int32.ofNat i)))) (retI X2 hx Bd.returns (hb hby d_prog_16_method_19_104) hr) ?_
              rw [hP]
              refine ⟨hrun, hended, _, _, rfl, ?_, ⟨_, rfl⟩, hW, hsame.mono (by decide) (by decide)⟩
              show Q_skip Z a b i0 to mk ck h0 n0 _ T2.heap _
              rw [e2]
              have q : own_sk b to mk to i0 = some i := (by rw [own_sk_s] at hR; simp only [eq_true hc6_1, eq_true hc23_5, eq_true hc38_7, eq_true hc43_8, ↓reduceIte] at hR; exact hR.symm)
              have qb := own_sk_bd b to mk to i0 _ (by omega) q
              exact Or.inr ⟨_, q, qb.1, qb.2, rfl, N, rfl⟩
            · skip
              refine Go.pre (fun _ k => XS.icmpNo X2.here hx rfl (hb hby d_prog_16_method_19_43) rfl (feq (fun q => hc43_8 ((own_oe (a := mk) (b := 1) (by omega) (by omega)).mp q))).1 k) ?_
              show Go p e below _ (T2.setTop (mkF m 46 #[rv a, iv (Int32.ofNat i0), iv (Int32.ofNat to), iv (Int32.ofNat mk), iv (Int32.ofNat i)] []))
              refine Go.pre (fun _ k => XS.iload X2.here hx rfl (hb hby d_prog_16_method_19_46) rfl k) ?_
              show Go p e below _ (T2.setTop (mkF m 48 #[rv a, iv (Int32.ofNat i0), iv (Int32.ofNat to), iv (Int32.ofNat mk), iv (Int32.ofNat i)] [(.int (Int32.ofNat i))]))
              refine Go.pre (fun _ k => XS.iconst X2.here hx rfl (hb hby d_prog_16_method_19_48) k) ?_
              show Go p e below _ (T2.setTop (mkF m 49 #[rv a, iv (Int32.ofNat i0), iv (Int32.ofNat to), iv (Int32.ofNat mk), iv (Int32.ofNat i)] [(.int (2 : Int32)), (.int (Int32.ofNat i))]))
              refine Go.pre (fun _ k => XS.iadd X2.here hx rfl (hb hby d_prog_16_method_19_49) rfl k) ?_
              show Go p e below _ (T2.setTop (mkF m 50 #[rv a, iv (Int32.ofNat i0), iv (Int32.ofNat to), iv (Int32.ofNat mk), iv (Int32.ofNat i)] [(.int ((Int32.ofNat i) + (Int32.ofNat 2)))]))
              rw [own_oadd]
              show Go p e below _ (T2.setTop (mkF m 50 #[rv a, iv (Int32.ofNat i0), iv (Int32.ofNat to), iv (Int32.ofNat mk), iv (Int32.ofNat i)] [(.int (Int32.ofNat (i + 2)))]))
              refine Go.pre (fun _ k => XS.iloadN X2.here hx rfl (hb hby d_prog_16_method_19_50) rfl k) ?_
              show Go p e below _ (T2.setTop (mkF m 51 #[rv a, iv (Int32.ofNat i0), iv (Int32.ofNat to), iv (Int32.ofNat mk), iv (Int32.ofNat i)] [(.int (Int32.ofNat to)), (.int (Int32.ofNat (i + 2)))]))
              by_cases hc51_9 : i + 2 < to
              · skip
                refine Go.pre (fun _ k => XS.icmpNo X2.here hx rfl (hb hby d_prog_16_method_19_51) rfl (tlt ((own_ol (a := i + 2) (b := to) (by omega) (by omega)).mpr hc51_9)).2.1 k) ?_
                show Go p e below _ (T2.setTop (mkF m 54 #[rv a, iv (Int32.ofNat i0), iv (Int32.ofNat to), iv (Int32.ofNat mk), iv (Int32.ofNat i)] []))
                obtain ⟨T10, X10, e10, st10⟩ := getS2 X2 hx hZ hown (host := "") (Or.inl (hw _ (List.mem_of_getElem? (i := 12) rfl))) Via.refl e2 SK (g := (mkF m 54 #[rv a, iv (Int32.ofNat i0), iv (Int32.ofNat to), iv (Int32.ofNat mk), iv (Int32.ofNat i)] [])) rfl (hb hby d_prog_16_method_19_54)
                refine Go.pre st10 ?_
                show Go p e below _ (T10.setTop (mkF m 57 #[rv a, iv (Int32.ofNat i0), iv (Int32.ofNat to), iv (Int32.ofNat mk), iv (Int32.ofNat i)] [(.ref ck)]))
                refine Go.pre (fun _ k => XS.aloadN X10.here hx rfl (hb hby d_prog_16_method_19_57) rfl rfl k) ?_
                show Go p e below _ (T10.setTop (mkF m 58 #[rv a, iv (Int32.ofNat i0), iv (Int32.ofNat to), iv (Int32.ofNat mk), iv (Int32.ofNat i)] [(.ref a), (.ref ck)]))
                refine Go.pre (fun _ k => XS.iload X10.here hx rfl (hb hby d_prog_16_method_19_58) rfl k) ?_
                show Go p e below _ (T10.setTop (mkF m 60 #[rv a, iv (Int32.ofNat i0), iv (Int32.ofNat to), iv (Int32.ofNat mk), iv (Int32.ofNat i)] [(.int (Int32.ofNat i)), (.ref a), (.ref ck)]))
                refine Go.pre (fun _ k => XS.iconst X10.here hx rfl (hb hby d_prog_16_method_19_60) k) ?_
                show Go p e below _ (T10.setTop (mkF m 61 #[rv a, iv (Int32.ofNat i0), iv (Int32.ofNat to), iv (Int32.ofNat mk), iv (Int32.ofNat i)] [(.int (1 : Int32)), (.int (Int32.ofNat i)), (.ref a), (.ref ck)]))
                refine Go.pre (fun _ k => XS.iadd X10.here hx rfl (hb hby d_prog_16_method_19_61) rfl k) ?_
                show Go p e below _ (T10.setTop (mkF m 62 #[rv a, iv (Int32.ofNat i0), iv (Int32.ofNat to), iv (Int32.ofNat mk), iv (Int32.ofNat i)] [(.int ((Int32.ofNat i) + (Int32.ofNat 1))), (.ref a), (.ref ck)]))
                rw [own_oadd]
                show Go p e below _ (T10.setTop (mkF m 62 #[rv a, iv (Int32.ofNat i0), iv (Int32.ofNat to), iv (Int32.ofNat mk), iv (Int32.ofNat i)] [(.int (Int32.ofNat (i + 1))), (.ref a), (.ref ck)]))
                obtain ⟨cl11, Ar11, R11⟩ := id B
                obtain ⟨hin11, hat11⟩ := R11 (i + 1) (by omega) (by omega)
                refine Go.pre (X10.baloadBytes hx (j := (Int32.ofNat (i + 1))) (v := .int (own_sb (b (i + 1)))) (by rw [e10]; exact Ar11.1) (State.isArrayOf_alike hZ.alike Ar11.2.1) Ar11.2.2 hin11 hat11 (g := (mkF m 62 #[rv a, iv (Int32.ofNat i0), iv (Int32.ofNat to), iv (Int32.ofNat mk), iv (Int32.ofNat i)] [(.int (Int32.ofNat (i + 1))), (.ref a), (.ref ck)])) rfl rfl (hb hby d_prog_16_method_19_62)) ?_
                show Go p e below _ (T10.setTop (mkF m 63 #[rv a, iv (Int32.ofNat i0), iv (Int32.ofNat to), iv (Int32.ofNat mk), iv (Int32.ofNat i)] [(.int (own_sb (b (i + 1)))), (.ref ck)]))
                refine Go.pre (fun _ k => XS.sipush X10.here hx rfl (hb hby d_prog_16_method_19_63) k) ?_
                show Go p e below _ (T10.setTop (mkF m 66 #[rv a, iv (Int32.ofNat i0), iv (Int32.ofNat to), iv (Int32.ofNat mk), iv (Int32.ofNat i)] [(.int (255 : Int32)), (.int (own_sb (b (i + 1)))), (.ref ck)]))
                refine Go.pre (fun _ k => XS.iand X10.here hx rfl (hb hby d_prog_16_method_19_66) rfl k) ?_
                show Go p e below _ (T10.setTop (mkF m 67 #[rv a, iv (Int32.ofNat i0), iv (Int32.ofNat to), iv (Int32.ofNat mk), iv (Int32.ofNat i)] [(.int ((own_sb (b (i + 1))) &&& (255 : Int32))), (.ref ck)]))
                rw [own_sbm (hB _)]
                show Go p e below _ (T10.setTop (mkF m 67 #[rv a, iv (Int32.ofNat i0), iv (Int32.ofNat to), iv (Int32.ofNat mk), iv (Int32.ofNat i)] [(.int (Int32.ofNat (b (i + 1)))), (.ref ck)]))
                obtain ⟨cl12, Ar12, R12⟩ := id KD
                obtain ⟨hin12, hat12⟩ := R12 (b (i + 1)) (hB _)
                refine Go.pre (X10.iaload hx (j := (Int32.ofNat (b (i + 1)))) (v := .int (Int32.ofNat (own_kd (b (i + 1))))) (by rw [e10]; exact Ar12.1) (State.isArrayOf_alike hZ.alike Ar12.2.1) Ar12.2.2 hin12 hat12 (g := (mkF m 67 #[rv a, iv (Int32.ofNat i0), iv (Int32.ofNat to), iv (Int32.ofNat mk), iv (Int32.ofNat i)] [(.int (Int32.ofNat (b (i + 1)))), (.ref ck)])) rfl rfl (hb hby d_prog_16_method_19_67)) ?_
                show Go p e below _ (T10.setTop (mkF m 68 #[rv a, iv (Int32.ofNat i0), iv (Int32.ofNat to), iv (Int32.ofNat mk), iv (Int32.ofNat i)] [(.int (Int32.ofNat (own_kd (b (i + 1)))))]))
                refine Go.pre (fun _ k => XS.bipush X10.here hx rfl (hb hby d_prog_16_method_19_68) k) ?_
                show Go p e below _ (T10.setTop (mkF m 70 #[rv a, iv (Int32.ofNat i0), iv (Int32.ofNat to), iv (Int32.ofNat mk), iv (Int32.ofNat i)] [(.int (16 : Int32)), (.int (Int32.ofNat (own_kd (b (i + 1)))))]))
                refine Go.pre (fun _ k => XS.iand X10.here hx rfl (hb hby d_prog_16_method_19_70) rfl k) ?_
                show Go p e below _ (T10.setTop (mkF m 71 #[rv a, iv (Int32.ofNat i0), iv (Int32.ofNat to), iv (Int32.ofNat mk), iv (Int32.ofNat i)] [(.int ((Int32.ofNat (own_kd (b (i + 1)))) &&& (Int32.ofNat 16)))]))
                rw [own_oand]
                show Go p e below _ (T10.setTop (mkF m 71 #[rv a, iv (Int32.ofNat i0), iv (Int32.ofNat to), iv (Int32.ofNat mk), iv (Int32.ofNat i)] [(.int (Int32.ofNat (own_kd (b (i + 1)) &&& 16)))]))
                by_cases hc71_13 : own_kd (b (i + 1)) &&& 16 = 0
                · skip
                  refine Go.pre (fun _ k => XS.ifYes X10.here hx rfl (pc0 := 71) (pc' := 94) rfl (hb hby d_prog_16_method_19_71) rfl ((if0 _ _).trans (teq ((own_oe (a := own_kd (b (i + 1)) &&& 16) (b := 0) (Nat.lt_of_le_of_lt Nat.and_le_right (by omega)) (by omega)).mpr hc71_13)).1) (by decide) (by decide) k) ?_
                  show Go p e below _ (T10.setTop (mkF m 94 #[rv a, iv (Int32.ofNat i0), iv (Int32.ofNat to), iv (Int32.ofNat mk), iv (Int32.ofNat i)] []))
                  refine Go.pre (fun _ k => XS.iconst X10.here hx rfl (hb hby d_prog_16_method_19_94) k) ?_
                  show Go p e below _ (T10.setTop (mkF m 95 #[rv a, iv (Int32.ofNat i0), iv (Int32.ofNat to), iv (Int32.ofNat mk), iv (Int32.ofNat i)] [(.int (-1 : Int32))]))
                  obtain ⟨fs, hr, hrun, hended, hW, hsame⟩ := X10.leave (v := some (.int (-1 : Int32))) (fun h => by rw [Bd.returns] at h; cases h)
                  refine Go.fin (o := .returned (some (.int (-1 : Int32)))) (retI X10 hx Bd.returns (hb hby d_prog_16_method_19_95) hr) ?_
                  rw [hP]
                  refine ⟨hrun, hended, _, _, rfl, ?_, ⟨_, rfl⟩, hW, hsame.mono (by decide) (by decide)⟩
                  show Q_skip Z a b i0 to mk ck h0 n0 _ T10.heap _
                  rw [e10]
                  exact Or.inl ⟨(by rw [own_sk_s] at hR; simp only [eq_true hc6_1, eq_true hc23_5, eq_true hc38_7, eq_false hc43_8, eq_true hc51_9, eq_true hc71_13, ↓reduceIte] at hR; exact hR.symm), rfl, N, rfl⟩
                · skip
                  refine Go.pre (fun _ k => XS.ifNo X10.here hx rfl (hb hby d_prog_16_method_19_71) rfl ((if0 _ _).trans (feq (fun q => hc71_13 ((own_oe (a := own_kd (b (i + 1)) &&& 16) (b := 0) (Nat.lt_of_le_of_lt Nat.and_le_right (by omega)) (by omega)).mp q))).1) k) ?_
                  show Go p e below _ (T10.setTop (mkF m 74 #[rv a, iv (Int32.ofNat i0), iv (Int32.ofNat to), iv (Int32.ofNat mk), iv (Int32.ofNat i)] []))
                  obtain ⟨T14, X14, e14, st14⟩ := getS2 X10 hx hZ hown (host := "") (Or.inl (hw _ (List.mem_of_getElem? (i := 12) rfl))) Via.refl e10 SK (g := (mkF m 74 #[rv a, iv (Int32.ofNat i0), iv (Int32.ofNat to), iv (Int32.ofNat mk), iv (Int32.ofNat i)] [])) rfl (hb hby d_prog_16_method_19_74)
                  refine Go.pre st14 ?_
                  show Go p e below _ (T14.setTop (mkF m 77 #[rv a, iv (Int32.ofNat i0), iv (Int32.ofNat to), iv (Int32.ofNat mk), iv (Int32.ofNat i)] [(.ref ck)]))
                  refine Go.pre (fun _ k => XS.aloadN X14.here hx rfl (hb hby d_prog_16_method_19_77) rfl rfl k) ?_
                  show Go p e below _ (T14.setTop (mkF m 78 #[rv a, iv (Int32.ofNat i0), iv (Int32.ofNat to), iv (Int32.ofNat mk), iv (Int32.ofNat i)] [(.ref a), (.ref ck)]))
                  refine Go.pre (fun _ k => XS.iload X14.here hx rfl (hb hby d_prog_16_method_19_78) rfl k) ?_
                  show Go p e below _ (T14.setTop (mkF m 80 #[rv a, iv (Int32.ofNat i0), iv (Int32.ofNat to), iv (Int32.ofNat mk), iv (Int32.ofNat i)] [(.int (Int32.ofNat i)), (.ref a), (.ref ck)]))
                  refine Go.pre (fun _ k => XS.iconst X14.here hx rfl (hb hby d_prog_16_method_19_80) k) ?_
                  show Go p e below _ (T14.setTop (mkF m 81 #[rv a, iv (Int32.ofNat i0), iv (Int32.ofNat to), iv (Int32.ofNat mk), iv (Int32.ofNat i)] [(.int (2 : Int32)), (.int (Int32.ofNat i)), (.ref a), (.ref ck)]))
                  refine Go.pre (fun _ k => XS.iadd X14.here hx rfl (hb hby d_prog_16_method_19_81) rfl k) ?_
                  show Go p e below _ (T14.setTop (mkF m 82 #[rv a, iv (Int32.ofNat i0), iv (Int32.ofNat to), iv (Int32.ofNat mk), iv (Int32.ofNat i)] [(.int ((Int32.ofNat i) + (Int32.ofNat 2))), (.ref a), (.ref ck)]))
                  rw [own_oadd]
                  show Go p e below _ (T14.setTop (mkF m 82 #[rv a, iv (Int32.ofNat i0), iv (Int32.ofNat to), iv (Int32.ofNat mk), iv (Int32.ofNat i)] [(.int (Int32.ofNat (i + 2))), (.ref a), (.ref ck)]))
                  obtain ⟨cl15, Ar15, R15⟩ := id B
                  obtain ⟨hin15, hat15⟩ := R15 (i + 2) (by omega) (by omega)
                  refine Go.pre (X14.baloadBytes hx (j := (Int32.ofNat (i + 2))) (v := .int (own_sb (b (i + 2)))) (by rw [e14]; exact Ar15.1) (State.isArrayOf_alike hZ.alike Ar15.2.1) Ar15.2.2 hin15 hat15 (g := (mkF m 82 #[rv a, iv (Int32.ofNat i0), iv (Int32.ofNat to), iv (Int32.ofNat mk), iv (Int32.ofNat i)] [(.int (Int32.ofNat (i + 2))), (.ref a), (.ref ck)])) rfl rfl (hb hby d_prog_16_method_19_82)) ?_
                  show Go p e below _ (T14.setTop (mkF m 83 #[rv a, iv (Int32.ofNat i0), iv (Int32.ofNat to), iv (Int32.ofNat mk), iv (Int32.ofNat i)] [(.int (own_sb (b (i + 2)))), (.ref ck)]))
                  refine Go.pre (fun _ k => XS.sipush X14.here hx rfl (hb hby d_prog_16_method_19_83) k) ?_
                  show Go p e below _ (T14.setTop (mkF m 86 #[rv a, iv (Int32.ofNat i0), iv (Int32.ofNat to), iv (Int32.ofNat mk), iv (Int32.ofNat i)] [(.int (255 : Int32)), (.int (own_sb (b (i + 2)))), (.ref ck)]))
                  refine Go.pre (fun _ k => XS.iand X14.here hx rfl (hb hby d_prog_16_method_19_86) rfl k) ?_
                  show Go p e below _ (T14.setTop (mkF m 87 #[rv a, iv (Int32.ofNat i0), iv (Int32.ofNat to), iv (Int32.ofNat mk), iv (Int32.ofNat i)] [(.int ((own_sb (b (i + 2))) &&& (255 : Int32))), (.ref ck)]))
                  rw [own_sbm (hB _)]
                  show Go p e below _ (T14.setTop (mkF m 87 #[rv a, iv (Int32.ofNat i0), iv (Int32.ofNat to), iv (Int32.ofNat mk), iv (Int32.ofNat i)] [(.int (Int32.ofNat (b (i + 2)))), (.ref ck)]))
                  obtain ⟨cl16, Ar16, R16⟩ := id KD
                  obtain ⟨hin16, hat16⟩ := R16 (b (i + 2)) (hB _)
                  refine Go.pre (X14.iaload hx (j := (Int32.ofNat (b (i + 2)))) (v := .int (Int32.ofNat (own_kd (b (i + 2))))) (by rw [e14]; exact Ar16.1) (State.isArrayOf_alike hZ.alike Ar16.2.1) Ar16.2.2 hin16 hat16 (g := (mkF m 87 #[rv a, iv (Int32.ofNat i0), iv (Int32.ofNat to), iv (Int32.ofNat mk), iv (Int32.ofNat i)] [(.int (Int32.ofNat (b (i + 2)))), (.ref ck)])) rfl rfl (hb hby d_prog_16_method_19_87)) ?_
                  show Go p e below _ (T14.setTop (mkF m 88 #[rv a, iv (Int32.ofNat i0), iv (Int32.ofNat to), iv (Int32.ofNat mk), iv (Int32.ofNat i)] [(.int (Int32.ofNat (own_kd (b (i + 2)))))]))
                  refine Go.pre (fun _ k => XS.bipush X14.here hx rfl (hb hby d_prog_16_method_19_88) k) ?_
                  show Go p e below _ (T14.setTop (mkF m 90 #[rv a, iv (Int32.ofNat i0), iv (Int32.ofNat to), iv (Int32.ofNat mk), iv (Int32.ofNat i)] [(.int (16 : Int32)), (.int (Int32.ofNat (own_kd (b (i + 2)))))]))
                  refine Go.pre (fun _ k => XS.iand X14.here hx rfl (hb hby d_prog_16_method_19_90) rfl k) ?_
                  show Go p e below _ (T14.setTop (mkF m 91 #[rv a, iv (Int32.ofNat i0), iv (Int32.ofNat to), iv (Int32.ofNat mk), iv (Int32.ofNat i)] [(.int ((Int32.ofNat (own_kd (b (i + 2)))) &&& (Int32.ofNat 16)))]))
                  rw [own_oand]
                  show Go p e below _ (T14.setTop (mkF m 91 #[rv a, iv (Int32.ofNat i0), iv (Int32.ofNat to), iv (Int32.ofNat mk), iv (Int32.ofNat i)] [(.int (Int32.ofNat (own_kd (b (i + 2)) &&& 16)))]))
                  by_cases hc91_17 : own_kd (b (i + 2)) &&& 16 = 0
                  · skip
                    refine Go.pre (fun _ k => XS.ifNo X14.here hx rfl (hb hby d_prog_16_method_19_91) rfl ((if0 _ _).trans (teq ((own_oe (a := own_kd (b (i + 2)) &&& 16) (b := 0) (Nat.lt_of_le_of_lt Nat.and_le_right (by omega)) (by omega)).mpr hc91_17)).2) k) ?_
                    show Go p e below _ (T14.setTop (mkF m 94 #[rv a, iv (Int32.ofNat i0), iv (Int32.ofNat to), iv (Int32.ofNat mk), iv (Int32.ofNat i)] []))
                    refine Go.pre (fun _ k => XS.iconst X14.here hx rfl (hb hby d_prog_16_method_19_94) k) ?_
                    show Go p e below _ (T14.setTop (mkF m 95 #[rv a, iv (Int32.ofNat i0), iv (Int32.ofNat to), iv (Int32.ofNat mk), iv (Int32.ofNat i)] [(.int (-1 : Int32))]))
                    obtain ⟨fs, hr, hrun, hended, hW, hsame⟩ := X14.leave (v := some (.int (-1 : Int32))) (fun h => by rw [Bd.returns] at h; cases h)
                    refine Go.fin (o := .returned (some (.int (-1 : Int32)))) (retI X14 hx Bd.returns (hb hby d_prog_16_method_19_95) hr) ?_
                    rw [hP]
                    refine ⟨hrun, hended, _, _, rfl, ?_, ⟨_, rfl⟩, hW, hsame.mono (by decide) (by decide)⟩
                    show Q_skip Z a b i0 to mk ck h0 n0 _ T14.heap _
                    rw [e14]
                    exact Or.inl ⟨(by rw [own_sk_s] at hR; simp only [eq_true hc6_1, eq_true hc23_5, eq_true hc38_7, eq_false hc43_8, eq_true hc51_9, eq_false hc71_13, eq_true hc91_17, ↓reduceIte] at hR; exact hR.symm), rfl, N, rfl⟩
                  · skip
                    refine Go.pre (fun _ k => XS.ifYes X14.here hx rfl (pc0 := 91) (pc' := 96) rfl (hb hby d_prog_16_method_19_91) rfl ((if0 _ _).trans (feq (fun q => hc91_17 ((own_oe (a := own_kd (b (i + 2)) &&& 16) (b := 0) (Nat.lt_of_le_of_lt Nat.and_le_right (by omega)) (by omega)).mp q))).2) (by decide) (by decide) k) ?_
                    show Go p e below _ (T14.setTop (mkF m 96 #[rv a, iv (Int32.ofNat i0), iv (Int32.ofNat to), iv (Int32.ofNat mk), iv (Int32.ofNat i)] []))
                    refine Go.pre (fun _ k => XS.iinc X14.here hx rfl (hb hby d_prog_16_method_19_96) rfl (l' := #[rv a, iv (Int32.ofNat i0), iv (Int32.ofNat to), iv (Int32.ofNat mk), iv ((Int32.ofNat i) + (Int32.ofNat 3))]) rfl k) ?_
                    show Go p e below _ (T14.setTop (mkF m 99 #[rv a, iv (Int32.ofNat i0), iv (Int32.ofNat to), iv (Int32.ofNat mk), iv ((Int32.ofNat i) + (Int32.ofNat 3))] []))
                    rw [own_oadd]
                    show Go p e below _ (T14.setTop (mkF m 99 #[rv a, iv (Int32.ofNat i0), iv (Int32.ofNat to), iv (Int32.ofNat mk), iv (Int32.ofNat (i + 3))] []))
                    refine Go.pre (fun _ k => XS.goto X14.here hx rfl (pc0 := 99) (pc' := 3) rfl (hb hby d_prog_16_method_19_99) (by decide) (by decide) k) ?_
                    exact ih (i + 3) (by omega) (by omega) (by omega) (by rw [own_sk_s] at hR; simp only [eq_true hc6_1, eq_true hc23_5, eq_true hc38_7, eq_false hc43_8, eq_true hc51_9, eq_false hc71_13, eq_false hc91_17, ↓reduceIte] at hR; exact hR) _ _ X14 N e14
              · skip
                refine Go.pre (fun _ k => XS.icmpYes X2.here hx rfl (pc0 := 51) (pc' := 94) rfl (hb hby d_prog_16_method_19_51) rfl (flt (fun q => hc51_9 ((own_ol (a := i + 2) (b := to) (by omega) (by omega)).mp q))).2.1 (by decide) (by decide) k) ?_
                show Go p e below _ (T2.setTop (mkF m 94 #[rv a, iv (Int32.ofNat i0), iv (Int32.ofNat to), iv (Int32.ofNat mk), iv (Int32.ofNat i)] []))
                refine Go.pre (fun _ k => XS.iconst X2.here hx rfl (hb hby d_prog_16_method_19_94) k) ?_
                show Go p e below _ (T2.setTop (mkF m 95 #[rv a, iv (Int32.ofNat i0), iv (Int32.ofNat to), iv (Int32.ofNat mk), iv (Int32.ofNat i)] [(.int (-1 : Int32))]))
                obtain ⟨fs, hr, hrun, hended, hW, hsame⟩ := X2.leave (v := some (.int (-1 : Int32))) (fun h => by rw [Bd.returns] at h; cases h)
                refine Go.fin (o := .returned (some (.int (-1 : Int32)))) (retI X2 hx Bd.returns (hb hby d_prog_16_method_19_95) hr) ?_
                rw [hP]
                refine ⟨hrun, hended, _, _, rfl, ?_, ⟨_, rfl⟩, hW, hsame.mono (by decide) (by decide)⟩
                show Q_skip Z a b i0 to mk ck h0 n0 _ T2.heap _
                rw [e2]
                exact Or.inl ⟨(by rw [own_sk_s] at hR; simp only [eq_true hc6_1, eq_true hc23_5, eq_true hc38_7, eq_false hc43_8, eq_false hc51_9, ↓reduceIte] at hR; exact hR.symm), rfl, N, rfl⟩
          · skip
            refine Go.pre (fun _ k => XS.icmpYes X2.here hx rfl (pc0 := 38) (pc' := 102) rfl (hb hby d_prog_16_method_19_38) rfl (feq (fun q => hc38_7 ((own_sbe (u := b i) (k := 37) (hB _) (by omega)).mp q))).2 (by decide) (by decide) k) ?_
            show Go p e below _ (T2.setTop (mkF m 102 #[rv a, iv (Int32.ofNat i0), iv (Int32.ofNat to), iv (Int32.ofNat mk), iv (Int32.ofNat i)] []))
            refine Go.pre (fun _ k => XS.iload X2.here hx rfl (hb hby d_prog_16_method_19_102) rfl k) ?_
            show Go p e below _ (T2.setTop (mkF m 104 #[rv a, iv (Int32.ofNat i0), iv (Int32.ofNat to), iv (Int32.ofNat mk), iv (Int32.ofNat i)] [(.int (Int32.ofNat i))]))
            obtain ⟨fs, hr, hrun, hended, hW, hsame⟩ := X2.leave (v := some (.int (Int32.ofNat i))) (fun h => by rw [Bd.returns] at h; cases h)
            refine Go.fin (o := .returned (some (.int (Int32.ofNat i)))) (retI X2 hx Bd.returns (hb hby d_prog_16_method_19_104) hr) ?_
            rw [hP]
            refine ⟨hrun, hended, _, _, rfl, ?_, ⟨_, rfl⟩, hW, hsame.mono (by decide) (by decide)⟩
            show Q_skip Z a b i0 to mk ck h0 n0 _ T2.heap _
            rw [e2]
            have q : own_sk b to mk to i0 = some i := (by rw [own_sk_s] at hR; simp only [eq_true hc6_1, eq_true hc23_5, eq_false hc38_7, ↓reduceIte] at hR; exact hR.symm)
            have qb := own_sk_bd b to mk to i0 _ (by omega) q
            exact Or.inr ⟨_, q, qb.1, qb.2, rfl, N, rfl⟩
        · skip
          refine Go.pre (fun _ k => XS.ifNo X2.here hx rfl (hb hby d_prog_16_method_19_23) rfl ((if0 _ _).trans (feq (fun q => hc23_5 ((own_oe (a := own_kd (b i) &&& mk) (b := 0) (Nat.lt_of_le_of_lt Nat.and_le_right (by omega)) (by omega)).mp q))).1) k) ?_
          show Go p e below _ (T2.setTop (mkF m 26 #[rv a, iv (Int32.ofNat i0), iv (Int32.ofNat to), iv (Int32.ofNat mk), iv (Int32.ofNat i)] []))
          refine Go.pre (fun _ k => XS.iinc X2.here hx rfl (hb hby d_prog_16_method_19_26) rfl (l' := #[rv a, iv (Int32.ofNat i0), iv (Int32.ofNat to), iv (Int32.ofNat mk), iv ((Int32.ofNat i) + (Int32.ofNat 1))]) rfl k) ?_
          show Go p e below _ (T2.setTop (mkF m 29 #[rv a, iv (Int32.ofNat i0), iv (Int32.ofNat to), iv (Int32.ofNat mk), iv ((Int32.ofNat i) + (Int32.ofNat 1))] []))
          rw [own_oadd]
          show Go p e below _ (T2.setTop (mkF m 29 #[rv a, iv (Int32.ofNat i0), iv (Int32.ofNat to), iv (Int32.ofNat mk), iv (Int32.ofNat (i + 1))] []))
          refine Go.pre (fun _ k => XS.goto X2.here hx rfl (pc0 := 29) (pc' := 3) rfl (hb hby d_prog_16_method_19_29) (by decide) (by decide) k) ?_
          exact ih (i + 1) (by omega) (by omega) (by omega) (by rw [own_sk_s] at hR; simp only [eq_true hc6_1, eq_false hc23_5, ↓reduceIte] at hR; exact hR) _ _ X2 N e2
      · skip
        refine Go.pre (fun _ k => XS.icmpYes X.here hx rfl (pc0 := 6) (pc' := 105) rfl (hb hby d_prog_16_method_19_6) rfl (flt (fun q => hc6_1 ((own_ol (a := i) (b := to) (by omega) (by omega)).mp q))).2.1 (by decide) (by decide) k) ?_
        show Go p e below _ (T.setTop (mkF m 105 #[rv a, iv (Int32.ofNat i0), iv (Int32.ofNat to), iv (Int32.ofNat mk), iv (Int32.ofNat i)] []))
        refine Go.pre (fun _ k => XS.iload X.here hx rfl (hb hby d_prog_16_method_19_105) rfl k) ?_
        show Go p e below _ (T.setTop (mkF m 107 #[rv a, iv (Int32.ofNat i0), iv (Int32.ofNat to), iv (Int32.ofNat mk), iv (Int32.ofNat i)] [(.int (Int32.ofNat i))]))
        obtain ⟨fs, hr, hrun, hended, hW, hsame⟩ := X.leave (v := some (.int (Int32.ofNat i))) (fun h => by rw [Bd.returns] at h; cases h)
        refine Go.fin (o := .returned (some (.int (Int32.ofNat i)))) (retI X hx Bd.returns (hb hby d_prog_16_method_19_107) hr) ?_
        rw [hP]
        refine ⟨hrun, hended, _, _, rfl, ?_, ⟨_, rfl⟩, hW, hsame.mono (by decide) (by decide)⟩
        show Q_skip Z a b i0 to mk ck h0 n0 _ T.heap _
        rw [eT]
        have q : own_sk b to mk to i0 = some i := (by rw [own_sk_s] at hR; simp only [eq_false hc6_1, ↓reduceIte] at hR; exact hR.symm)
        have qb := own_sk_bd b to mk to i0 _ (by omega) q
        exact Or.inr ⟨_, q, qb.1, qb.2, rfl, N, rfl⟩
  show Go p e below _ (s₁.setTop (mkF m 0 #[rv a, iv (Int32.ofNat i0), iv (Int32.ofNat to), iv (Int32.ofNat mk), .unset] []))
  refine Go.pre (fun _ k => XS.iloadN X0.here hx rfl (hb hby d_prog_16_method_19_0) rfl k) ?_
  show Go p e below _ (s₁.setTop (mkF m 1 #[rv a, iv (Int32.ofNat i0), iv (Int32.ofNat to), iv (Int32.ofNat mk), .unset] [(.int (Int32.ofNat i0))]))
  refine Go.pre (fun _ k => XS.istore X0.here hx rfl (hb hby d_prog_16_method_19_1) rfl (l' := #[rv a, iv (Int32.ofNat i0), iv (Int32.ofNat to), iv (Int32.ofNat mk), iv (Int32.ofNat i0)]) rfl k) ?_
  exact J3 to i0 (by omega) (by omega) (by omega) rfl _ _ X0 N0 e0

theorem ef_plain (m : MethodId) (x0 : Addr) (x1 : Int32) (x2 : Int32) : entryFrame m #[(.ref x0), (.int x1), (.int x2)] 6 = mkF m 0 #[rv x0, iv x1, iv x2, .unset, .unset, .unset] [] := by first | (simp [entryFrame, mkF, argsToLocals, Value.category]; done) | rfl
theorem pn_plain : plainName "com/example/entayl/entayl/input/IriTable" = true := by first | (simp [plainName, overriddenIn]; done) | decide +kernel
def Q_plain (Z : State) (a : Addr) (b : Nat → Nat) (to : Nat) (ck : Addr) (h0 : Heap) (n0 : Nat) (v : Option Value) (h : Heap) (L : List Loc) : Prop := (own_plain b 1 to = true ∧ v = some (.int 1) ∧ Fr n0 L ∧ h = h0) ∨ (¬ own_plain b 1 to = true ∧ v = some (.int 0) ∧ Fr n0 L ∧ h = h0)
set_option maxRecDepth 65536 in
set_option maxHeartbeats 40000000 in
theorem rm_plain (l : Launch) (Z : State) (a0 : Array Value) (hw : ∀ d ∈ tables_1, d.before a0 Z = true) (ws : List Jvm.Cond) (a : Addr) (b : Nat → Nat) (to : Nat) (ck : Addr) (h0 : Heap) (n0 : Nat) (Z0 : n0 ≤ h0.size) (B : Byt Z h0 a b to) (hB : ∀ i, b i < 256) (hto : to ≤ 64) (SK : Sta Z h0 "com/example/entayl/entayl/input/IriTable" "KINDS" "[I" (.ref ck)) (KD : Kds Z h0 ck) (hto1 : 1 ≤ to) :
    MetFree l (⟨"com/example/entayl/entayl/input/IriTable", "isPlainIri", "([BII)Z"⟩ : MethodName) (head1 (Jvm.Cond.code (⟨"com/example/entayl/entayl/input/IriTable", "isPlainIri", "([BII)Z"⟩ : MethodName) prog_16_method_18_code 6 (some .boolean) :: ws) ({ frames := 1, cells := 0, slots := 0, locals := 16 } : Room)) (fun as_ U => as_ = #[(.ref a), (.int (1 : Int32)), (.int (Int32.ofNat to))] ∧ Z.Warmed39 U.vm ∧ U.heap = h0) (fun _ _ _ _ _ => True) (fun _ U o U' => ∃ v L, o = .returned v ∧ Q_plain Z a b to ck h0 n0 v U'.heap L ∧ FrameEnd U o U' L ({ frames := 1, cells := 0, slots := 0, locals := 16 } : Room).cells ({ frames := 1, cells := 0, slots := 0, locals := 16 } : Room).slots) := by
  refine MetFree.of_bodySF (plainFor_of_name pn_plain) hisR ?_
  intro p e s m args below meth c s₁ Bd hml0 hP hK
  obtain ⟨rfl, hZ, hh⟩ := hP
  have hx := Bd.exec
  have hby := Bd.bytes
  have hml : c.maxLocals = 6 := hml0
  have hown : s.vm.findClass "com/example/entayl/entayl/input/IriTable" = some m.cls := findClass_of_methodNamed Bd.named
  have hnm := (name_of_methodNamed Bd.named Bd.method).1
  have X0 : Stand p l e ({ frames := 1, cells := 0, slots := 0, locals := 16 } : Room) s m #[(.ref a), (.int (1 : Int32)), (.int (Int32.ofNat to))] below meth c s₁ [] 0 0 := Stand.of_body Bd
  have e0 : s₁.heap = h0 := by rw [← hh, Bd.state]; rfl
  have N0 := Fr.nil n0
  refine Go.out ?_
  refine Go.pre (fun t k => castTop (ef_plain m a (1 : Int32) (Int32.ofNat to)) k) ?_
  refine Go.named fun P hP => ?_
  obtain ⟨RR, hRR⟩ : ∃ r, r = own_plain b 1 to := ⟨_, rfl⟩
  have J242n : ∀ (s4 s5 : Slot) (T : State) (locs : List Loc), Stand p l e ({ frames := 1, cells := 0, slots := 0, locals := 16 } : Room) s m #[(.ref a), (.int (1 : Int32)), (.int (Int32.ofNat to))] below meth c T locs 0 0 → Fr n0 locs → T.heap = h0 → own_f242 b to none = RR → Go p e below P (T.setTop (mkF m 242 #[rv a, iv (1 : Int32), iv (Int32.ofNat to), iv (-1 : Int32), s4, s5] [])) := by
    intro s4 s5 T locs X N eT hR
    show Go p e below _ (T.setTop (mkF m 242 #[rv a, iv (1 : Int32), iv (Int32.ofNat to), iv (-1 : Int32), s4, s5] []))
    refine Go.pre (fun _ k => XS.iloadN X.here hx rfl (hb hby d_prog_16_method_18_242) rfl k) ?_
    show Go p e below _ (T.setTop (mkF m 243 #[rv a, iv (1 : Int32), iv (Int32.ofNat to), iv (-1 : Int32), s4, s5] [(.int (-1 : Int32))]))
    refine Go.pre (fun _ k => XS.ifYes X.here hx rfl (pc0 := 243) (pc' := 270) rfl (hb hby d_prog_16_method_18_243) rfl ((if0 _ _).trans (tlt (by decide : (-1 : Int32) < (0 : Int32))).1) (by decide) (by decide) k) ?_
    show Go p e below _ (T.setTop (mkF m 270 #[rv a, iv (1 : Int32), iv (Int32.ofNat to), iv (-1 : Int32), s4, s5] []))
    refine Go.pre (fun _ k => XS.iloadN X.here hx rfl (hb hby d_prog_16_method_18_270) rfl k) ?_
    show Go p e below _ (T.setTop (mkF m 271 #[rv a, iv (1 : Int32), iv (Int32.ofNat to), iv (-1 : Int32), s4, s5] [(.int (-1 : Int32))]))
    refine Go.pre (fun _ k => XS.iloadN X.here hx rfl (hb hby d_prog_16_method_18_271) rfl k) ?_
    show Go p e below _ (T.setTop (mkF m 272 #[rv a, iv (1 : Int32), iv (Int32.ofNat to), iv (-1 : Int32), s4, s5] [(.int (Int32.ofNat to)), (.int (-1 : Int32))]))
    refine Go.pre (fun _ k => XS.icmpYes X.here hx rfl (pc0 := 272) (pc' := 279) rfl (hb hby d_prog_16_method_18_272) rfl (feq (own_m1 (by omega))).2 (by decide) (by decide) k) ?_
    show Go p e below _ (T.setTop (mkF m 279 #[rv a, iv (1 : Int32), iv (Int32.ofNat to), iv (-1 : Int32), s4, s5] []))
    refine Go.pre (fun _ k => XS.iconst X.here hx rfl (hb hby d_prog_16_method_18_279) k) ?_
    show Go p e below _ (T.setTop (mkF m 280 #[rv a, iv (1 : Int32), iv (Int32.ofNat to), iv (-1 : Int32), s4, s5] [(.int (0 : Int32))]))
    obtain ⟨fs, hr, hrun, hended, hW, hsame⟩ := X.leave (v := some (.int (0 : Int32))) (fun h => by rw [Bd.returns] at h; cases h)
    refine Go.fin (o := .returned (some (.int (0 : Int32)))) (retN X hx (t := .boolean) Bd.returns (by simp) (hb hby d_prog_16_method_18_280) hr) ?_
    rw [hP]
    refine ⟨hrun, hended, _, _, rfl, ?_, ⟨_, rfl⟩, hW, hsame.mono (by decide) (by decide)⟩
    show Q_plain Z a b to ck h0 n0 _ T.heap _
    rw [eT]
    have q : RR = false := (by simp only [own_f242, own_f270, ↓reduceIte] at hR; exact hR.symm)
    exact Or.inr ⟨(fun z => by rw [← hRR, q] at z; cases z), rfl, N, rfl⟩
  have J242 : ∀ (i : Nat) (s4 s5 : Slot) (T : State) (locs : List Loc), Stand p l e ({ frames := 1, cells := 0, slots := 0, locals := 16 } : Room) s m #[(.ref a), (.int (1 : Int32)), (.int (Int32.ofNat to))] below meth c T locs 0 0 → Fr n0 locs → T.heap = h0 → 1 ≤ i → i ≤ to → own_f242 b to (some i) = RR → Go p e below P (T.setTop (mkF m 242 #[rv a, iv (1 : Int32), iv (Int32.ofNat to), iv (Int32.ofNat i), s4, s5] [])) := by
    intro i s4 s5 T locs X N eT h1 h2 hR
    show Go p e below _ (T.setTop (mkF m 242 #[rv a, iv (1 : Int32), iv (Int32.ofNat to), iv (Int32.ofNat i), s4, s5] []))
    refine Go.pre (fun _ k => XS.iloadN X.here hx rfl (hb hby d_prog_16_method_18_242) rfl k) ?_
    show Go p e below _ (T.setTop (mkF m 243 #[rv a, iv (1 : Int32), iv (Int32.ofNat to), iv (Int32.ofNat i), s4, s5] [(.int (Int32.ofNat i))]))
    refine Go.pre (fun _ k => XS.ifNo X.here hx rfl (hb hby d_prog_16_method_18_243) rfl ((if0 _ _).trans (flt (fun q => Nat.not_lt_zero _ ((own_ol (a := i) (b := 0) (by omega) (by omega)).mp q))).1) k) ?_
    show Go p e below _ (T.setTop (mkF m 246 #[rv a, iv (1 : Int32), iv (Int32.ofNat to), iv (Int32.ofNat i), s4, s5] []))
    refine Go.pre (fun _ k => XS.iloadN X.here hx rfl (hb hby d_prog_16_method_18_246) rfl k) ?_
    show Go p e below _ (T.setTop (mkF m 247 #[rv a, iv (1 : Int32), iv (Int32.ofNat to), iv (Int32.ofNat i), s4, s5] [(.int (Int32.ofNat i))]))
    refine Go.pre (fun _ k => XS.iloadN X.here hx rfl (hb hby d_prog_16_method_18_247) rfl k) ?_
    show Go p e below _ (T.setTop (mkF m 248 #[rv a, iv (1 : Int32), iv (Int32.ofNat to), iv (Int32.ofNat i), s4, s5] [(.int (Int32.ofNat to)), (.int (Int32.ofNat i))]))
    by_cases hc248_1 : i < to
    · skip
      refine Go.pre (fun _ k => XS.icmpNo X.here hx rfl (hb hby d_prog_16_method_18_248) rfl (tlt ((own_ol (a := i) (b := to) (by omega) (by omega)).mpr hc248_1)).2.1 k) ?_
      show Go p e below _ (T.setTop (mkF m 251 #[rv a, iv (1 : Int32), iv (Int32.ofNat to), iv (Int32.ofNat i), s4, s5] []))
      refine Go.pre (fun _ k => XS.aloadN X.here hx rfl (hb hby d_prog_16_method_18_251) rfl rfl k) ?_
      show Go p e below _ (T.setTop (mkF m 252 #[rv a, iv (1 : Int32), iv (Int32.ofNat to), iv (Int32.ofNat i), s4, s5] [(.ref a)]))
      refine Go.pre (fun _ k => XS.iloadN X.here hx rfl (hb hby d_prog_16_method_18_252) rfl k) ?_
      show Go p e below _ (T.setTop (mkF m 253 #[rv a, iv (1 : Int32), iv (Int32.ofNat to), iv (Int32.ofNat i), s4, s5] [(.int (Int32.ofNat i)), (.ref a)]))
      obtain ⟨cl2, Ar2, R2⟩ := id B
      obtain ⟨hin2, hat2⟩ := R2 i (by omega) (by omega)
      refine Go.pre (X.baloadBytes hx (j := (Int32.ofNat i)) (v := .int (own_sb (b i))) (by rw [eT]; exact Ar2.1) (State.isArrayOf_alike hZ.alike Ar2.2.1) Ar2.2.2 hin2 hat2 (g := (mkF m 253 #[rv a, iv (1 : Int32), iv (Int32.ofNat to), iv (Int32.ofNat i), s4, s5] [(.int (Int32.ofNat i)), (.ref a)])) rfl rfl (hb hby d_prog_16_method_18_253)) ?_
      show Go p e below _ (T.setTop (mkF m 254 #[rv a, iv (1 : Int32), iv (Int32.ofNat to), iv (Int32.ofNat i), s4, s5] [(.int (own_sb (b i)))]))
      refine Go.pre (fun _ k => XS.bipush X.here hx rfl (hb hby d_prog_16_method_18_254) k) ?_
      show Go p e below _ (T.setTop (mkF m 256 #[rv a, iv (1 : Int32), iv (Int32.ofNat to), iv (Int32.ofNat i), s4, s5] [(.int (35 : Int32)), (.int (own_sb (b i)))]))
      by_cases hc256_3 : b i = 35
      · skip
        refine Go.pre (fun _ k => XS.icmpNo X.here hx rfl (hb hby d_prog_16_method_18_256) rfl (teq ((own_sbe (u := b i) (k := 35) (hB _) (by omega)).mpr hc256_3)).2 k) ?_
        show Go p e below _ (T.setTop (mkF m 259 #[rv a, iv (1 : Int32), iv (Int32.ofNat to), iv (Int32.ofNat i), s4, s5] []))
        refine Go.pre (fun _ k => XS.aloadN X.here hx rfl (hb hby d_prog_16_method_18_259) rfl rfl k) ?_
        show Go p e below _ (T.setTop (mkF m 260 #[rv a, iv (1 : Int32), iv (Int32.ofNat to), iv (Int32.ofNat i), s4, s5] [(.ref a)]))
        refine Go.pre (fun _ k => XS.iloadN X.here hx rfl (hb hby d_prog_16_method_18_260) rfl k) ?_
        show Go p e below _ (T.setTop (mkF m 261 #[rv a, iv (1 : Int32), iv (Int32.ofNat to), iv (Int32.ofNat i), s4, s5] [(.int (Int32.ofNat i)), (.ref a)]))
        refine Go.pre (fun _ k => XS.iconst X.here hx rfl (hb hby d_prog_16_method_18_261) k) ?_
        show Go p e below _ (T.setTop (mkF m 262 #[rv a, iv (1 : Int32), iv (Int32.ofNat to), iv (Int32.ofNat i), s4, s5] [(.int (1 : Int32)), (.int (Int32.ofNat i)), (.ref a)]))
        refine Go.pre (fun _ k => XS.iadd X.here hx rfl (hb hby d_prog_16_method_18_262) rfl k) ?_
        show Go p e below _ (T.setTop (mkF m 263 #[rv a, iv (1 : Int32), iv (Int32.ofNat to), iv (Int32.ofNat i), s4, s5] [(.int ((Int32.ofNat i) + (Int32.ofNat 1))), (.ref a)]))
        rw [own_oadd]
        show Go p e below _ (T.setTop (mkF m 263 #[rv a, iv (1 : Int32), iv (Int32.ofNat to), iv (Int32.ofNat i), s4, s5] [(.int (Int32.ofNat (i + 1))), (.ref a)]))
        refine Go.pre (fun _ k => XS.iloadN X.here hx rfl (hb hby d_prog_16_method_18_263) rfl k) ?_
        show Go p e below _ (T.setTop (mkF m 264 #[rv a, iv (1 : Int32), iv (Int32.ofNat to), iv (Int32.ofNat i), s4, s5] [(.int (Int32.ofNat to)), (.int (Int32.ofNat (i + 1))), (.ref a)]))
        refine Go.pre (fun _ k => XS.bipush X.here hx rfl (hb hby d_prog_16_method_18_264) k) ?_
        show Go p e below _ (T.setTop (mkF m 266 #[rv a, iv (1 : Int32), iv (Int32.ofNat to), iv (Int32.ofNat i), s4, s5] [(.int (8 : Int32)), (.int (Int32.ofNat to)), (.int (Int32.ofNat (i + 1))), (.ref a)]))
        obtain ⟨_, _, ⟨T4, L4, k4, n4⟩, -, X4, ⟨Lc4, hQ4, l4, y4, z4⟩, st4⟩ := Jvm.LawKit.callS X hx (y := (⟨"com/example/entayl/entayl/input/IriTable", "skip", "([BIII)I"⟩ : MethodName)) hown (mvT hZ (hw _ (List.mem_of_getElem? (i := 9) rfl))) (mvT hZ (hw _ (List.mem_of_getElem? (i := 10) rfl))) (mvT hZ (hw _ (List.mem_of_getElem? (i := 4) rfl))) (mvT hZ (hw _ (List.mem_of_getElem? (i := 11) rfl))) (by decide) (backOf (W := 0) (rm_skip l Z a0 hw [] a b (i + 1) to 8 ck h0 n0 Z0 B hB hto SK KD (by omega) (by omega) (by omega)) hZ (hw _ (List.mem_of_getElem? (i := 11) rfl)) (hw _ (List.mem_of_getElem? (i := 4) rfl)) (by decide) (by decide)) (g := (mkF m 266 #[rv a, iv (1 : Int32), iv (Int32.ofNat to), iv (Int32.ofNat i), s4, s5] [(.int (8 : Int32)), (.int (Int32.ofNat to)), (.int (Int32.ofNat (i + 1))), (.ref a)])) rfl (by rw [hml]; rfl) (argsL := [(.ref a), (.int (Int32.ofNat (i + 1))), (.int (Int32.ofNat to)), (.int (8 : Int32))]) (rest := []) (lenOf pd_1 rfl) rfl (by show 2 * 0 + _ ≤ _; exact Nat.le_of_eq rfl) (hb hby d_prog_16_method_18_266) (fun _ _ => ⟨rfl, eT, (by decide : 0 + 0 ≤ _), (by decide : 0 + 0 ≤ _)⟩)
        dsimp only [Pt.U, Pt.locs, Pt.cells, Pt.slots] at X4 l4 y4 z4 st4 hQ4
        subst l4 y4 z4
        refine Go.pre st4 ?_
        rcases hQ4 with ⟨hp4, rfl, N4q, eh4⟩ | ⟨e4, hp4, hb4, hc4b, rfl, N4q, eh4⟩
        · skip
          have N4 := Fr.app N N4q
          show Go p e below _ (T4.setTop (mkF m 269 #[rv a, iv (1 : Int32), iv (Int32.ofNat to), iv (Int32.ofNat i), s4, s5] [(.int (-1 : Int32))]))
          refine Go.pre (fun _ k => XS.istoreN X4.here hx rfl (hb hby d_prog_16_method_18_269) rfl (l' := #[rv a, iv (1 : Int32), iv (Int32.ofNat to), iv (-1 : Int32), s4, s5]) rfl k) ?_
          show Go p e below _ (T4.setTop (mkF m 270 #[rv a, iv (1 : Int32), iv (Int32.ofNat to), iv (-1 : Int32), s4, s5] []))
          refine Go.pre (fun _ k => XS.iloadN X4.here hx rfl (hb hby d_prog_16_method_18_270) rfl k) ?_
          show Go p e below _ (T4.setTop (mkF m 271 #[rv a, iv (1 : Int32), iv (Int32.ofNat to), iv (-1 : Int32), s4, s5] [(.int (-1 : Int32))]))
          refine Go.pre (fun _ k => XS.iloadN X4.here hx rfl (hb hby d_prog_16_method_18_271) rfl k) ?_
          show Go p e below _ (T4.setTop (mkF m 272 #[rv a, iv (1 : Int32), iv (Int32.ofNat to), iv (-1 : Int32), s4, s5] [(.int (Int32.ofNat to)), (.int (-1 : Int32))]))
          refine Go.pre (fun _ k => XS.icmpYes X4.here hx rfl (pc0 := 272) (pc' := 279) rfl (hb hby d_prog_16_method_18_272) rfl (feq (own_m1 (by omega))).2 (by decide) (by decide) k) ?_
          show Go p e below _ (T4.setTop (mkF m 279 #[rv a, iv (1 : Int32), iv (Int32.ofNat to), iv (-1 : Int32), s4, s5] []))
          refine Go.pre (fun _ k => XS.iconst X4.here hx rfl (hb hby d_prog_16_method_18_279) k) ?_
          show Go p e below _ (T4.setTop (mkF m 280 #[rv a, iv (1 : Int32), iv (Int32.ofNat to), iv (-1 : Int32), s4, s5] [(.int (0 : Int32))]))
          obtain ⟨fs, hr, hrun, hended, hW, hsame⟩ := X4.leave (v := some (.int (0 : Int32))) (fun h => by rw [Bd.returns] at h; cases h)
          refine Go.fin (o := .returned (some (.int (0 : Int32)))) (retN X4 hx (t := .boolean) Bd.returns (by simp) (hb hby d_prog_16_method_18_280) hr) ?_
          rw [hP]
          refine ⟨hrun, hended, _, _, rfl, ?_, ⟨_, rfl⟩, hW, hsame.mono (by decide) (by decide)⟩
          show Q_plain Z a b to ck h0 n0 _ T4.heap _
          rw [eh4]
          have q : RR = false := (by simp only [own_f242, own_f270, eq_true hc248_1, eq_true hc256_3, hp4, ↓reduceIte] at hR; exact hR.symm)
          exact Or.inr ⟨(fun z => by rw [← hRR, q] at z; cases z), rfl, N4, rfl⟩
        · skip
          have N4 := Fr.app N N4q
          show Go p e below _ (T4.setTop (mkF m 269 #[rv a, iv (1 : Int32), iv (Int32.ofNat to), iv (Int32.ofNat i), s4, s5] [(.int (Int32.ofNat e4))]))
          refine Go.pre (fun _ k => XS.istoreN X4.here hx rfl (hb hby d_prog_16_method_18_269) rfl (l' := #[rv a, iv (1 : Int32), iv (Int32.ofNat to), iv (Int32.ofNat e4), s4, s5]) rfl k) ?_
          show Go p e below _ (T4.setTop (mkF m 270 #[rv a, iv (1 : Int32), iv (Int32.ofNat to), iv (Int32.ofNat e4), s4, s5] []))
          refine Go.pre (fun _ k => XS.iloadN X4.here hx rfl (hb hby d_prog_16_method_18_270) rfl k) ?_
          show Go p e below _ (T4.setTop (mkF m 271 #[rv a, iv (1 : Int32), iv (Int32.ofNat to), iv (Int32.ofNat e4), s4, s5] [(.int (Int32.ofNat e4))]))
          refine Go.pre (fun _ k => XS.iloadN X4.here hx rfl (hb hby d_prog_16_method_18_271) rfl k) ?_
          show Go p e below _ (T4.setTop (mkF m 272 #[rv a, iv (1 : Int32), iv (Int32.ofNat to), iv (Int32.ofNat e4), s4, s5] [(.int (Int32.ofNat to)), (.int (Int32.ofNat e4))]))
          by_cases hc272_5 : e4 = to
          · skip
            refine Go.pre (fun _ k => XS.icmpNo X4.here hx rfl (hb hby d_prog_16_method_18_272) rfl (teq ((own_oe (a := e4) (b := to) (by omega) (by omega)).mpr hc272_5)).2 k) ?_
            show Go p e below _ (T4.setTop (mkF m 275 #[rv a, iv (1 : Int32), iv (Int32.ofNat to), iv (Int32.ofNat e4), s4, s5] []))
            refine Go.pre (fun _ k => XS.iconst X4.here hx rfl (hb hby d_prog_16_method_18_275) k) ?_
            show Go p e below _ (T4.setTop (mkF m 276 #[rv a, iv (1 : Int32), iv (Int32.ofNat to), iv (Int32.ofNat e4), s4, s5] [(.int (1 : Int32))]))
            refine Go.pre (fun _ k => XS.goto X4.here hx rfl (pc0 := 276) (pc' := 280) rfl (hb hby d_prog_16_method_18_276) (by decide) (by decide) k) ?_
            show Go p e below _ (T4.setTop (mkF m 280 #[rv a, iv (1 : Int32), iv (Int32.ofNat to), iv (Int32.ofNat e4), s4, s5] [(.int (1 : Int32))]))
            obtain ⟨fs, hr, hrun, hended, hW, hsame⟩ := X4.leave (v := some (.int (1 : Int32))) (fun h => by rw [Bd.returns] at h; cases h)
            refine Go.fin (o := .returned (some (.int (1 : Int32)))) (retN X4 hx (t := .boolean) Bd.returns (by simp) (hb hby d_prog_16_method_18_280) hr) ?_
            rw [hP]
            refine ⟨hrun, hended, _, _, rfl, ?_, ⟨_, rfl⟩, hW, hsame.mono (by decide) (by decide)⟩
            show Q_plain Z a b to ck h0 n0 _ T4.heap _
            rw [eh4]
            have q : RR = true := (by simp only [own_f242, own_f270, eq_true hc248_1, eq_true hc256_3, hp4, eq_true hc272_5, ↓reduceIte] at hR; exact hR.symm)
            exact Or.inl ⟨hRR.symm.trans q, rfl, N4, rfl⟩
          · skip
            refine Go.pre (fun _ k => XS.icmpYes X4.here hx rfl (pc0 := 272) (pc' := 279) rfl (hb hby d_prog_16_method_18_272) rfl (feq (fun q => hc272_5 ((own_oe (a := e4) (b := to) (by omega) (by omega)).mp q))).2 (by decide) (by decide) k) ?_
            show Go p e below _ (T4.setTop (mkF m 279 #[rv a, iv (1 : Int32), iv (Int32.ofNat to), iv (Int32.ofNat e4), s4, s5] []))
            refine Go.pre (fun _ k => XS.iconst X4.here hx rfl (hb hby d_prog_16_method_18_279) k) ?_
            show Go p e below _ (T4.setTop (mkF m 280 #[rv a, iv (1 : Int32), iv (Int32.ofNat to), iv (Int32.ofNat e4), s4, s5] [(.int (0 : Int32))]))
            obtain ⟨fs, hr, hrun, hended, hW, hsame⟩ := X4.leave (v := some (.int (0 : Int32))) (fun h => by rw [Bd.returns] at h; cases h)
            refine Go.fin (o := .returned (some (.int (0 : Int32)))) (retN X4 hx (t := .boolean) Bd.returns (by simp) (hb hby d_prog_16_method_18_280) hr) ?_
            rw [hP]
            refine ⟨hrun, hended, _, _, rfl, ?_, ⟨_, rfl⟩, hW, hsame.mono (by decide) (by decide)⟩
            show Q_plain Z a b to ck h0 n0 _ T4.heap _
            rw [eh4]
            have q : RR = false := (by simp only [own_f242, own_f270, eq_true hc248_1, eq_true hc256_3, hp4, eq_false hc272_5, ↓reduceIte] at hR; exact hR.symm)
            exact Or.inr ⟨(fun z => by rw [← hRR, q] at z; cases z), rfl, N4, rfl⟩
      · skip
        refine Go.pre (fun _ k => XS.icmpYes X.here hx rfl (pc0 := 256) (pc' := 270) rfl (hb hby d_prog_16_method_18_256) rfl (feq (fun q => hc256_3 ((own_sbe (u := b i) (k := 35) (hB _) (by omega)).mp q))).2 (by decide) (by decide) k) ?_
        show Go p e below _ (T.setTop (mkF m 270 #[rv a, iv (1 : Int32), iv (Int32.ofNat to), iv (Int32.ofNat i), s4, s5] []))
        refine Go.pre (fun _ k => XS.iloadN X.here hx rfl (hb hby d_prog_16_method_18_270) rfl k) ?_
        show Go p e below _ (T.setTop (mkF m 271 #[rv a, iv (1 : Int32), iv (Int32.ofNat to), iv (Int32.ofNat i), s4, s5] [(.int (Int32.ofNat i))]))
        refine Go.pre (fun _ k => XS.iloadN X.here hx rfl (hb hby d_prog_16_method_18_271) rfl k) ?_
        show Go p e below _ (T.setTop (mkF m 272 #[rv a, iv (1 : Int32), iv (Int32.ofNat to), iv (Int32.ofNat i), s4, s5] [(.int (Int32.ofNat to)), (.int (Int32.ofNat i))]))
        by_cases hc272_6 : i = to
        · skip
          refine Go.pre (fun _ k => XS.icmpNo X.here hx rfl (hb hby d_prog_16_method_18_272) rfl (teq ((own_oe (a := i) (b := to) (by omega) (by omega)).mpr hc272_6)).2 k) ?_
          show Go p e below _ (T.setTop (mkF m 275 #[rv a, iv (1 : Int32), iv (Int32.ofNat to), iv (Int32.ofNat i), s4, s5] []))
          refine Go.pre (fun _ k => XS.iconst X.here hx rfl (hb hby d_prog_16_method_18_275) k) ?_
          show Go p e below _ (T.setTop (mkF m 276 #[rv a, iv (1 : Int32), iv (Int32.ofNat to), iv (Int32.ofNat i), s4, s5] [(.int (1 : Int32))]))
          refine Go.pre (fun _ k => XS.goto X.here hx rfl (pc0 := 276) (pc' := 280) rfl (hb hby d_prog_16_method_18_276) (by decide) (by decide) k) ?_
          show Go p e below _ (T.setTop (mkF m 280 #[rv a, iv (1 : Int32), iv (Int32.ofNat to), iv (Int32.ofNat i), s4, s5] [(.int (1 : Int32))]))
          obtain ⟨fs, hr, hrun, hended, hW, hsame⟩ := X.leave (v := some (.int (1 : Int32))) (fun h => by rw [Bd.returns] at h; cases h)
          refine Go.fin (o := .returned (some (.int (1 : Int32)))) (retN X hx (t := .boolean) Bd.returns (by simp) (hb hby d_prog_16_method_18_280) hr) ?_
          rw [hP]
          refine ⟨hrun, hended, _, _, rfl, ?_, ⟨_, rfl⟩, hW, hsame.mono (by decide) (by decide)⟩
          show Q_plain Z a b to ck h0 n0 _ T.heap _
          rw [eT]
          have q : RR = true := (by simp only [own_f242, own_f270, eq_true hc248_1, eq_false hc256_3, eq_true hc272_6, ↓reduceIte] at hR; exact hR.symm)
          exact Or.inl ⟨hRR.symm.trans q, rfl, N, rfl⟩
        · skip
          refine Go.pre (fun _ k => XS.icmpYes X.here hx rfl (pc0 := 272) (pc' := 279) rfl (hb hby d_prog_16_method_18_272) rfl (feq (fun q => hc272_6 ((own_oe (a := i) (b := to) (by omega) (by omega)).mp q))).2 (by decide) (by decide) k) ?_
          show Go p e below _ (T.setTop (mkF m 279 #[rv a, iv (1 : Int32), iv (Int32.ofNat to), iv (Int32.ofNat i), s4, s5] []))
          refine Go.pre (fun _ k => XS.iconst X.here hx rfl (hb hby d_prog_16_method_18_279) k) ?_
          show Go p e below _ (T.setTop (mkF m 280 #[rv a, iv (1 : Int32), iv (Int32.ofNat to), iv (Int32.ofNat i), s4, s5] [(.int (0 : Int32))]))
          obtain ⟨fs, hr, hrun, hended, hW, hsame⟩ := X.leave (v := some (.int (0 : Int32))) (fun h => by rw [Bd.returns] at h; cases h)
          refine Go.fin (o := .returned (some (.int (0 : Int32)))) (retN X hx (t := .boolean) Bd.returns (by simp) (hb hby d_prog_16_method_18_280) hr) ?_
          rw [hP]
          refine ⟨hrun, hended, _, _, rfl, ?_, ⟨_, rfl⟩, hW, hsame.mono (by decide) (by decide)⟩
          show Q_plain Z a b to ck h0 n0 _ T.heap _
          rw [eT]
          have q : RR = false := (by simp only [own_f242, own_f270, eq_true hc248_1, eq_false hc256_3, eq_false hc272_6, ↓reduceIte] at hR; exact hR.symm)
          exact Or.inr ⟨(fun z => by rw [← hRR, q] at z; cases z), rfl, N, rfl⟩
    · skip
      refine Go.pre (fun _ k => XS.icmpYes X.here hx rfl (pc0 := 248) (pc' := 270) rfl (hb hby d_prog_16_method_18_248) rfl (flt (fun q => hc248_1 ((own_ol (a := i) (b := to) (by omega) (by omega)).mp q))).2.1 (by decide) (by decide) k) ?_
      show Go p e below _ (T.setTop (mkF m 270 #[rv a, iv (1 : Int32), iv (Int32.ofNat to), iv (Int32.ofNat i), s4, s5] []))
      refine Go.pre (fun _ k => XS.iloadN X.here hx rfl (hb hby d_prog_16_method_18_270) rfl k) ?_
      show Go p e below _ (T.setTop (mkF m 271 #[rv a, iv (1 : Int32), iv (Int32.ofNat to), iv (Int32.ofNat i), s4, s5] [(.int (Int32.ofNat i))]))
      refine Go.pre (fun _ k => XS.iloadN X.here hx rfl (hb hby d_prog_16_method_18_271) rfl k) ?_
      show Go p e below _ (T.setTop (mkF m 272 #[rv a, iv (1 : Int32), iv (Int32.ofNat to), iv (Int32.ofNat i), s4, s5] [(.int (Int32.ofNat to)), (.int (Int32.ofNat i))]))
      by_cases hc272_7 : i = to
      · skip
        refine Go.pre (fun _ k => XS.icmpNo X.here hx rfl (hb hby d_prog_16_method_18_272) rfl (teq ((own_oe (a := i) (b := to) (by omega) (by omega)).mpr hc272_7)).2 k) ?_
        show Go p e below _ (T.setTop (mkF m 275 #[rv a, iv (1 : Int32), iv (Int32.ofNat to), iv (Int32.ofNat i), s4, s5] []))
        refine Go.pre (fun _ k => XS.iconst X.here hx rfl (hb hby d_prog_16_method_18_275) k) ?_
        show Go p e below _ (T.setTop (mkF m 276 #[rv a, iv (1 : Int32), iv (Int32.ofNat to), iv (Int32.ofNat i), s4, s5] [(.int (1 : Int32))]))
        refine Go.pre (fun _ k => XS.goto X.here hx rfl (pc0 := 276) (pc' := 280) rfl (hb hby d_prog_16_method_18_276) (by decide) (by decide) k) ?_
        show Go p e below _ (T.setTop (mkF m 280 #[rv a, iv (1 : Int32), iv (Int32.ofNat to), iv (Int32.ofNat i), s4, s5] [(.int (1 : Int32))]))
        obtain ⟨fs, hr, hrun, hended, hW, hsame⟩ := X.leave (v := some (.int (1 : Int32))) (fun h => by rw [Bd.returns] at h; cases h)
        refine Go.fin (o := .returned (some (.int (1 : Int32)))) (retN X hx (t := .boolean) Bd.returns (by simp) (hb hby d_prog_16_method_18_280) hr) ?_
        rw [hP]
        refine ⟨hrun, hended, _, _, rfl, ?_, ⟨_, rfl⟩, hW, hsame.mono (by decide) (by decide)⟩
        show Q_plain Z a b to ck h0 n0 _ T.heap _
        rw [eT]
        have q : RR = true := (by simp only [own_f242, own_f270, eq_false hc248_1, eq_true hc272_7, ↓reduceIte] at hR; exact hR.symm)
        exact Or.inl ⟨hRR.symm.trans q, rfl, N, rfl⟩
      · skip
        refine Go.pre (fun _ k => XS.icmpYes X.here hx rfl (pc0 := 272) (pc' := 279) rfl (hb hby d_prog_16_method_18_272) rfl (feq (fun q => hc272_7 ((own_oe (a := i) (b := to) (by omega) (by omega)).mp q))).2 (by decide) (by decide) k) ?_
        show Go p e below _ (T.setTop (mkF m 279 #[rv a, iv (1 : Int32), iv (Int32.ofNat to), iv (Int32.ofNat i), s4, s5] []))
        refine Go.pre (fun _ k => XS.iconst X.here hx rfl (hb hby d_prog_16_method_18_279) k) ?_
        show Go p e below _ (T.setTop (mkF m 280 #[rv a, iv (1 : Int32), iv (Int32.ofNat to), iv (Int32.ofNat i), s4, s5] [(.int (0 : Int32))]))
        obtain ⟨fs, hr, hrun, hended, hW, hsame⟩ := X.leave (v := some (.int (0 : Int32))) (fun h => by rw [Bd.returns] at h; cases h)
        refine Go.fin (o := .returned (some (.int (0 : Int32)))) (retN X hx (t := .boolean) Bd.returns (by simp) (hb hby d_prog_16_method_18_280) hr) ?_
        rw [hP]
        refine ⟨hrun, hended, _, _, rfl, ?_, ⟨_, rfl⟩, hW, hsame.mono (by decide) (by decide)⟩
        show Q_plain Z a b to ck h0 n0 _ T.heap _
        rw [eT]
        have q : RR = false := (by simp only [own_f242, own_f270, eq_false hc248_1, eq_false hc272_7, ↓reduceIte] at hR; exact hR.symm)
        exact Or.inr ⟨(fun z => by rw [← hRR, q] at z; cases z), rfl, N, rfl⟩
  have J206 : ∀ (i : Nat) (s4 s5 : Slot) (T : State) (locs : List Loc), Stand p l e ({ frames := 1, cells := 0, slots := 0, locals := 16 } : Room) s m #[(.ref a), (.int (1 : Int32)), (.int (Int32.ofNat to))] below meth c T locs 0 0 → Fr n0 locs → T.heap = h0 → 1 ≤ i → i ≤ to → own_f206 b to i = RR → Go p e below P (T.setTop (mkF m 206 #[rv a, iv (1 : Int32), iv (Int32.ofNat to), iv (Int32.ofNat i), s4, s5] [])) := by
    intro i s4 s5 T locs X N eT h1 h2 hR
    show Go p e below _ (T.setTop (mkF m 206 #[rv a, iv (1 : Int32), iv (Int32.ofNat to), iv (Int32.ofNat i), s4, s5] []))
    refine Go.pre (fun _ k => XS.aloadN X.here hx rfl (hb hby d_prog_16_method_18_206) rfl rfl k) ?_
    show Go p e below _ (T.setTop (mkF m 207 #[rv a, iv (1 : Int32), iv (Int32.ofNat to), iv (Int32.ofNat i), s4, s5] [(.ref a)]))
    refine Go.pre (fun _ k => XS.iloadN X.here hx rfl (hb hby d_prog_16_method_18_207) rfl k) ?_
    show Go p e below _ (T.setTop (mkF m 208 #[rv a, iv (1 : Int32), iv (Int32.ofNat to), iv (Int32.ofNat i), s4, s5] [(.int (Int32.ofNat i)), (.ref a)]))
    refine Go.pre (fun _ k => XS.iloadN X.here hx rfl (hb hby d_prog_16_method_18_208) rfl k) ?_
    show Go p e below _ (T.setTop (mkF m 209 #[rv a, iv (1 : Int32), iv (Int32.ofNat to), iv (Int32.ofNat i), s4, s5] [(.int (Int32.ofNat to)), (.int (Int32.ofNat i)), (.ref a)]))
    refine Go.pre (fun _ k => XS.iconst X.here hx rfl (hb hby d_prog_16_method_18_209) k) ?_
    show Go p e below _ (T.setTop (mkF m 210 #[rv a, iv (1 : Int32), iv (Int32.ofNat to), iv (Int32.ofNat i), s4, s5] [(.int (4 : Int32)), (.int (Int32.ofNat to)), (.int (Int32.ofNat i)), (.ref a)]))
    obtain ⟨_, _, ⟨T8, L8, k8, n8⟩, -, X8, ⟨Lc8, hQ8, l8, y8, z8⟩, st8⟩ := Jvm.LawKit.callS X hx (y := (⟨"com/example/entayl/entayl/input/IriTable", "skip", "([BIII)I"⟩ : MethodName)) hown (mvT hZ (hw _ (List.mem_of_getElem? (i := 9) rfl))) (mvT hZ (hw _ (List.mem_of_getElem? (i := 10) rfl))) (mvT hZ (hw _ (List.mem_of_getElem? (i := 4) rfl))) (mvT hZ (hw _ (List.mem_of_getElem? (i := 11) rfl))) (by decide) (backOf (W := 0) (rm_skip l Z a0 hw [] a b i to 4 ck h0 n0 Z0 B hB hto SK KD (by omega) (by omega) (by omega)) hZ (hw _ (List.mem_of_getElem? (i := 11) rfl)) (hw _ (List.mem_of_getElem? (i := 4) rfl)) (by decide) (by decide)) (g := (mkF m 210 #[rv a, iv (1 : Int32), iv (Int32.ofNat to), iv (Int32.ofNat i), s4, s5] [(.int (4 : Int32)), (.int (Int32.ofNat to)), (.int (Int32.ofNat i)), (.ref a)])) rfl (by rw [hml]; rfl) (argsL := [(.ref a), (.int (Int32.ofNat i)), (.int (Int32.ofNat to)), (.int (4 : Int32))]) (rest := []) (lenOf pd_1 rfl) rfl (by show 2 * 0 + _ ≤ _; exact Nat.le_of_eq rfl) (hb hby d_prog_16_method_18_210) (fun _ _ => ⟨rfl, eT, (by decide : 0 + 0 ≤ _), (by decide : 0 + 0 ≤ _)⟩)
    dsimp only [Pt.U, Pt.locs, Pt.cells, Pt.slots] at X8 l8 y8 z8 st8 hQ8
    subst l8 y8 z8
    refine Go.pre st8 ?_
    rcases hQ8 with ⟨hp8, rfl, N8q, eh8⟩ | ⟨e8, hp8, hb8, hc8b, rfl, N8q, eh8⟩
    · skip
      have N8 := Fr.app N N8q
      show Go p e below _ (T8.setTop (mkF m 213 #[rv a, iv (1 : Int32), iv (Int32.ofNat to), iv (Int32.ofNat i), s4, s5] [(.int (-1 : Int32))]))
      refine Go.pre (fun _ k => XS.istoreN X8.here hx rfl (hb hby d_prog_16_method_18_213) rfl (l' := #[rv a, iv (1 : Int32), iv (Int32.ofNat to), iv (-1 : Int32), s4, s5]) rfl k) ?_
      show Go p e below _ (T8.setTop (mkF m 214 #[rv a, iv (1 : Int32), iv (Int32.ofNat to), iv (-1 : Int32), s4, s5] []))
      refine Go.pre (fun _ k => XS.iloadN X8.here hx rfl (hb hby d_prog_16_method_18_214) rfl k) ?_
      show Go p e below _ (T8.setTop (mkF m 215 #[rv a, iv (1 : Int32), iv (Int32.ofNat to), iv (-1 : Int32), s4, s5] [(.int (-1 : Int32))]))
      refine Go.pre (fun _ k => XS.ifYes X8.here hx rfl (pc0 := 215) (pc' := 242) rfl (hb hby d_prog_16_method_18_215) rfl ((if0 _ _).trans (tlt (by decide : (-1 : Int32) < (0 : Int32))).1) (by decide) (by decide) k) ?_
      exact J242n _ _ _ _ X8 N8 eh8 (by simp only [own_f206, own_f214, hp8, ↓reduceIte] at hR; exact hR)
    · skip
      have N8 := Fr.app N N8q
      show Go p e below _ (T8.setTop (mkF m 213 #[rv a, iv (1 : Int32), iv (Int32.ofNat to), iv (Int32.ofNat i), s4, s5] [(.int (Int32.ofNat e8))]))
      refine Go.pre (fun _ k => XS.istoreN X8.here hx rfl (hb hby d_prog_16_method_18_213) rfl (l' := #[rv a, iv (1 : Int32), iv (Int32.ofNat to), iv (Int32.ofNat e8), s4, s5]) rfl k) ?_
      show Go p e below _ (T8.setTop (mkF m 214 #[rv a, iv (1 : Int32), iv (Int32.ofNat to), iv (Int32.ofNat e8), s4, s5] []))
      refine Go.pre (fun _ k => XS.iloadN X8.here hx rfl (hb hby d_prog_16_method_18_214) rfl k) ?_
      show Go p e below _ (T8.setTop (mkF m 215 #[rv a, iv (1 : Int32), iv (Int32.ofNat to), iv (Int32.ofNat e8), s4, s5] [(.int (Int32.ofNat e8))]))
      refine Go.pre (fun _ k => XS.ifNo X8.here hx rfl (hb hby d_prog_16_method_18_215) rfl ((if0 _ _).trans (flt (fun q => Nat.not_lt_zero _ ((own_ol (a := e8) (b := 0) (by omega) (by omega)).mp q))).1) k) ?_
      show Go p e below _ (T8.setTop (mkF m 218 #[rv a, iv (1 : Int32), iv (Int32.ofNat to), iv (Int32.ofNat e8), s4, s5] []))
      refine Go.pre (fun _ k => XS.iloadN X8.here hx rfl (hb hby d_prog_16_method_18_218) rfl k) ?_
      show Go p e below _ (T8.setTop (mkF m 219 #[rv a, iv (1 : Int32), iv (Int32.ofNat to), iv (Int32.ofNat e8), s4, s5] [(.int (Int32.ofNat e8))]))
      refine Go.pre (fun _ k => XS.iloadN X8.here hx rfl (hb hby d_prog_16_method_18_219) rfl k) ?_
      show Go p e below _ (T8.setTop (mkF m 220 #[rv a, iv (1 : Int32), iv (Int32.ofNat to), iv (Int32.ofNat e8), s4, s5] [(.int (Int32.ofNat to)), (.int (Int32.ofNat e8))]))
      by_cases hc220_9 : e8 < to
      · skip
        refine Go.pre (fun _ k => XS.icmpNo X8.here hx rfl (hb hby d_prog_16_method_18_220) rfl (tlt ((own_ol (a := e8) (b := to) (by omega) (by omega)).mpr hc220_9)).2.1 k) ?_
        show Go p e below _ (T8.setTop (mkF m 223 #[rv a, iv (1 : Int32), iv (Int32.ofNat to), iv (Int32.ofNat e8), s4, s5] []))
        refine Go.pre (fun _ k => XS.aloadN X8.here hx rfl (hb hby d_prog_16_method_18_223) rfl rfl k) ?_
        show Go p e below _ (T8.setTop (mkF m 224 #[rv a, iv (1 : Int32), iv (Int32.ofNat to), iv (Int32.ofNat e8), s4, s5] [(.ref a)]))
        refine Go.pre (fun _ k => XS.iloadN X8.here hx rfl (hb hby d_prog_16_method_18_224) rfl k) ?_
        show Go p e below _ (T8.setTop (mkF m 225 #[rv a, iv (1 : Int32), iv (Int32.ofNat to), iv (Int32.ofNat e8), s4, s5] [(.int (Int32.ofNat e8)), (.ref a)]))
        obtain ⟨cl10, Ar10, R10⟩ := id B
        obtain ⟨hin10, hat10⟩ := R10 e8 (by omega) (by omega)
        refine Go.pre (X8.baloadBytes hx (j := (Int32.ofNat e8)) (v := .int (own_sb (b e8))) (by rw [eh8]; exact Ar10.1) (State.isArrayOf_alike hZ.alike Ar10.2.1) Ar10.2.2 hin10 hat10 (g := (mkF m 225 #[rv a, iv (1 : Int32), iv (Int32.ofNat to), iv (Int32.ofNat e8), s4, s5] [(.int (Int32.ofNat e8)), (.ref a)])) rfl rfl (hb hby d_prog_16_method_18_225)) ?_
        show Go p e below _ (T8.setTop (mkF m 226 #[rv a, iv (1 : Int32), iv (Int32.ofNat to), iv (Int32.ofNat e8), s4, s5] [(.int (own_sb (b e8)))]))
        refine Go.pre (fun _ k => XS.bipush X8.here hx rfl (hb hby d_prog_16_method_18_226) k) ?_
        show Go p e below _ (T8.setTop (mkF m 228 #[rv a, iv (1 : Int32), iv (Int32.ofNat to), iv (Int32.ofNat e8), s4, s5] [(.int (63 : Int32)), (.int (own_sb (b e8)))]))
        by_cases hc228_11 : b e8 = 63
        · skip
          refine Go.pre (fun _ k => XS.icmpNo X8.here hx rfl (hb hby d_prog_16_method_18_228) rfl (teq ((own_sbe (u := b e8) (k := 63) (hB _) (by omega)).mpr hc228_11)).2 k) ?_
          show Go p e below _ (T8.setTop (mkF m 231 #[rv a, iv (1 : Int32), iv (Int32.ofNat to), iv (Int32.ofNat e8), s4, s5] []))
          refine Go.pre (fun _ k => XS.aloadN X8.here hx rfl (hb hby d_prog_16_method_18_231) rfl rfl k) ?_
          show Go p e below _ (T8.setTop (mkF m 232 #[rv a, iv (1 : Int32), iv (Int32.ofNat to), iv (Int32.ofNat e8), s4, s5] [(.ref a)]))
          refine Go.pre (fun _ k => XS.iloadN X8.here hx rfl (hb hby d_prog_16_method_18_232) rfl k) ?_
          show Go p e below _ (T8.setTop (mkF m 233 #[rv a, iv (1 : Int32), iv (Int32.ofNat to), iv (Int32.ofNat e8), s4, s5] [(.int (Int32.ofNat e8)), (.ref a)]))
          refine Go.pre (fun _ k => XS.iconst X8.here hx rfl (hb hby d_prog_16_method_18_233) k) ?_
          show Go p e below _ (T8.setTop (mkF m 234 #[rv a, iv (1 : Int32), iv (Int32.ofNat to), iv (Int32.ofNat e8), s4, s5] [(.int (1 : Int32)), (.int (Int32.ofNat e8)), (.ref a)]))
          refine Go.pre (fun _ k => XS.iadd X8.here hx rfl (hb hby d_prog_16_method_18_234) rfl k) ?_
          show Go p e below _ (T8.setTop (mkF m 235 #[rv a, iv (1 : Int32), iv (Int32.ofNat to), iv (Int32.ofNat e8), s4, s5] [(.int ((Int32.ofNat e8) + (Int32.ofNat 1))), (.ref a)]))
          rw [own_oadd]
          show Go p e below _ (T8.setTop (mkF m 235 #[rv a, iv (1 : Int32), iv (Int32.ofNat to), iv (Int32.ofNat e8), s4, s5] [(.int (Int32.ofNat (e8 + 1))), (.ref a)]))
          refine Go.pre (fun _ k => XS.iloadN X8.here hx rfl (hb hby d_prog_16_method_18_235) rfl k) ?_
          show Go p e below _ (T8.setTop (mkF m 236 #[rv a, iv (1 : Int32), iv (Int32.ofNat to), iv (Int32.ofNat e8), s4, s5] [(.int (Int32.ofNat to)), (.int (Int32.ofNat (e8 + 1))), (.ref a)]))
          refine Go.pre (fun _ k => XS.bipush X8.here hx rfl (hb hby d_prog_16_method_18_236) k) ?_
          show Go p e below _ (T8.setTop (mkF m 238 #[rv a, iv (1 : Int32), iv (Int32.ofNat to), iv (Int32.ofNat e8), s4, s5] [(.int (8 : Int32)), (.int (Int32.ofNat to)), (.int (Int32.ofNat (e8 + 1))), (.ref a)]))
          obtain ⟨_, _, ⟨T12, L12, k12, n12⟩, -, X12, ⟨Lc12, hQ12, l12, y12, z12⟩, st12⟩ := Jvm.LawKit.callS X8 hx (y := (⟨"com/example/entayl/entayl/input/IriTable", "skip", "([BIII)I"⟩ : MethodName)) hown (mvT hZ (hw _ (List.mem_of_getElem? (i := 9) rfl))) (mvT hZ (hw _ (List.mem_of_getElem? (i := 10) rfl))) (mvT hZ (hw _ (List.mem_of_getElem? (i := 4) rfl))) (mvT hZ (hw _ (List.mem_of_getElem? (i := 11) rfl))) (by decide) (backOf (W := 0) (rm_skip l Z a0 hw [] a b (e8 + 1) to 8 ck h0 n0 Z0 B hB hto SK KD (by omega) (by omega) (by omega)) hZ (hw _ (List.mem_of_getElem? (i := 11) rfl)) (hw _ (List.mem_of_getElem? (i := 4) rfl)) (by decide) (by decide)) (g := (mkF m 238 #[rv a, iv (1 : Int32), iv (Int32.ofNat to), iv (Int32.ofNat e8), s4, s5] [(.int (8 : Int32)), (.int (Int32.ofNat to)), (.int (Int32.ofNat (e8 + 1))), (.ref a)])) rfl (by rw [hml]; rfl) (argsL := [(.ref a), (.int (Int32.ofNat (e8 + 1))), (.int (Int32.ofNat to)), (.int (8 : Int32))]) (rest := []) (lenOf pd_1 rfl) rfl (by show 2 * 0 + _ ≤ _; exact Nat.le_of_eq rfl) (hb hby d_prog_16_method_18_238) (fun _ _ => ⟨rfl, eh8, (by decide : 0 + 0 ≤ _), (by decide : 0 + 0 ≤ _)⟩)
          dsimp only [Pt.U, Pt.locs, Pt.cells, Pt.slots] at X12 l12 y12 z12 st12 hQ12
          subst l12 y12 z12
          refine Go.pre st12 ?_
          rcases hQ12 with ⟨hp12, rfl, N12q, eh12⟩ | ⟨e12, hp12, hb12, hc12b, rfl, N12q, eh12⟩
          · skip
            have N12 := Fr.app N8 N12q
            show Go p e below _ (T12.setTop (mkF m 241 #[rv a, iv (1 : Int32), iv (Int32.ofNat to), iv (Int32.ofNat e8), s4, s5] [(.int (-1 : Int32))]))
            refine Go.pre (fun _ k => XS.istoreN X12.here hx rfl (hb hby d_prog_16_method_18_241) rfl (l' := #[rv a, iv (1 : Int32), iv (Int32.ofNat to), iv (-1 : Int32), s4, s5]) rfl k) ?_
            exact J242n _ _ _ _ X12 N12 eh12 (by simp only [own_f206, own_f214, hp8, eq_true hc220_9, eq_true hc228_11, hp12, ↓reduceIte] at hR; exact hR)
          · skip
            have N12 := Fr.app N8 N12q
            show Go p e below _ (T12.setTop (mkF m 241 #[rv a, iv (1 : Int32), iv (Int32.ofNat to), iv (Int32.ofNat e8), s4, s5] [(.int (Int32.ofNat e12))]))
            refine Go.pre (fun _ k => XS.istoreN X12.here hx rfl (hb hby d_prog_16_method_18_241) rfl (l' := #[rv a, iv (1 : Int32), iv (Int32.ofNat to), iv (Int32.ofNat e12), s4, s5]) rfl k) ?_
            exact J242 e12 _ _ _ _ X12 N12 eh12 (by omega) (by omega) (by simp only [own_f206, own_f214, hp8, eq_true hc220_9, eq_true hc228_11, hp12, ↓reduceIte] at hR; exact hR)
        · skip
          refine Go.pre (fun _ k => XS.icmpYes X8.here hx rfl (pc0 := 228) (pc' := 242) rfl (hb hby d_prog_16_method_18_228) rfl (feq (fun q => hc228_11 ((own_sbe (u := b e8) (k := 63) (hB _) (by omega)).mp q))).2 (by decide) (by decide) k) ?_
          exact J242 e8 _ _ _ _ X8 N8 eh8 (by omega) (by omega) (by simp only [own_f206, own_f214, hp8, eq_true hc220_9, eq_false hc228_11, ↓reduceIte] at hR; exact hR)
      · skip
        refine Go.pre (fun _ k => XS.icmpYes X8.here hx rfl (pc0 := 220) (pc' := 242) rfl (hb hby d_prog_16_method_18_220) rfl (flt (fun q => hc220_9 ((own_ol (a := e8) (b := to) (by omega) (by omega)).mp q))).2.1 (by decide) (by decide) k) ?_
        exact J242 e8 _ _ _ _ X8 N8 eh8 (by omega) (by omega) (by simp only [own_f206, own_f214, hp8, eq_false hc220_9, ↓reduceIte] at hR; exact hR)
  have J171n : ∀ (s4 s5 : Slot) (T : State) (locs : List Loc), Stand p l e ({ frames := 1, cells := 0, slots := 0, locals := 16 } : Room) s m #[(.ref a), (.int (1 : Int32)), (.int (Int32.ofNat to))] below meth c T locs 0 0 → Fr n0 locs → T.heap = h0 → own_f171 b to none = RR → Go p e below P (T.setTop (mkF m 171 #[rv a, iv (1 : Int32), iv (Int32.ofNat to), iv (-1 : Int32), s4, s5] [])) := by
    intro s4 s5 T locs X N eT hR
    show Go p e below _ (T.setTop (mkF m 171 #[rv a, iv (1 : Int32), iv (Int32.ofNat to), iv (-1 : Int32), s4, s5] []))
    refine Go.pre (fun _ k => XS.iloadN X.here hx rfl (hb hby d_prog_16_method_18_171) rfl k) ?_
    show Go p e below _ (T.setTop (mkF m 172 #[rv a, iv (1 : Int32), iv (Int32.ofNat to), iv (-1 : Int32), s4, s5] [(.int (-1 : Int32))]))
    refine Go.pre (fun _ k => XS.ifYes X.here hx rfl (pc0 := 172) (pc' := 204) rfl (hb hby d_prog_16_method_18_172) rfl ((if0 _ _).trans (tlt (by decide : (-1 : Int32) < (0 : Int32))).1) (by decide) (by decide) k) ?_
    show Go p e below _ (T.setTop (mkF m 204 #[rv a, iv (1 : Int32), iv (Int32.ofNat to), iv (-1 : Int32), s4, s5] []))
    refine Go.pre (fun _ k => XS.iconst X.here hx rfl (hb hby d_prog_16_method_18_204) k) ?_
    show Go p e below _ (T.setTop (mkF m 205 #[rv a, iv (1 : Int32), iv (Int32.ofNat to), iv (-1 : Int32), s4, s5] [(.int (0 : Int32))]))
    obtain ⟨fs, hr, hrun, hended, hW, hsame⟩ := X.leave (v := some (.int (0 : Int32))) (fun h => by rw [Bd.returns] at h; cases h)
    refine Go.fin (o := .returned (some (.int (0 : Int32)))) (retN X hx (t := .boolean) Bd.returns (by simp) (hb hby d_prog_16_method_18_205) hr) ?_
    rw [hP]
    refine ⟨hrun, hended, _, _, rfl, ?_, ⟨_, rfl⟩, hW, hsame.mono (by decide) (by decide)⟩
    show Q_plain Z a b to ck h0 n0 _ T.heap _
    rw [eT]
    have q : RR = false := (by simp only [own_f171, own_f270, ↓reduceIte] at hR; exact hR.symm)
    exact Or.inr ⟨(fun z => by rw [← hRR, q] at z; cases z), rfl, N, rfl⟩
  have J171 : ∀ (i : Nat) (s4 s5 : Slot) (T : State) (locs : List Loc), Stand p l e ({ frames := 1, cells := 0, slots := 0, locals := 16 } : Room) s m #[(.ref a), (.int (1 : Int32)), (.int (Int32.ofNat to))] below meth c T locs 0 0 → Fr n0 locs → T.heap = h0 → 1 ≤ i → i ≤ to → own_f171 b to (some i) = RR → Go p e below P (T.setTop (mkF m 171 #[rv a, iv (1 : Int32), iv (Int32.ofNat to), iv (Int32.ofNat i), s4, s5] [])) := by
    intro i s4 s5 T locs X N eT h1 h2 hR
    show Go p e below _ (T.setTop (mkF m 171 #[rv a, iv (1 : Int32), iv (Int32.ofNat to), iv (Int32.ofNat i), s4, s5] []))
    refine Go.pre (fun _ k => XS.iloadN X.here hx rfl (hb hby d_prog_16_method_18_171) rfl k) ?_
    show Go p e below _ (T.setTop (mkF m 172 #[rv a, iv (1 : Int32), iv (Int32.ofNat to), iv (Int32.ofNat i), s4, s5] [(.int (Int32.ofNat i))]))
    refine Go.pre (fun _ k => XS.ifNo X.here hx rfl (hb hby d_prog_16_method_18_172) rfl ((if0 _ _).trans (flt (fun q => Nat.not_lt_zero _ ((own_ol (a := i) (b := 0) (by omega) (by omega)).mp q))).1) k) ?_
    show Go p e below _ (T.setTop (mkF m 175 #[rv a, iv (1 : Int32), iv (Int32.ofNat to), iv (Int32.ofNat i), s4, s5] []))
    refine Go.pre (fun _ k => XS.iloadN X.here hx rfl (hb hby d_prog_16_method_18_175) rfl k) ?_
    show Go p e below _ (T.setTop (mkF m 176 #[rv a, iv (1 : Int32), iv (Int32.ofNat to), iv (Int32.ofNat i), s4, s5] [(.int (Int32.ofNat i))]))
    refine Go.pre (fun _ k => XS.iloadN X.here hx rfl (hb hby d_prog_16_method_18_176) rfl k) ?_
    show Go p e below _ (T.setTop (mkF m 177 #[rv a, iv (1 : Int32), iv (Int32.ofNat to), iv (Int32.ofNat i), s4, s5] [(.int (Int32.ofNat to)), (.int (Int32.ofNat i))]))
    by_cases hc177_13 : i < to
    · skip
      refine Go.pre (fun _ k => XS.icmpNo X.here hx rfl (hb hby d_prog_16_method_18_177) rfl (tlt ((own_ol (a := i) (b := to) (by omega) (by omega)).mpr hc177_13)).2.1 k) ?_
      show Go p e below _ (T.setTop (mkF m 180 #[rv a, iv (1 : Int32), iv (Int32.ofNat to), iv (Int32.ofNat i), s4, s5] []))
      refine Go.pre (fun _ k => XS.aloadN X.here hx rfl (hb hby d_prog_16_method_18_180) rfl rfl k) ?_
      show Go p e below _ (T.setTop (mkF m 181 #[rv a, iv (1 : Int32), iv (Int32.ofNat to), iv (Int32.ofNat i), s4, s5] [(.ref a)]))
      refine Go.pre (fun _ k => XS.iloadN X.here hx rfl (hb hby d_prog_16_method_18_181) rfl k) ?_
      show Go p e below _ (T.setTop (mkF m 182 #[rv a, iv (1 : Int32), iv (Int32.ofNat to), iv (Int32.ofNat i), s4, s5] [(.int (Int32.ofNat i)), (.ref a)]))
      obtain ⟨cl14, Ar14, R14⟩ := id B
      obtain ⟨hin14, hat14⟩ := R14 i (by omega) (by omega)
      refine Go.pre (X.baloadBytes hx (j := (Int32.ofNat i)) (v := .int (own_sb (b i))) (by rw [eT]; exact Ar14.1) (State.isArrayOf_alike hZ.alike Ar14.2.1) Ar14.2.2 hin14 hat14 (g := (mkF m 182 #[rv a, iv (1 : Int32), iv (Int32.ofNat to), iv (Int32.ofNat i), s4, s5] [(.int (Int32.ofNat i)), (.ref a)])) rfl rfl (hb hby d_prog_16_method_18_182)) ?_
      show Go p e below _ (T.setTop (mkF m 183 #[rv a, iv (1 : Int32), iv (Int32.ofNat to), iv (Int32.ofNat i), s4, s5] [(.int (own_sb (b i)))]))
      refine Go.pre (fun _ k => XS.bipush X.here hx rfl (hb hby d_prog_16_method_18_183) k) ?_
      show Go p e below _ (T.setTop (mkF m 185 #[rv a, iv (1 : Int32), iv (Int32.ofNat to), iv (Int32.ofNat i), s4, s5] [(.int (47 : Int32)), (.int (own_sb (b i)))]))
      by_cases hc185_15 : b i = 47
      · skip
        refine Go.pre (fun _ k => XS.icmpYes X.here hx rfl (pc0 := 185) (pc' := 206) rfl (hb hby d_prog_16_method_18_185) rfl (teq ((own_sbe (u := b i) (k := 47) (hB _) (by omega)).mpr hc185_15)).1 (by decide) (by decide) k) ?_
        exact J206 i _ _ _ _ X N eT (by omega) (by omega) (by simp only [own_f171, eq_true hc177_13, eq_true hc185_15, ↓reduceIte] at hR; exact hR)
      · skip
        refine Go.pre (fun _ k => XS.icmpNo X.here hx rfl (hb hby d_prog_16_method_18_185) rfl (feq (fun q => hc185_15 ((own_sbe (u := b i) (k := 47) (hB _) (by omega)).mp q))).1 k) ?_
        show Go p e below _ (T.setTop (mkF m 188 #[rv a, iv (1 : Int32), iv (Int32.ofNat to), iv (Int32.ofNat i), s4, s5] []))
        refine Go.pre (fun _ k => XS.aloadN X.here hx rfl (hb hby d_prog_16_method_18_188) rfl rfl k) ?_
        show Go p e below _ (T.setTop (mkF m 189 #[rv a, iv (1 : Int32), iv (Int32.ofNat to), iv (Int32.ofNat i), s4, s5] [(.ref a)]))
        refine Go.pre (fun _ k => XS.iloadN X.here hx rfl (hb hby d_prog_16_method_18_189) rfl k) ?_
        show Go p e below _ (T.setTop (mkF m 190 #[rv a, iv (1 : Int32), iv (Int32.ofNat to), iv (Int32.ofNat i), s4, s5] [(.int (Int32.ofNat i)), (.ref a)]))
        obtain ⟨cl16, Ar16, R16⟩ := id B
        obtain ⟨hin16, hat16⟩ := R16 i (by omega) (by omega)
        refine Go.pre (X.baloadBytes hx (j := (Int32.ofNat i)) (v := .int (own_sb (b i))) (by rw [eT]; exact Ar16.1) (State.isArrayOf_alike hZ.alike Ar16.2.1) Ar16.2.2 hin16 hat16 (g := (mkF m 190 #[rv a, iv (1 : Int32), iv (Int32.ofNat to), iv (Int32.ofNat i), s4, s5] [(.int (Int32.ofNat i)), (.ref a)])) rfl rfl (hb hby d_prog_16_method_18_190)) ?_
        show Go p e below _ (T.setTop (mkF m 191 #[rv a, iv (1 : Int32), iv (Int32.ofNat to), iv (Int32.ofNat i), s4, s5] [(.int (own_sb (b i)))]))
        refine Go.pre (fun _ k => XS.bipush X.here hx rfl (hb hby d_prog_16_method_18_191) k) ?_
        show Go p e below _ (T.setTop (mkF m 193 #[rv a, iv (1 : Int32), iv (Int32.ofNat to), iv (Int32.ofNat i), s4, s5] [(.int (63 : Int32)), (.int (own_sb (b i)))]))
        by_cases hc193_17 : b i = 63
        · skip
          refine Go.pre (fun _ k => XS.icmpYes X.here hx rfl (pc0 := 193) (pc' := 206) rfl (hb hby d_prog_16_method_18_193) rfl (teq ((own_sbe (u := b i) (k := 63) (hB _) (by omega)).mpr hc193_17)).1 (by decide) (by decide) k) ?_
          exact J206 i _ _ _ _ X N eT (by omega) (by omega) (by simp only [own_f171, eq_true hc177_13, eq_false hc185_15, eq_true hc193_17, ↓reduceIte] at hR; exact hR)
        · skip
          refine Go.pre (fun _ k => XS.icmpNo X.here hx rfl (hb hby d_prog_16_method_18_193) rfl (feq (fun q => hc193_17 ((own_sbe (u := b i) (k := 63) (hB _) (by omega)).mp q))).1 k) ?_
          show Go p e below _ (T.setTop (mkF m 196 #[rv a, iv (1 : Int32), iv (Int32.ofNat to), iv (Int32.ofNat i), s4, s5] []))
          refine Go.pre (fun _ k => XS.aloadN X.here hx rfl (hb hby d_prog_16_method_18_196) rfl rfl k) ?_
          show Go p e below _ (T.setTop (mkF m 197 #[rv a, iv (1 : Int32), iv (Int32.ofNat to), iv (Int32.ofNat i), s4, s5] [(.ref a)]))
          refine Go.pre (fun _ k => XS.iloadN X.here hx rfl (hb hby d_prog_16_method_18_197) rfl k) ?_
          show Go p e below _ (T.setTop (mkF m 198 #[rv a, iv (1 : Int32), iv (Int32.ofNat to), iv (Int32.ofNat i), s4, s5] [(.int (Int32.ofNat i)), (.ref a)]))
          obtain ⟨cl18, Ar18, R18⟩ := id B
          obtain ⟨hin18, hat18⟩ := R18 i (by omega) (by omega)
          refine Go.pre (X.baloadBytes hx (j := (Int32.ofNat i)) (v := .int (own_sb (b i))) (by rw [eT]; exact Ar18.1) (State.isArrayOf_alike hZ.alike Ar18.2.1) Ar18.2.2 hin18 hat18 (g := (mkF m 198 #[rv a, iv (1 : Int32), iv (Int32.ofNat to), iv (Int32.ofNat i), s4, s5] [(.int (Int32.ofNat i)), (.ref a)])) rfl rfl (hb hby d_prog_16_method_18_198)) ?_
          show Go p e below _ (T.setTop (mkF m 199 #[rv a, iv (1 : Int32), iv (Int32.ofNat to), iv (Int32.ofNat i), s4, s5] [(.int (own_sb (b i)))]))
          refine Go.pre (fun _ k => XS.bipush X.here hx rfl (hb hby d_prog_16_method_18_199) k) ?_
          show Go p e below _ (T.setTop (mkF m 201 #[rv a, iv (1 : Int32), iv (Int32.ofNat to), iv (Int32.ofNat i), s4, s5] [(.int (35 : Int32)), (.int (own_sb (b i)))]))
          by_cases hc201_19 : b i = 35
          · skip
            refine Go.pre (fun _ k => XS.icmpYes X.here hx rfl (pc0 := 201) (pc' := 206) rfl (hb hby d_prog_16_method_18_201) rfl (teq ((own_sbe (u := b i) (k := 35) (hB _) (by omega)).mpr hc201_19)).1 (by decide) (by decide) k) ?_
            exact J206 i _ _ _ _ X N eT (by omega) (by omega) (by simp only [own_f171, eq_true hc177_13, eq_false hc185_15, eq_false hc193_17, eq_true hc201_19, ↓reduceIte] at hR; exact hR)
          · skip
            refine Go.pre (fun _ k => XS.icmpNo X.here hx rfl (hb hby d_prog_16_method_18_201) rfl (feq (fun q => hc201_19 ((own_sbe (u := b i) (k := 35) (hB _) (by omega)).mp q))).1 k) ?_
            show Go p e below _ (T.setTop (mkF m 204 #[rv a, iv (1 : Int32), iv (Int32.ofNat to), iv (Int32.ofNat i), s4, s5] []))
            refine Go.pre (fun _ k => XS.iconst X.here hx rfl (hb hby d_prog_16_method_18_204) k) ?_
            show Go p e below _ (T.setTop (mkF m 205 #[rv a, iv (1 : Int32), iv (Int32.ofNat to), iv (Int32.ofNat i), s4, s5] [(.int (0 : Int32))]))
            obtain ⟨fs, hr, hrun, hended, hW, hsame⟩ := X.leave (v := some (.int (0 : Int32))) (fun h => by rw [Bd.returns] at h; cases h)
            refine Go.fin (o := .returned (some (.int (0 : Int32)))) (retN X hx (t := .boolean) Bd.returns (by simp) (hb hby d_prog_16_method_18_205) hr) ?_
            rw [hP]
            refine ⟨hrun, hended, _, _, rfl, ?_, ⟨_, rfl⟩, hW, hsame.mono (by decide) (by decide)⟩
            show Q_plain Z a b to ck h0 n0 _ T.heap _
            rw [eT]
            have q : RR = false := (by simp only [own_f171, own_f270, eq_true hc177_13, eq_false hc185_15, eq_false hc193_17, eq_false hc201_19, ↓reduceIte] at hR; exact hR.symm)
            exact Or.inr ⟨(fun z => by rw [← hRR, q] at z; cases z), rfl, N, rfl⟩
    · skip
      refine Go.pre (fun _ k => XS.icmpYes X.here hx rfl (pc0 := 177) (pc' := 206) rfl (hb hby d_prog_16_method_18_177) rfl (flt (fun q => hc177_13 ((own_ol (a := i) (b := to) (by omega) (by omega)).mp q))).2.1 (by decide) (by decide) k) ?_
      exact J206 i _ _ _ _ X N eT (by omega) (by omega) (by simp only [own_f171, eq_false hc177_13, ↓reduceIte] at hR; exact hR)
  have J133 : ∀ (f i pp : Nat) (s4 : Slot) (T : State) (locs : List Loc), Stand p l e ({ frames := 1, cells := 0, slots := 0, locals := 16 } : Room) s m #[(.ref a), (.int (1 : Int32)), (.int (Int32.ofNat to))] below meth c T locs 0 0 → Fr n0 locs → T.heap = h0 → 1 ≤ i → i ≤ to → pp ≤ i → to - i ≤ f → own_f160 b to pp (own_dg b to f i) = RR → Go p e below P (T.setTop (mkF m 133 #[rv a, iv (1 : Int32), iv (Int32.ofNat to), iv (Int32.ofNat i), s4, iv (Int32.ofNat pp)] [])) := by
    intro f
    induction f with
    | zero =>
      intro i pp s4 T locs X N eT h1 h2 h3 h4 hR
      have hz : ¬ i < to := by omega
      show Go p e below _ (T.setTop (mkF m 133 #[rv a, iv (1 : Int32), iv (Int32.ofNat to), iv (Int32.ofNat i), s4, iv (Int32.ofNat pp)] []))
      refine Go.pre (fun _ k => XS.iloadN X.here hx rfl (hb hby d_prog_16_method_18_133) rfl k) ?_
      show Go p e below _ (T.setTop (mkF m 134 #[rv a, iv (1 : Int32), iv (Int32.ofNat to), iv (Int32.ofNat i), s4, iv (Int32.ofNat pp)] [(.int (Int32.ofNat i))]))
      refine Go.pre (fun _ k => XS.iloadN X.here hx rfl (hb hby d_prog_16_method_18_134) rfl k) ?_
      show Go p e below _ (T.setTop (mkF m 135 #[rv a, iv (1 : Int32), iv (Int32.ofNat to), iv (Int32.ofNat i), s4, iv (Int32.ofNat pp)] [(.int (Int32.ofNat to)), (.int (Int32.ofNat i))]))
      refine Go.pre (fun _ k => XS.icmpYes X.here hx rfl (pc0 := 135) (pc' := 160) rfl (hb hby d_prog_16_method_18_135) rfl (flt (fun q => hz ((own_ol (a := i) (b := to) (by omega) (by omega)).mp q))).2.1 (by decide) (by decide) k) ?_
      have hR2 : own_f160 b to pp i = RR := hR
      show Go p e below _ (T.setTop (mkF m 160 #[rv a, iv (1 : Int32), iv (Int32.ofNat to), iv (Int32.ofNat i), s4, iv (Int32.ofNat pp)] []))
      refine Go.pre (fun _ k => XS.iloadN X.here hx rfl (hb hby d_prog_16_method_18_160) rfl k) ?_
      show Go p e below _ (T.setTop (mkF m 161 #[rv a, iv (1 : Int32), iv (Int32.ofNat to), iv (Int32.ofNat i), s4, iv (Int32.ofNat pp)] [(.int (Int32.ofNat i))]))
      refine Go.pre (fun _ k => XS.iload X.here hx rfl (hb hby d_prog_16_method_18_161) rfl k) ?_
      show Go p e below _ (T.setTop (mkF m 163 #[rv a, iv (1 : Int32), iv (Int32.ofNat to), iv (Int32.ofNat i), s4, iv (Int32.ofNat pp)] [(.int (Int32.ofNat pp)), (.int (Int32.ofNat i))]))
      refine Go.pre (fun _ k => XS.isub X.here hx rfl (hb hby d_prog_16_method_18_163) rfl k) ?_
      show Go p e below _ (T.setTop (mkF m 164 #[rv a, iv (1 : Int32), iv (Int32.ofNat to), iv (Int32.ofNat i), s4, iv (Int32.ofNat pp)] [(.int ((Int32.ofNat i) - (Int32.ofNat pp)))]))
      rw [own_osub (a := i) (b := pp) (by omega)]
      show Go p e below _ (T.setTop (mkF m 164 #[rv a, iv (1 : Int32), iv (Int32.ofNat to), iv (Int32.ofNat i), s4, iv (Int32.ofNat pp)] [(.int (Int32.ofNat (i - pp)))]))
      refine Go.pre (fun _ k => XS.bipush X.here hx rfl (hb hby d_prog_16_method_18_164) k) ?_
      show Go p e below _ (T.setTop (mkF m 166 #[rv a, iv (1 : Int32), iv (Int32.ofNat to), iv (Int32.ofNat i), s4, iv (Int32.ofNat pp)] [(.int (9 : Int32)), (.int (Int32.ofNat (i - pp)))]))
      by_cases hc166_20 : 9 < i - pp
      · skip
        refine Go.pre (fun _ k => XS.icmpNo X.here hx rfl (hb hby d_prog_16_method_18_166) rfl (tlt ((own_ol (a := 9) (b := i - pp) (by omega) (by omega)).mpr hc166_20)).2.2.2 k) ?_
        show Go p e below _ (T.setTop (mkF m 169 #[rv a, iv (1 : Int32), iv (Int32.ofNat to), iv (Int32.ofNat i), s4, iv (Int32.ofNat pp)] []))
        refine Go.pre (fun _ k => XS.iconst X.here hx rfl (hb hby d_prog_16_method_18_169) k) ?_
        show Go p e below _ (T.setTop (mkF m 170 #[rv a, iv (1 : Int32), iv (Int32.ofNat to), iv (Int32.ofNat i), s4, iv (Int32.ofNat pp)] [(.int (0 : Int32))]))
        obtain ⟨fs, hr, hrun, hended, hW, hsame⟩ := X.leave (v := some (.int (0 : Int32))) (fun h => by rw [Bd.returns] at h; cases h)
        refine Go.fin (o := .returned (some (.int (0 : Int32)))) (retN X hx (t := .boolean) Bd.returns (by simp) (hb hby d_prog_16_method_18_170) hr) ?_
        rw [hP]
        refine ⟨hrun, hended, _, _, rfl, ?_, ⟨_, rfl⟩, hW, hsame.mono (by decide) (by decide)⟩
        show Q_plain Z a b to ck h0 n0 _ T.heap _
        rw [eT]
        have q : RR = false := (by simp only [own_f160, own_f270, eq_true hc166_20, ↓reduceIte] at hR2; exact hR2.symm)
        exact Or.inr ⟨(fun z => by rw [← hRR, q] at z; cases z), rfl, N, rfl⟩
      · skip
        refine Go.pre (fun _ k => XS.icmpYes X.here hx rfl (pc0 := 166) (pc' := 171) rfl (hb hby d_prog_16_method_18_166) rfl (flt (fun q => hc166_20 ((own_ol (a := 9) (b := i - pp) (by omega) (by omega)).mp q))).2.2.2 (by decide) (by decide) k) ?_
        exact J171 i _ _ _ _ X N eT (by omega) (by omega) (by simp only [own_f160, eq_false hc166_20, ↓reduceIte] at hR2; exact hR2)
    | succ f ih =>
      intro i pp s4 T locs X N eT h1 h2 h3 h4 hR
      show Go p e below _ (T.setTop (mkF m 133 #[rv a, iv (1 : Int32), iv (Int32.ofNat to), iv (Int32.ofNat i), s4, iv (Int32.ofNat pp)] []))
      refine Go.pre (fun _ k => XS.iloadN X.here hx rfl (hb hby d_prog_16_method_18_133) rfl k) ?_
      show Go p e below _ (T.setTop (mkF m 134 #[rv a, iv (1 : Int32), iv (Int32.ofNat to), iv (Int32.ofNat i), s4, iv (Int32.ofNat pp)] [(.int (Int32.ofNat i))]))
      refine Go.pre (fun _ k => XS.iloadN X.here hx rfl (hb hby d_prog_16_method_18_134) rfl k) ?_
      show Go p e below _ (T.setTop (mkF m 135 #[rv a, iv (1 : Int32), iv (Int32.ofNat to), iv (Int32.ofNat i), s4, iv (Int32.ofNat pp)] [(.int (Int32.ofNat to)), (.int (Int32.ofNat i))]))
      by_cases hc135_21 : i < to
      · skip
        refine Go.pre (fun _ k => XS.icmpNo X.here hx rfl (hb hby d_prog_16_method_18_135) rfl (tlt ((own_ol (a := i) (b := to) (by omega) (by omega)).mpr hc135_21)).2.1 k) ?_
        show Go p e below _ (T.setTop (mkF m 138 #[rv a, iv (1 : Int32), iv (Int32.ofNat to), iv (Int32.ofNat i), s4, iv (Int32.ofNat pp)] []))
        refine Go.pre (fun _ k => XS.aloadN X.here hx rfl (hb hby d_prog_16_method_18_138) rfl rfl k) ?_
        show Go p e below _ (T.setTop (mkF m 139 #[rv a, iv (1 : Int32), iv (Int32.ofNat to), iv (Int32.ofNat i), s4, iv (Int32.ofNat pp)] [(.ref a)]))
        refine Go.pre (fun _ k => XS.iloadN X.here hx rfl (hb hby d_prog_16_method_18_139) rfl k) ?_
        show Go p e below _ (T.setTop (mkF m 140 #[rv a, iv (1 : Int32), iv (Int32.ofNat to), iv (Int32.ofNat i), s4, iv (Int32.ofNat pp)] [(.int (Int32.ofNat i)), (.ref a)]))
        obtain ⟨cl22, Ar22, R22⟩ := id B
        obtain ⟨hin22, hat22⟩ := R22 i (by omega) (by omega)
        refine Go.pre (X.baloadBytes hx (j := (Int32.ofNat i)) (v := .int (own_sb (b i))) (by rw [eT]; exact Ar22.1) (State.isArrayOf_alike hZ.alike Ar22.2.1) Ar22.2.2 hin22 hat22 (g := (mkF m 140 #[rv a, iv (1 : Int32), iv (Int32.ofNat to), iv (Int32.ofNat i), s4, iv (Int32.ofNat pp)] [(.int (Int32.ofNat i)), (.ref a)])) rfl rfl (hb hby d_prog_16_method_18_140)) ?_
        show Go p e below _ (T.setTop (mkF m 141 #[rv a, iv (1 : Int32), iv (Int32.ofNat to), iv (Int32.ofNat i), s4, iv (Int32.ofNat pp)] [(.int (own_sb (b i)))]))
        refine Go.pre (fun _ k => XS.bipush X.here hx rfl (hb hby d_prog_16_method_18_141) k) ?_
        show Go p e below _ (T.setTop (mkF m 143 #[rv a, iv (1 : Int32), iv (Int32.ofNat to), iv (Int32.ofNat i), s4, iv (Int32.ofNat pp)] [(.int (48 : Int32)), (.int (own_sb (b i)))]))
        by_cases hc143_23 : (b i < 48 ∨ 128 ≤ b i)
        · skip
          refine Go.pre (fun _ k => XS.icmpYes X.here hx rfl (pc0 := 143) (pc' := 160) rfl (hb hby d_prog_16_method_18_143) rfl (tlt ((own_sbl (u := b i) (k := 48) (hB _) (by omega)).mpr hc143_23)).1 (by decide) (by decide) k) ?_
          have hdg : ¬ own_digit (b i) = true := fun q => by have q := own_digit_iff.mp q; omega
          have hR2 : own_f160 b to pp i = RR := by simp only [own_dg_s, eq_true hc135_21, eq_true hc143_23, eq_false hdg, ↓reduceIte] at hR; exact hR
          show Go p e below _ (T.setTop (mkF m 160 #[rv a, iv (1 : Int32), iv (Int32.ofNat to), iv (Int32.ofNat i), s4, iv (Int32.ofNat pp)] []))
          refine Go.pre (fun _ k => XS.iloadN X.here hx rfl (hb hby d_prog_16_method_18_160) rfl k) ?_
          show Go p e below _ (T.setTop (mkF m 161 #[rv a, iv (1 : Int32), iv (Int32.ofNat to), iv (Int32.ofNat i), s4, iv (Int32.ofNat pp)] [(.int (Int32.ofNat i))]))
          refine Go.pre (fun _ k => XS.iload X.here hx rfl (hb hby d_prog_16_method_18_161) rfl k) ?_
          show Go p e below _ (T.setTop (mkF m 163 #[rv a, iv (1 : Int32), iv (Int32.ofNat to), iv (Int32.ofNat i), s4, iv (Int32.ofNat pp)] [(.int (Int32.ofNat pp)), (.int (Int32.ofNat i))]))
          refine Go.pre (fun _ k => XS.isub X.here hx rfl (hb hby d_prog_16_method_18_163) rfl k) ?_
          show Go p e below _ (T.setTop (mkF m 164 #[rv a, iv (1 : Int32), iv (Int32.ofNat to), iv (Int32.ofNat i), s4, iv (Int32.ofNat pp)] [(.int ((Int32.ofNat i) - (Int32.ofNat pp)))]))
          rw [own_osub (a := i) (b := pp) (by omega)]
          show Go p e below _ (T.setTop (mkF m 164 #[rv a, iv (1 : Int32), iv (Int32.ofNat to), iv (Int32.ofNat i), s4, iv (Int32.ofNat pp)] [(.int (Int32.ofNat (i - pp)))]))
          refine Go.pre (fun _ k => XS.bipush X.here hx rfl (hb hby d_prog_16_method_18_164) k) ?_
          show Go p e below _ (T.setTop (mkF m 166 #[rv a, iv (1 : Int32), iv (Int32.ofNat to), iv (Int32.ofNat i), s4, iv (Int32.ofNat pp)] [(.int (9 : Int32)), (.int (Int32.ofNat (i - pp)))]))
          by_cases hc166_24 : 9 < i - pp
          · skip
            refine Go.pre (fun _ k => XS.icmpNo X.here hx rfl (hb hby d_prog_16_method_18_166) rfl (tlt ((own_ol (a := 9) (b := i - pp) (by omega) (by omega)).mpr hc166_24)).2.2.2 k) ?_
            show Go p e below _ (T.setTop (mkF m 169 #[rv a, iv (1 : Int32), iv (Int32.ofNat to), iv (Int32.ofNat i), s4, iv (Int32.ofNat pp)] []))
            refine Go.pre (fun _ k => XS.iconst X.here hx rfl (hb hby d_prog_16_method_18_169) k) ?_
            show Go p e below _ (T.setTop (mkF m 170 #[rv a, iv (1 : Int32), iv (Int32.ofNat to), iv (Int32.ofNat i), s4, iv (Int32.ofNat pp)] [(.int (0 : Int32))]))
            obtain ⟨fs, hr, hrun, hended, hW, hsame⟩ := X.leave (v := some (.int (0 : Int32))) (fun h => by rw [Bd.returns] at h; cases h)
            refine Go.fin (o := .returned (some (.int (0 : Int32)))) (retN X hx (t := .boolean) Bd.returns (by simp) (hb hby d_prog_16_method_18_170) hr) ?_
            rw [hP]
            refine ⟨hrun, hended, _, _, rfl, ?_, ⟨_, rfl⟩, hW, hsame.mono (by decide) (by decide)⟩
            show Q_plain Z a b to ck h0 n0 _ T.heap _
            rw [eT]
            have q : RR = false := (by simp only [own_f160, own_f270, eq_true hc166_24, ↓reduceIte] at hR2; exact hR2.symm)
            exact Or.inr ⟨(fun z => by rw [← hRR, q] at z; cases z), rfl, N, rfl⟩
          · skip
            refine Go.pre (fun _ k => XS.icmpYes X.here hx rfl (pc0 := 166) (pc' := 171) rfl (hb hby d_prog_16_method_18_166) rfl (flt (fun q => hc166_24 ((own_ol (a := 9) (b := i - pp) (by omega) (by omega)).mp q))).2.2.2 (by decide) (by decide) k) ?_
            exact J171 i _ _ _ _ X N eT (by omega) (by omega) (by simp only [own_f160, eq_false hc166_24, ↓reduceIte] at hR2; exact hR2)
        · skip
          refine Go.pre (fun _ k => XS.icmpNo X.here hx rfl (hb hby d_prog_16_method_18_143) rfl (flt (fun q => hc143_23 ((own_sbl (u := b i) (k := 48) (hB _) (by omega)).mp q))).1 k) ?_
          show Go p e below _ (T.setTop (mkF m 146 #[rv a, iv (1 : Int32), iv (Int32.ofNat to), iv (Int32.ofNat i), s4, iv (Int32.ofNat pp)] []))
          refine Go.pre (fun _ k => XS.aloadN X.here hx rfl (hb hby d_prog_16_method_18_146) rfl rfl k) ?_
          show Go p e below _ (T.setTop (mkF m 147 #[rv a, iv (1 : Int32), iv (Int32.ofNat to), iv (Int32.ofNat i), s4, iv (Int32.ofNat pp)] [(.ref a)]))
          refine Go.pre (fun _ k => XS.iloadN X.here hx rfl (hb hby d_prog_16_method_18_147) rfl k) ?_
          show Go p e below _ (T.setTop (mkF m 148 #[rv a, iv (1 : Int32), iv (Int32.ofNat to), iv (Int32.ofNat i), s4, iv (Int32.ofNat pp)] [(.int (Int32.ofNat i)), (.ref a)]))
          obtain ⟨cl25, Ar25, R25⟩ := id B
          obtain ⟨hin25, hat25⟩ := R25 i (by omega) (by omega)
          refine Go.pre (X.baloadBytes hx (j := (Int32.ofNat i)) (v := .int (own_sb (b i))) (by rw [eT]; exact Ar25.1) (State.isArrayOf_alike hZ.alike Ar25.2.1) Ar25.2.2 hin25 hat25 (g := (mkF m 148 #[rv a, iv (1 : Int32), iv (Int32.ofNat to), iv (Int32.ofNat i), s4, iv (Int32.ofNat pp)] [(.int (Int32.ofNat i)), (.ref a)])) rfl rfl (hb hby d_prog_16_method_18_148)) ?_
          show Go p e below _ (T.setTop (mkF m 149 #[rv a, iv (1 : Int32), iv (Int32.ofNat to), iv (Int32.ofNat i), s4, iv (Int32.ofNat pp)] [(.int (own_sb (b i)))]))
          refine Go.pre (fun _ k => XS.bipush X.here hx rfl (hb hby d_prog_16_method_18_149) k) ?_
          show Go p e below _ (T.setTop (mkF m 151 #[rv a, iv (1 : Int32), iv (Int32.ofNat to), iv (Int32.ofNat i), s4, iv (Int32.ofNat pp)] [(.int (57 : Int32)), (.int (own_sb (b i)))]))
          by_cases hc151_26 : (57 < b i ∧ b i < 128)
          · skip
            refine Go.pre (fun _ k => XS.icmpYes X.here hx rfl (pc0 := 151) (pc' := 160) rfl (hb hby d_prog_16_method_18_151) rfl (tlt ((own_sbg (u := b i) (k := 57) (hB _) (by omega)).mpr hc151_26)).2.2.1 (by decide) (by decide) k) ?_
            have hdg : ¬ own_digit (b i) = true := fun q => by have q := own_digit_iff.mp q; omega
            have hR2 : own_f160 b to pp i = RR := by simp only [own_dg_s, eq_true hc135_21, eq_false hc143_23, eq_true hc151_26, eq_false hdg, ↓reduceIte] at hR; exact hR
            show Go p e below _ (T.setTop (mkF m 160 #[rv a, iv (1 : Int32), iv (Int32.ofNat to), iv (Int32.ofNat i), s4, iv (Int32.ofNat pp)] []))
            refine Go.pre (fun _ k => XS.iloadN X.here hx rfl (hb hby d_prog_16_method_18_160) rfl k) ?_
            show Go p e below _ (T.setTop (mkF m 161 #[rv a, iv (1 : Int32), iv (Int32.ofNat to), iv (Int32.ofNat i), s4, iv (Int32.ofNat pp)] [(.int (Int32.ofNat i))]))
            refine Go.pre (fun _ k => XS.iload X.here hx rfl (hb hby d_prog_16_method_18_161) rfl k) ?_
            show Go p e below _ (T.setTop (mkF m 163 #[rv a, iv (1 : Int32), iv (Int32.ofNat to), iv (Int32.ofNat i), s4, iv (Int32.ofNat pp)] [(.int (Int32.ofNat pp)), (.int (Int32.ofNat i))]))
            refine Go.pre (fun _ k => XS.isub X.here hx rfl (hb hby d_prog_16_method_18_163) rfl k) ?_
            show Go p e below _ (T.setTop (mkF m 164 #[rv a, iv (1 : Int32), iv (Int32.ofNat to), iv (Int32.ofNat i), s4, iv (Int32.ofNat pp)] [(.int ((Int32.ofNat i) - (Int32.ofNat pp)))]))
            rw [own_osub (a := i) (b := pp) (by omega)]
            show Go p e below _ (T.setTop (mkF m 164 #[rv a, iv (1 : Int32), iv (Int32.ofNat to), iv (Int32.ofNat i), s4, iv (Int32.ofNat pp)] [(.int (Int32.ofNat (i - pp)))]))
            refine Go.pre (fun _ k => XS.bipush X.here hx rfl (hb hby d_prog_16_method_18_164) k) ?_
            show Go p e below _ (T.setTop (mkF m 166 #[rv a, iv (1 : Int32), iv (Int32.ofNat to), iv (Int32.ofNat i), s4, iv (Int32.ofNat pp)] [(.int (9 : Int32)), (.int (Int32.ofNat (i - pp)))]))
            by_cases hc166_27 : 9 < i - pp
            · skip
              refine Go.pre (fun _ k => XS.icmpNo X.here hx rfl (hb hby d_prog_16_method_18_166) rfl (tlt ((own_ol (a := 9) (b := i - pp) (by omega) (by omega)).mpr hc166_27)).2.2.2 k) ?_
              show Go p e below _ (T.setTop (mkF m 169 #[rv a, iv (1 : Int32), iv (Int32.ofNat to), iv (Int32.ofNat i), s4, iv (Int32.ofNat pp)] []))
              refine Go.pre (fun _ k => XS.iconst X.here hx rfl (hb hby d_prog_16_method_18_169) k) ?_
              show Go p e below _ (T.setTop (mkF m 170 #[rv a, iv (1 : Int32), iv (Int32.ofNat to), iv (Int32.ofNat i), s4, iv (Int32.ofNat pp)] [(.int (0 : Int32))]))
              obtain ⟨fs, hr, hrun, hended, hW, hsame⟩ := X.leave (v := some (.int (0 : Int32))) (fun h => by rw [Bd.returns] at h; cases h)
              refine Go.fin (o := .returned (some (.int (0 : Int32)))) (retN X hx (t := .boolean) Bd.returns (by simp) (hb hby d_prog_16_method_18_170) hr) ?_
              rw [hP]
              refine ⟨hrun, hended, _, _, rfl, ?_, ⟨_, rfl⟩, hW, hsame.mono (by decide) (by decide)⟩
              show Q_plain Z a b to ck h0 n0 _ T.heap _
              rw [eT]
              have q : RR = false := (by simp only [own_f160, own_f270, eq_true hc166_27, ↓reduceIte] at hR2; exact hR2.symm)
              exact Or.inr ⟨(fun z => by rw [← hRR, q] at z; cases z), rfl, N, rfl⟩
            · skip
              refine Go.pre (fun _ k => XS.icmpYes X.here hx rfl (pc0 := 166) (pc' := 171) rfl (hb hby d_prog_16_method_18_166) rfl (flt (fun q => hc166_27 ((own_ol (a := 9) (b := i - pp) (by omega) (by omega)).mp q))).2.2.2 (by decide) (by decide) k) ?_
              exact J171 i _ _ _ _ X N eT (by omega) (by omega) (by simp only [own_f160, eq_false hc166_27, ↓reduceIte] at hR2; exact hR2)
          · skip
            refine Go.pre (fun _ k => XS.icmpNo X.here hx rfl (hb hby d_prog_16_method_18_151) rfl (flt (fun q => hc151_26 ((own_sbg (u := b i) (k := 57) (hB _) (by omega)).mp q))).2.2.1 k) ?_
            show Go p e below _ (T.setTop (mkF m 154 #[rv a, iv (1 : Int32), iv (Int32.ofNat to), iv (Int32.ofNat i), s4, iv (Int32.ofNat pp)] []))
            refine Go.pre (fun _ k => XS.iinc X.here hx rfl (hb hby d_prog_16_method_18_154) rfl (l' := #[rv a, iv (1 : Int32), iv (Int32.ofNat to), iv ((Int32.ofNat i) + (Int32.ofNat 1)), s4, iv (Int32.ofNat pp)]) rfl k) ?_
            show Go p e below _ (T.setTop (mkF m 157 #[rv a, iv (1 : Int32), iv (Int32.ofNat to), iv ((Int32.ofNat i) + (Int32.ofNat 1)), s4, iv (Int32.ofNat pp)] []))
            rw [own_oadd]
            show Go p e below _ (T.setTop (mkF m 157 #[rv a, iv (1 : Int32), iv (Int32.ofNat to), iv (Int32.ofNat (i + 1)), s4, iv (Int32.ofNat pp)] []))
            refine Go.pre (fun _ k => XS.goto X.here hx rfl (pc0 := 157) (pc' := 133) rfl (hb hby d_prog_16_method_18_157) (by decide) (by decide) k) ?_
            have hdg : own_digit (b i) = true := own_digit_iff.mpr (by omega)
            exact ih (i + 1) _ _ _ _ X N eT (by omega) (by omega) (by omega) (by omega) (by simp only [own_dg_s, eq_true hc135_21, eq_false hc143_23, eq_false hc151_26, eq_true hdg, ↓reduceIte] at hR; exact hR)
      · skip
        refine Go.pre (fun _ k => XS.icmpYes X.here hx rfl (pc0 := 135) (pc' := 160) rfl (hb hby d_prog_16_method_18_135) rfl (flt (fun q => hc135_21 ((own_ol (a := i) (b := to) (by omega) (by omega)).mp q))).2.1 (by decide) (by decide) k) ?_
        have hR2 : own_f160 b to pp i = RR := by simp only [own_dg_s, eq_false hc135_21, ↓reduceIte] at hR; exact hR
        show Go p e below _ (T.setTop (mkF m 160 #[rv a, iv (1 : Int32), iv (Int32.ofNat to), iv (Int32.ofNat i), s4, iv (Int32.ofNat pp)] []))
        refine Go.pre (fun _ k => XS.iloadN X.here hx rfl (hb hby d_prog_16_method_18_160) rfl k) ?_
        show Go p e below _ (T.setTop (mkF m 161 #[rv a, iv (1 : Int32), iv (Int32.ofNat to), iv (Int32.ofNat i), s4, iv (Int32.ofNat pp)] [(.int (Int32.ofNat i))]))
        refine Go.pre (fun _ k => XS.iload X.here hx rfl (hb hby d_prog_16_method_18_161) rfl k) ?_
        show Go p e below _ (T.setTop (mkF m 163 #[rv a, iv (1 : Int32), iv (Int32.ofNat to), iv (Int32.ofNat i), s4, iv (Int32.ofNat pp)] [(.int (Int32.ofNat pp)), (.int (Int32.ofNat i))]))
        refine Go.pre (fun _ k => XS.isub X.here hx rfl (hb hby d_prog_16_method_18_163) rfl k) ?_
        show Go p e below _ (T.setTop (mkF m 164 #[rv a, iv (1 : Int32), iv (Int32.ofNat to), iv (Int32.ofNat i), s4, iv (Int32.ofNat pp)] [(.int ((Int32.ofNat i) - (Int32.ofNat pp)))]))
        rw [own_osub (a := i) (b := pp) (by omega)]
        show Go p e below _ (T.setTop (mkF m 164 #[rv a, iv (1 : Int32), iv (Int32.ofNat to), iv (Int32.ofNat i), s4, iv (Int32.ofNat pp)] [(.int (Int32.ofNat (i - pp)))]))
        refine Go.pre (fun _ k => XS.bipush X.here hx rfl (hb hby d_prog_16_method_18_164) k) ?_
        show Go p e below _ (T.setTop (mkF m 166 #[rv a, iv (1 : Int32), iv (Int32.ofNat to), iv (Int32.ofNat i), s4, iv (Int32.ofNat pp)] [(.int (9 : Int32)), (.int (Int32.ofNat (i - pp)))]))
        by_cases hc166_28 : 9 < i - pp
        · skip
          refine Go.pre (fun _ k => XS.icmpNo X.here hx rfl (hb hby d_prog_16_method_18_166) rfl (tlt ((own_ol (a := 9) (b := i - pp) (by omega) (by omega)).mpr hc166_28)).2.2.2 k) ?_
          show Go p e below _ (T.setTop (mkF m 169 #[rv a, iv (1 : Int32), iv (Int32.ofNat to), iv (Int32.ofNat i), s4, iv (Int32.ofNat pp)] []))
          refine Go.pre (fun _ k => XS.iconst X.here hx rfl (hb hby d_prog_16_method_18_169) k) ?_
          show Go p e below _ (T.setTop (mkF m 170 #[rv a, iv (1 : Int32), iv (Int32.ofNat to), iv (Int32.ofNat i), s4, iv (Int32.ofNat pp)] [(.int (0 : Int32))]))
          obtain ⟨fs, hr, hrun, hended, hW, hsame⟩ := X.leave (v := some (.int (0 : Int32))) (fun h => by rw [Bd.returns] at h; cases h)
          refine Go.fin (o := .returned (some (.int (0 : Int32)))) (retN X hx (t := .boolean) Bd.returns (by simp) (hb hby d_prog_16_method_18_170) hr) ?_
          rw [hP]
          refine ⟨hrun, hended, _, _, rfl, ?_, ⟨_, rfl⟩, hW, hsame.mono (by decide) (by decide)⟩
          show Q_plain Z a b to ck h0 n0 _ T.heap _
          rw [eT]
          have q : RR = false := (by simp only [own_f160, own_f270, eq_true hc166_28, ↓reduceIte] at hR2; exact hR2.symm)
          exact Or.inr ⟨(fun z => by rw [← hRR, q] at z; cases z), rfl, N, rfl⟩
        · skip
          refine Go.pre (fun _ k => XS.icmpYes X.here hx rfl (pc0 := 166) (pc' := 171) rfl (hb hby d_prog_16_method_18_166) rfl (flt (fun q => hc166_28 ((own_ol (a := 9) (b := i - pp) (by omega) (by omega)).mp q))).2.2.2 (by decide) (by decide) k) ?_
          exact J171 i _ _ _ _ X N eT (by omega) (by omega) (by simp only [own_f160, eq_false hc166_28, ↓reduceIte] at hR2; exact hR2)
  show Go p e below _ (s₁.setTop (mkF m 0 #[rv a, iv (1 : Int32), iv (Int32.ofNat to), .unset, .unset, .unset] []))
  refine Go.pre (fun _ k => XS.iloadN X0.here hx rfl (hb hby d_prog_16_method_18_0) rfl k) ?_
  show Go p e below _ (s₁.setTop (mkF m 1 #[rv a, iv (1 : Int32), iv (Int32.ofNat to), .unset, .unset, .unset] [(.int (1 : Int32))]))
  refine Go.pre (fun _ k => XS.iloadN X0.here hx rfl (hb hby d_prog_16_method_18_1) rfl k) ?_
  show Go p e below _ (s₁.setTop (mkF m 2 #[rv a, iv (1 : Int32), iv (Int32.ofNat to), .unset, .unset, .unset] [(.int (Int32.ofNat to)), (.int (1 : Int32))]))
  by_cases hc2_29 : 1 = to
  · skip
    refine Go.pre (fun _ k => XS.icmpYes X0.here hx rfl (pc0 := 2) (pc' := 14) rfl (hb hby d_prog_16_method_18_2) rfl (teq ((own_oe (a := 1) (b := to) (by omega) (by omega)).mpr hc2_29)).1 (by decide) (by decide) k) ?_
    show Go p e below _ (s₁.setTop (mkF m 14 #[rv a, iv (1 : Int32), iv (Int32.ofNat to), .unset, .unset, .unset] []))
    refine Go.pre (fun _ k => XS.iconst X0.here hx rfl (hb hby d_prog_16_method_18_14) k) ?_
    show Go p e below _ (s₁.setTop (mkF m 15 #[rv a, iv (1 : Int32), iv (Int32.ofNat to), .unset, .unset, .unset] [(.int (0 : Int32))]))
    obtain ⟨fs, hr, hrun, hended, hW, hsame⟩ := X0.leave (v := some (.int (0 : Int32))) (fun h => by rw [Bd.returns] at h; cases h)
    refine Go.fin (o := .returned (some (.int (0 : Int32)))) (retN X0 hx (t := .boolean) Bd.returns (by simp) (hb hby d_prog_16_method_18_15) hr) ?_
    rw [hP]
    refine ⟨hrun, hended, _, _, rfl, ?_, ⟨_, rfl⟩, hW, hsame.mono (by decide) (by decide)⟩
    show Q_plain Z a b to ck h0 n0 _ s₁.heap _
    rw [e0]
    have q : RR = false := (by simp only [hRR, own_plain, own_f24, own_f51, own_f81, own_f108, eq_true hc2_29, ↓reduceIte])
    exact Or.inr ⟨(fun z => by rw [← hRR, q] at z; cases z), rfl, N0, rfl⟩
  · skip
    refine Go.pre (fun _ k => XS.icmpNo X0.here hx rfl (hb hby d_prog_16_method_18_2) rfl (feq (fun q => hc2_29 ((own_oe (a := 1) (b := to) (by omega) (by omega)).mp q))).1 k) ?_
    show Go p e below _ (s₁.setTop (mkF m 5 #[rv a, iv (1 : Int32), iv (Int32.ofNat to), .unset, .unset, .unset] []))
    refine Go.pre (fun _ k => XS.aloadN X0.here hx rfl (hb hby d_prog_16_method_18_5) rfl rfl k) ?_
    show Go p e below _ (s₁.setTop (mkF m 6 #[rv a, iv (1 : Int32), iv (Int32.ofNat to), .unset, .unset, .unset] [(.ref a)]))
    refine Go.pre (fun _ k => XS.iloadN X0.here hx rfl (hb hby d_prog_16_method_18_6) rfl k) ?_
    show Go p e below _ (s₁.setTop (mkF m 7 #[rv a, iv (1 : Int32), iv (Int32.ofNat to), .unset, .unset, .unset] [(.int (1 : Int32)), (.ref a)]))
    obtain ⟨cl30, Ar30, R30⟩ := id B
    obtain ⟨hin30, hat30⟩ := R30 1 (by omega) (by omega)
    refine Go.pre (X0.baloadBytes hx (j := (Int32.ofNat 1)) (v := .int (own_sb (b 1))) (by rw [e0]; exact Ar30.1) (State.isArrayOf_alike hZ.alike Ar30.2.1) Ar30.2.2 hin30 hat30 (g := (mkF m 7 #[rv a, iv (1 : Int32), iv (Int32.ofNat to), .unset, .unset, .unset] [(.int (1 : Int32)), (.ref a)])) rfl rfl (hb hby d_prog_16_method_18_7)) ?_
    show Go p e below _ (s₁.setTop (mkF m 8 #[rv a, iv (1 : Int32), iv (Int32.ofNat to), .unset, .unset, .unset] [(.int (own_sb (b 1)))]))
    obtain ⟨_, _, ⟨T31, L31, k31, n31⟩, -, X31, ⟨Lc31, hQ31, l31, y31, z31⟩, st31⟩ := Jvm.LawKit.callS X0 hx (y := (⟨"com/example/entayl/entayl/input/IriTable", "isLetter", "(B)Z"⟩ : MethodName)) hown (mvT hZ (hw _ (List.mem_of_getElem? (i := 6) rfl))) (mvT hZ (hw _ (List.mem_of_getElem? (i := 7) rfl))) (mvT hZ (hw _ (List.mem_of_getElem? (i := 4) rfl))) (mvT hZ (hw _ (List.mem_of_getElem? (i := 8) rfl))) (by decide) (backOf (W := 0) (rm_isLetter l Z a0 hw [] (b 1) h0 n0 Z0 (hB _)) hZ (hw _ (List.mem_of_getElem? (i := 8) rfl)) (hw _ (List.mem_of_getElem? (i := 4) rfl)) (by decide) (by decide)) (g := (mkF m 8 #[rv a, iv (1 : Int32), iv (Int32.ofNat to), .unset, .unset, .unset] [(.int (own_sb (b 1)))])) rfl (by rw [hml]; rfl) (argsL := [(.int (own_sb (b 1)))]) (rest := []) (lenOf pd_2 rfl) rfl (by show 2 * 0 + _ ≤ _; exact Nat.le_of_eq rfl) (hb hby d_prog_16_method_18_8) (fun _ _ => ⟨rfl, e0, (by decide : 0 + 0 ≤ _), (by decide : 0 + 0 ≤ _)⟩)
    dsimp only [Pt.U, Pt.locs, Pt.cells, Pt.slots] at X31 l31 y31 z31 st31 hQ31
    subst l31 y31 z31
    refine Go.pre st31 ?_
    rcases hQ31 with ⟨hp31, rfl, N31q, eh31⟩ | ⟨hp31, rfl, N31q, eh31⟩
    · skip
      have N31 := Fr.app N0 N31q
      show Go p e below _ (T31.setTop (mkF m 11 #[rv a, iv (1 : Int32), iv (Int32.ofNat to), .unset, .unset, .unset] [(.int (1 : Int32))]))
      refine Go.pre (fun _ k => XS.ifYes X31.here hx rfl (pc0 := 11) (pc' := 16) rfl (hb hby d_prog_16_method_18_11) rfl ((if0 _ _).trans (feq (by decide : ¬ ((1 : Int32) = (0 : Int32)))).2) (by decide) (by decide) k) ?_
      show Go p e below _ (T31.setTop (mkF m 16 #[rv a, iv (1 : Int32), iv (Int32.ofNat to), .unset, .unset, .unset] []))
      refine Go.pre (fun _ k => XS.aloadN X31.here hx rfl (hb hby d_prog_16_method_18_16) rfl rfl k) ?_
      show Go p e below _ (T31.setTop (mkF m 17 #[rv a, iv (1 : Int32), iv (Int32.ofNat to), .unset, .unset, .unset] [(.ref a)]))
      refine Go.pre (fun _ k => XS.iloadN X31.here hx rfl (hb hby d_prog_16_method_18_17) rfl k) ?_
      show Go p e below _ (T31.setTop (mkF m 18 #[rv a, iv (1 : Int32), iv (Int32.ofNat to), .unset, .unset, .unset] [(.int (1 : Int32)), (.ref a)]))
      refine Go.pre (fun _ k => XS.iloadN X31.here hx rfl (hb hby d_prog_16_method_18_18) rfl k) ?_
      show Go p e below _ (T31.setTop (mkF m 19 #[rv a, iv (1 : Int32), iv (Int32.ofNat to), .unset, .unset, .unset] [(.int (Int32.ofNat to)), (.int (1 : Int32)), (.ref a)]))
      refine Go.pre (fun _ k => XS.iconst X31.here hx rfl (hb hby d_prog_16_method_18_19) k) ?_
      show Go p e below _ (T31.setTop (mkF m 20 #[rv a, iv (1 : Int32), iv (Int32.ofNat to), .unset, .unset, .unset] [(.int (1 : Int32)), (.int (Int32.ofNat to)), (.int (1 : Int32)), (.ref a)]))
      obtain ⟨_, _, ⟨T32, L32, k32, n32⟩, -, X32, ⟨Lc32, hQ32, l32, y32, z32⟩, st32⟩ := Jvm.LawKit.callS X31 hx (y := (⟨"com/example/entayl/entayl/input/IriTable", "skip", "([BIII)I"⟩ : MethodName)) hown (mvT hZ (hw _ (List.mem_of_getElem? (i := 9) rfl))) (mvT hZ (hw _ (List.mem_of_getElem? (i := 10) rfl))) (mvT hZ (hw _ (List.mem_of_getElem? (i := 4) rfl))) (mvT hZ (hw _ (List.mem_of_getElem? (i := 11) rfl))) (by decide) (backOf (W := 0) (rm_skip l Z a0 hw [] a b 1 to 1 ck h0 n0 Z0 B hB hto SK KD (by omega) (by omega) (by omega)) hZ (hw _ (List.mem_of_getElem? (i := 11) rfl)) (hw _ (List.mem_of_getElem? (i := 4) rfl)) (by decide) (by decide)) (g := (mkF m 20 #[rv a, iv (1 : Int32), iv (Int32.ofNat to), .unset, .unset, .unset] [(.int (1 : Int32)), (.int (Int32.ofNat to)), (.int (1 : Int32)), (.ref a)])) rfl (by rw [hml]; rfl) (argsL := [(.ref a), (.int (1 : Int32)), (.int (Int32.ofNat to)), (.int (1 : Int32))]) (rest := []) (lenOf pd_1 rfl) rfl (by show 2 * 0 + _ ≤ _; exact Nat.le_of_eq rfl) (hb hby d_prog_16_method_18_20) (fun _ _ => ⟨rfl, eh31, (by decide : 0 + 0 ≤ _), (by decide : 0 + 0 ≤ _)⟩)
      dsimp only [Pt.U, Pt.locs, Pt.cells, Pt.slots] at X32 l32 y32 z32 st32 hQ32
      subst l32 y32 z32
      refine Go.pre st32 ?_
      rcases hQ32 with ⟨hp32, rfl, N32q, eh32⟩ | ⟨e32, hp32, hb32, hc32b, rfl, N32q, eh32⟩
      · skip
        have N32 := Fr.app N31 N32q
        exact absurd hp32 (own_sk1 _ _ _ _)
      · skip
        have N32 := Fr.app N31 N32q
        show Go p e below _ (T32.setTop (mkF m 23 #[rv a, iv (1 : Int32), iv (Int32.ofNat to), .unset, .unset, .unset] [(.int (Int32.ofNat e32))]))
        refine Go.pre (fun _ k => XS.istoreN X32.here hx rfl (hb hby d_prog_16_method_18_23) rfl (l' := #[rv a, iv (1 : Int32), iv (Int32.ofNat to), iv (Int32.ofNat e32), .unset, .unset]) rfl k) ?_
        show Go p e below _ (T32.setTop (mkF m 24 #[rv a, iv (1 : Int32), iv (Int32.ofNat to), iv (Int32.ofNat e32), .unset, .unset] []))
        refine Go.pre (fun _ k => XS.iloadN X32.here hx rfl (hb hby d_prog_16_method_18_24) rfl k) ?_
        show Go p e below _ (T32.setTop (mkF m 25 #[rv a, iv (1 : Int32), iv (Int32.ofNat to), iv (Int32.ofNat e32), .unset, .unset] [(.int (Int32.ofNat e32))]))
        refine Go.pre (fun _ k => XS.iloadN X32.here hx rfl (hb hby d_prog_16_method_18_25) rfl k) ?_
        show Go p e below _ (T32.setTop (mkF m 26 #[rv a, iv (1 : Int32), iv (Int32.ofNat to), iv (Int32.ofNat e32), .unset, .unset] [(.int (Int32.ofNat to)), (.int (Int32.ofNat e32))]))
        by_cases hc26_33 : e32 = to
        · skip
          refine Go.pre (fun _ k => XS.icmpYes X32.here hx rfl (pc0 := 26) (pc' := 46) rfl (hb hby d_prog_16_method_18_26) rfl (teq ((own_oe (a := e32) (b := to) (by omega) (by omega)).mpr hc26_33)).1 (by decide) (by decide) k) ?_
          show Go p e below _ (T32.setTop (mkF m 46 #[rv a, iv (1 : Int32), iv (Int32.ofNat to), iv (Int32.ofNat e32), .unset, .unset] []))
          refine Go.pre (fun _ k => XS.iconst X32.here hx rfl (hb hby d_prog_16_method_18_46) k) ?_
          show Go p e below _ (T32.setTop (mkF m 47 #[rv a, iv (1 : Int32), iv (Int32.ofNat to), iv (Int32.ofNat e32), .unset, .unset] [(.int (0 : Int32))]))
          obtain ⟨fs, hr, hrun, hended, hW, hsame⟩ := X32.leave (v := some (.int (0 : Int32))) (fun h => by rw [Bd.returns] at h; cases h)
          refine Go.fin (o := .returned (some (.int (0 : Int32)))) (retN X32 hx (t := .boolean) Bd.returns (by simp) (hb hby d_prog_16_method_18_47) hr) ?_
          rw [hP]
          refine ⟨hrun, hended, _, _, rfl, ?_, ⟨_, rfl⟩, hW, hsame.mono (by decide) (by decide)⟩
          show Q_plain Z a b to ck h0 n0 _ T32.heap _
          rw [eh32]
          have q : RR = false := (by simp only [hRR, own_plain, own_f24, own_f51, own_f81, own_f108, eq_false hc2_29, eq_true hp31, hp32, eq_true hc26_33, ↓reduceIte])
          exact Or.inr ⟨(fun z => by rw [← hRR, q] at z; cases z), rfl, N32, rfl⟩
        · skip
          refine Go.pre (fun _ k => XS.icmpNo X32.here hx rfl (hb hby d_prog_16_method_18_26) rfl (feq (fun q => hc26_33 ((own_oe (a := e32) (b := to) (by omega) (by omega)).mp q))).1 k) ?_
          show Go p e below _ (T32.setTop (mkF m 29 #[rv a, iv (1 : Int32), iv (Int32.ofNat to), iv (Int32.ofNat e32), .unset, .unset] []))
          refine Go.pre (fun _ k => XS.aloadN X32.here hx rfl (hb hby d_prog_16_method_18_29) rfl rfl k) ?_
          show Go p e below _ (T32.setTop (mkF m 30 #[rv a, iv (1 : Int32), iv (Int32.ofNat to), iv (Int32.ofNat e32), .unset, .unset] [(.ref a)]))
          refine Go.pre (fun _ k => XS.iloadN X32.here hx rfl (hb hby d_prog_16_method_18_30) rfl k) ?_
          show Go p e below _ (T32.setTop (mkF m 31 #[rv a, iv (1 : Int32), iv (Int32.ofNat to), iv (Int32.ofNat e32), .unset, .unset] [(.int (Int32.ofNat e32)), (.ref a)]))
          obtain ⟨cl34, Ar34, R34⟩ := id B
          obtain ⟨hin34, hat34⟩ := R34 e32 (by omega) (by omega)
          refine Go.pre (X32.baloadBytes hx (j := (Int32.ofNat e32)) (v := .int (own_sb (b e32))) (by rw [eh32]; exact Ar34.1) (State.isArrayOf_alike hZ.alike Ar34.2.1) Ar34.2.2 hin34 hat34 (g := (mkF m 31 #[rv a, iv (1 : Int32), iv (Int32.ofNat to), iv (Int32.ofNat e32), .unset, .unset] [(.int (Int32.ofNat e32)), (.ref a)])) rfl rfl (hb hby d_prog_16_method_18_31)) ?_
          show Go p e below _ (T32.setTop (mkF m 32 #[rv a, iv (1 : Int32), iv (Int32.ofNat to), iv (Int32.ofNat e32), .unset, .unset] [(.int (own_sb (b e32)))]))
          refine Go.pre (fun _ k => XS.bipush X32.here hx rfl (hb hby d_prog_16_method_18_32) k) ?_
          show Go p e below _ (T32.setTop (mkF m 34 #[rv a, iv (1 : Int32), iv (Int32.ofNat to), iv (Int32.ofNat e32), .unset, .unset] [(.int (58 : Int32)), (.int (own_sb (b e32)))]))
          by_cases hc34_35 : b e32 = 58
          · skip
            refine Go.pre (fun _ k => XS.icmpNo X32.here hx rfl (hb hby d_prog_16_method_18_34) rfl (teq ((own_sbe (u := b e32) (k := 58) (hB _) (by omega)).mpr hc34_35)).2 k) ?_
            show Go p e below _ (T32.setTop (mkF m 37 #[rv a, iv (1 : Int32), iv (Int32.ofNat to), iv (Int32.ofNat e32), .unset, .unset] []))
            refine Go.pre (fun _ k => XS.aloadN X32.here hx rfl (hb hby d_prog_16_method_18_37) rfl rfl k) ?_
            show Go p e below _ (T32.setTop (mkF m 38 #[rv a, iv (1 : Int32), iv (Int32.ofNat to), iv (Int32.ofNat e32), .unset, .unset] [(.ref a)]))
            refine Go.pre (fun _ k => XS.iloadN X32.here hx rfl (hb hby d_prog_16_method_18_38) rfl k) ?_
            show Go p e below _ (T32.setTop (mkF m 39 #[rv a, iv (1 : Int32), iv (Int32.ofNat to), iv (Int32.ofNat e32), .unset, .unset] [(.int (1 : Int32)), (.ref a)]))
            refine Go.pre (fun _ k => XS.iloadN X32.here hx rfl (hb hby d_prog_16_method_18_39) rfl k) ?_
            show Go p e below _ (T32.setTop (mkF m 40 #[rv a, iv (1 : Int32), iv (Int32.ofNat to), iv (Int32.ofNat e32), .unset, .unset] [(.int (Int32.ofNat e32)), (.int (1 : Int32)), (.ref a)]))
            obtain ⟨_, _, ⟨T36, L36, k36, n36⟩, -, X36, ⟨Lc36, hQ36, l36, y36, z36⟩, st36⟩ := Jvm.LawKit.callS X32 hx (y := (⟨"com/example/entayl/entayl/input/IriTable", "isJar", "([BII)Z"⟩ : MethodName)) hown (mvT hZ (hw _ (List.mem_of_getElem? (i := 14) rfl))) (mvT hZ (hw _ (List.mem_of_getElem? (i := 15) rfl))) (mvT hZ (hw _ (List.mem_of_getElem? (i := 4) rfl))) (mvT hZ (hw _ (List.mem_of_getElem? (i := 16) rfl))) (by decide) (backOf (W := 0) (rm_isJar l Z a0 hw [] a b to e32 h0 n0 Z0 B hB hto (by omega) (by omega)) hZ (hw _ (List.mem_of_getElem? (i := 16) rfl)) (hw _ (List.mem_of_getElem? (i := 4) rfl)) (by decide) (by decide)) (g := (mkF m 40 #[rv a, iv (1 : Int32), iv (Int32.ofNat to), iv (Int32.ofNat e32), .unset, .unset] [(.int (Int32.ofNat e32)), (.int (1 : Int32)), (.ref a)])) rfl (by rw [hml]; rfl) (argsL := [(.ref a), (.int (1 : Int32)), (.int (Int32.ofNat e32))]) (rest := []) (lenOf pd_3 rfl) rfl (by show 2 * 0 + _ ≤ _; exact Nat.le_of_eq rfl) (hb hby d_prog_16_method_18_40) (fun _ _ => ⟨rfl, eh32, (by decide : 0 + 0 ≤ _), (by decide : 0 + 0 ≤ _)⟩)
            dsimp only [Pt.U, Pt.locs, Pt.cells, Pt.slots] at X36 l36 y36 z36 st36 hQ36
            subst l36 y36 z36
            refine Go.pre st36 ?_
            rcases hQ36 with ⟨hp36, rfl, N36q, eh36⟩ | ⟨hp36, rfl, N36q, eh36⟩
            · skip
              have N36 := Fr.app N32 N36q
              show Go p e below _ (T36.setTop (mkF m 43 #[rv a, iv (1 : Int32), iv (Int32.ofNat to), iv (Int32.ofNat e32), .unset, .unset] [(.int (1 : Int32))]))
              refine Go.pre (fun _ k => XS.ifNo X36.here hx rfl (hb hby d_prog_16_method_18_43) rfl ((if0 _ _).trans (feq (by decide : ¬ ((1 : Int32) = (0 : Int32)))).1) k) ?_
              show Go p e below _ (T36.setTop (mkF m 46 #[rv a, iv (1 : Int32), iv (Int32.ofNat to), iv (Int32.ofNat e32), .unset, .unset] []))
              refine Go.pre (fun _ k => XS.iconst X36.here hx rfl (hb hby d_prog_16_method_18_46) k) ?_
              show Go p e below _ (T36.setTop (mkF m 47 #[rv a, iv (1 : Int32), iv (Int32.ofNat to), iv (Int32.ofNat e32), .unset, .unset] [(.int (0 : Int32))]))
              obtain ⟨fs, hr, hrun, hended, hW, hsame⟩ := X36.leave (v := some (.int (0 : Int32))) (fun h => by rw [Bd.returns] at h; cases h)
              refine Go.fin (o := .returned (some (.int (0 : Int32)))) (retN X36 hx (t := .boolean) Bd.returns (by simp) (hb hby d_prog_16_method_18_47) hr) ?_
              rw [hP]
              refine ⟨hrun, hended, _, _, rfl, ?_, ⟨_, rfl⟩, hW, hsame.mono (by decide) (by decide)⟩
              show Q_plain Z a b to ck h0 n0 _ T36.heap _
              rw [eh36]
              have q : RR = false := (by simp only [hRR, own_plain, own_f24, own_f51, own_f81, own_f108, eq_false hc2_29, eq_true hp31, hp32, eq_false hc26_33, eq_true hc34_35, eq_true hp36, ↓reduceIte])
              exact Or.inr ⟨(fun z => by rw [← hRR, q] at z; cases z), rfl, N36, rfl⟩
            · skip
              have N36 := Fr.app N32 N36q
              show Go p e below _ (T36.setTop (mkF m 43 #[rv a, iv (1 : Int32), iv (Int32.ofNat to), iv (Int32.ofNat e32), .unset, .unset] [(.int (0 : Int32))]))
              refine Go.pre (fun _ k => XS.ifYes X36.here hx rfl (pc0 := 43) (pc' := 48) rfl (hb hby d_prog_16_method_18_43) rfl ((if0 _ _).trans (teq (by decide : (0 : Int32) = (0 : Int32))).1) (by decide) (by decide) k) ?_
              show Go p e below _ (T36.setTop (mkF m 48 #[rv a, iv (1 : Int32), iv (Int32.ofNat to), iv (Int32.ofNat e32), .unset, .unset] []))
              refine Go.pre (fun _ k => XS.iinc X36.here hx rfl (hb hby d_prog_16_method_18_48) rfl (l' := #[rv a, iv (1 : Int32), iv (Int32.ofNat to), iv ((Int32.ofNat e32) + (Int32.ofNat 1)), .unset, .unset]) rfl k) ?_
              show Go p e below _ (T36.setTop (mkF m 51 #[rv a, iv (1 : Int32), iv (Int32.ofNat to), iv ((Int32.ofNat e32) + (Int32.ofNat 1)), .unset, .unset] []))
              rw [own_oadd]
              show Go p e below _ (T36.setTop (mkF m 51 #[rv a, iv (1 : Int32), iv (Int32.ofNat to), iv (Int32.ofNat (e32 + 1)), .unset, .unset] []))
              refine Go.pre (fun _ k => XS.iloadN X36.here hx rfl (hb hby d_prog_16_method_18_51) rfl k) ?_
              show Go p e below _ (T36.setTop (mkF m 52 #[rv a, iv (1 : Int32), iv (Int32.ofNat to), iv (Int32.ofNat (e32 + 1)), .unset, .unset] [(.int (Int32.ofNat (e32 + 1)))]))
              refine Go.pre (fun _ k => XS.iconst X36.here hx rfl (hb hby d_prog_16_method_18_52) k) ?_
              show Go p e below _ (T36.setTop (mkF m 53 #[rv a, iv (1 : Int32), iv (Int32.ofNat to), iv (Int32.ofNat (e32 + 1)), .unset, .unset] [(.int (1 : Int32)), (.int (Int32.ofNat (e32 + 1)))]))
              refine Go.pre (fun _ k => XS.iadd X36.here hx rfl (hb hby d_prog_16_method_18_53) rfl k) ?_
              show Go p e below _ (T36.setTop (mkF m 54 #[rv a, iv (1 : Int32), iv (Int32.ofNat to), iv (Int32.ofNat (e32 + 1)), .unset, .unset] [(.int ((Int32.ofNat (e32 + 1)) + (Int32.ofNat 1)))]))
              rw [own_oadd]
              show Go p e below _ (T36.setTop (mkF m 54 #[rv a, iv (1 : Int32), iv (Int32.ofNat to), iv (Int32.ofNat (e32 + 1)), .unset, .unset] [(.int (Int32.ofNat (e32 + 1 + 1)))]))
              refine Go.pre (fun _ k => XS.iloadN X36.here hx rfl (hb hby d_prog_16_method_18_54) rfl k) ?_
              show Go p e below _ (T36.setTop (mkF m 55 #[rv a, iv (1 : Int32), iv (Int32.ofNat to), iv (Int32.ofNat (e32 + 1)), .unset, .unset] [(.int (Int32.ofNat to)), (.int (Int32.ofNat (e32 + 1 + 1)))]))
              by_cases hc55_37 : e32 + 1 + 1 < to
              · skip
                refine Go.pre (fun _ k => XS.icmpNo X36.here hx rfl (hb hby d_prog_16_method_18_55) rfl (tlt ((own_ol (a := e32 + 1 + 1) (b := to) (by omega) (by omega)).mpr hc55_37)).2.1 k) ?_
                show Go p e below _ (T36.setTop (mkF m 58 #[rv a, iv (1 : Int32), iv (Int32.ofNat to), iv (Int32.ofNat (e32 + 1)), .unset, .unset] []))
                refine Go.pre (fun _ k => XS.aloadN X36.here hx rfl (hb hby d_prog_16_method_18_58) rfl rfl k) ?_
                show Go p e below _ (T36.setTop (mkF m 59 #[rv a, iv (1 : Int32), iv (Int32.ofNat to), iv (Int32.ofNat (e32 + 1)), .unset, .unset] [(.ref a)]))
                refine Go.pre (fun _ k => XS.iloadN X36.here hx rfl (hb hby d_prog_16_method_18_59) rfl k) ?_
                show Go p e below _ (T36.setTop (mkF m 60 #[rv a, iv (1 : Int32), iv (Int32.ofNat to), iv (Int32.ofNat (e32 + 1)), .unset, .unset] [(.int (Int32.ofNat (e32 + 1))), (.ref a)]))
                obtain ⟨cl38, Ar38, R38⟩ := id B
                obtain ⟨hin38, hat38⟩ := R38 (e32 + 1) (by omega) (by omega)
                refine Go.pre (X36.baloadBytes hx (j := (Int32.ofNat (e32 + 1))) (v := .int (own_sb (b (e32 + 1)))) (by rw [eh36]; exact Ar38.1) (State.isArrayOf_alike hZ.alike Ar38.2.1) Ar38.2.2 hin38 hat38 (g := (mkF m 60 #[rv a, iv (1 : Int32), iv (Int32.ofNat to), iv (Int32.ofNat (e32 + 1)), .unset, .unset] [(.int (Int32.ofNat (e32 + 1))), (.ref a)])) rfl rfl (hb hby d_prog_16_method_18_60)) ?_
                show Go p e below _ (T36.setTop (mkF m 61 #[rv a, iv (1 : Int32), iv (Int32.ofNat to), iv (Int32.ofNat (e32 + 1)), .unset, .unset] [(.int (own_sb (b (e32 + 1))))]))
                refine Go.pre (fun _ k => XS.bipush X36.here hx rfl (hb hby d_prog_16_method_18_61) k) ?_
                show Go p e below _ (T36.setTop (mkF m 63 #[rv a, iv (1 : Int32), iv (Int32.ofNat to), iv (Int32.ofNat (e32 + 1)), .unset, .unset] [(.int (47 : Int32)), (.int (own_sb (b (e32 + 1))))]))
                by_cases hc63_39 : b (e32 + 1) = 47
                · skip
                  refine Go.pre (fun _ k => XS.icmpNo X36.here hx rfl (hb hby d_prog_16_method_18_63) rfl (teq ((own_sbe (u := b (e32 + 1)) (k := 47) (hB _) (by omega)).mpr hc63_39)).2 k) ?_
                  show Go p e below _ (T36.setTop (mkF m 66 #[rv a, iv (1 : Int32), iv (Int32.ofNat to), iv (Int32.ofNat (e32 + 1)), .unset, .unset] []))
                  refine Go.pre (fun _ k => XS.aloadN X36.here hx rfl (hb hby d_prog_16_method_18_66) rfl rfl k) ?_
                  show Go p e below _ (T36.setTop (mkF m 67 #[rv a, iv (1 : Int32), iv (Int32.ofNat to), iv (Int32.ofNat (e32 + 1)), .unset, .unset] [(.ref a)]))
                  refine Go.pre (fun _ k => XS.iloadN X36.here hx rfl (hb hby d_prog_16_method_18_67) rfl k) ?_
                  show Go p e below _ (T36.setTop (mkF m 68 #[rv a, iv (1 : Int32), iv (Int32.ofNat to), iv (Int32.ofNat (e32 + 1)), .unset, .unset] [(.int (Int32.ofNat (e32 + 1))), (.ref a)]))
                  refine Go.pre (fun _ k => XS.iconst X36.here hx rfl (hb hby d_prog_16_method_18_68) k) ?_
                  show Go p e below _ (T36.setTop (mkF m 69 #[rv a, iv (1 : Int32), iv (Int32.ofNat to), iv (Int32.ofNat (e32 + 1)), .unset, .unset] [(.int (1 : Int32)), (.int (Int32.ofNat (e32 + 1))), (.ref a)]))
                  refine Go.pre (fun _ k => XS.iadd X36.here hx rfl (hb hby d_prog_16_method_18_69) rfl k) ?_
                  show Go p e below _ (T36.setTop (mkF m 70 #[rv a, iv (1 : Int32), iv (Int32.ofNat to), iv (Int32.ofNat (e32 + 1)), .unset, .unset] [(.int ((Int32.ofNat (e32 + 1)) + (Int32.ofNat 1))), (.ref a)]))
                  rw [own_oadd]
                  show Go p e below _ (T36.setTop (mkF m 70 #[rv a, iv (1 : Int32), iv (Int32.ofNat to), iv (Int32.ofNat (e32 + 1)), .unset, .unset] [(.int (Int32.ofNat (e32 + 1 + 1))), (.ref a)]))
                  obtain ⟨cl40, Ar40, R40⟩ := id B
                  obtain ⟨hin40, hat40⟩ := R40 (e32 + 1 + 1) (by omega) (by omega)
                  refine Go.pre (X36.baloadBytes hx (j := (Int32.ofNat (e32 + 1 + 1))) (v := .int (own_sb (b (e32 + 1 + 1)))) (by rw [eh36]; exact Ar40.1) (State.isArrayOf_alike hZ.alike Ar40.2.1) Ar40.2.2 hin40 hat40 (g := (mkF m 70 #[rv a, iv (1 : Int32), iv (Int32.ofNat to), iv (Int32.ofNat (e32 + 1)), .unset, .unset] [(.int (Int32.ofNat (e32 + 1 + 1))), (.ref a)])) rfl rfl (hb hby d_prog_16_method_18_70)) ?_
                  show Go p e below _ (T36.setTop (mkF m 71 #[rv a, iv (1 : Int32), iv (Int32.ofNat to), iv (Int32.ofNat (e32 + 1)), .unset, .unset] [(.int (own_sb (b (e32 + 1 + 1))))]))
                  refine Go.pre (fun _ k => XS.bipush X36.here hx rfl (hb hby d_prog_16_method_18_71) k) ?_
                  show Go p e below _ (T36.setTop (mkF m 73 #[rv a, iv (1 : Int32), iv (Int32.ofNat to), iv (Int32.ofNat (e32 + 1)), .unset, .unset] [(.int (47 : Int32)), (.int (own_sb (b (e32 + 1 + 1))))]))
                  by_cases hc73_41 : b (e32 + 1 + 1) = 47
                  · skip
                    refine Go.pre (fun _ k => XS.icmpNo X36.here hx rfl (hb hby d_prog_16_method_18_73) rfl (teq ((own_sbe (u := b (e32 + 1 + 1)) (k := 47) (hB _) (by omega)).mpr hc73_41)).2 k) ?_
                    show Go p e below _ (T36.setTop (mkF m 76 #[rv a, iv (1 : Int32), iv (Int32.ofNat to), iv (Int32.ofNat (e32 + 1)), .unset, .unset] []))
                    refine Go.pre (fun _ k => XS.iloadN X36.here hx rfl (hb hby d_prog_16_method_18_76) rfl k) ?_
                    show Go p e below _ (T36.setTop (mkF m 77 #[rv a, iv (1 : Int32), iv (Int32.ofNat to), iv (Int32.ofNat (e32 + 1)), .unset, .unset] [(.int (Int32.ofNat (e32 + 1)))]))
                    refine Go.pre (fun _ k => XS.iconst X36.here hx rfl (hb hby d_prog_16_method_18_77) k) ?_
                    show Go p e below _ (T36.setTop (mkF m 78 #[rv a, iv (1 : Int32), iv (Int32.ofNat to), iv (Int32.ofNat (e32 + 1)), .unset, .unset] [(.int (2 : Int32)), (.int (Int32.ofNat (e32 + 1)))]))
                    refine Go.pre (fun _ k => XS.iadd X36.here hx rfl (hb hby d_prog_16_method_18_78) rfl k) ?_
                    show Go p e below _ (T36.setTop (mkF m 79 #[rv a, iv (1 : Int32), iv (Int32.ofNat to), iv (Int32.ofNat (e32 + 1)), .unset, .unset] [(.int ((Int32.ofNat (e32 + 1)) + (Int32.ofNat 2)))]))
                    rw [own_oadd]
                    show Go p e below _ (T36.setTop (mkF m 79 #[rv a, iv (1 : Int32), iv (Int32.ofNat to), iv (Int32.ofNat (e32 + 1)), .unset, .unset] [(.int (Int32.ofNat (e32 + 1 + 2)))]))
                    refine Go.pre (fun _ k => XS.istore X36.here hx rfl (hb hby d_prog_16_method_18_79) rfl (l' := #[rv a, iv (1 : Int32), iv (Int32.ofNat to), iv (Int32.ofNat (e32 + 1)), iv (Int32.ofNat (e32 + 1 + 2)), .unset]) rfl k) ?_
                    show Go p e below _ (T36.setTop (mkF m 81 #[rv a, iv (1 : Int32), iv (Int32.ofNat to), iv (Int32.ofNat (e32 + 1)), iv (Int32.ofNat (e32 + 1 + 2)), .unset] []))
                    refine Go.pre (fun _ k => XS.iload X36.here hx rfl (hb hby d_prog_16_method_18_81) rfl k) ?_
                    show Go p e below _ (T36.setTop (mkF m 83 #[rv a, iv (1 : Int32), iv (Int32.ofNat to), iv (Int32.ofNat (e32 + 1)), iv (Int32.ofNat (e32 + 1 + 2)), .unset] [(.int (Int32.ofNat (e32 + 1 + 2)))]))
                    refine Go.pre (fun _ k => XS.iloadN X36.here hx rfl (hb hby d_prog_16_method_18_83) rfl k) ?_
                    show Go p e below _ (T36.setTop (mkF m 84 #[rv a, iv (1 : Int32), iv (Int32.ofNat to), iv (Int32.ofNat (e32 + 1)), iv (Int32.ofNat (e32 + 1 + 2)), .unset] [(.int (Int32.ofNat to)), (.int (Int32.ofNat (e32 + 1 + 2)))]))
                    by_cases hc84_42 : e32 + 1 + 2 = to
                    · skip
                      refine Go.pre (fun _ k => XS.icmpYes X36.here hx rfl (pc0 := 84) (pc' := 97) rfl (hb hby d_prog_16_method_18_84) rfl (teq ((own_oe (a := e32 + 1 + 2) (b := to) (by omega) (by omega)).mpr hc84_42)).1 (by decide) (by decide) k) ?_
                      show Go p e below _ (T36.setTop (mkF m 97 #[rv a, iv (1 : Int32), iv (Int32.ofNat to), iv (Int32.ofNat (e32 + 1)), iv (Int32.ofNat (e32 + 1 + 2)), .unset] []))
                      refine Go.pre (fun _ k => XS.iconst X36.here hx rfl (hb hby d_prog_16_method_18_97) k) ?_
                      show Go p e below _ (T36.setTop (mkF m 98 #[rv a, iv (1 : Int32), iv (Int32.ofNat to), iv (Int32.ofNat (e32 + 1)), iv (Int32.ofNat (e32 + 1 + 2)), .unset] [(.int (0 : Int32))]))
                      obtain ⟨fs, hr, hrun, hended, hW, hsame⟩ := X36.leave (v := some (.int (0 : Int32))) (fun h => by rw [Bd.returns] at h; cases h)
                      refine Go.fin (o := .returned (some (.int (0 : Int32)))) (retN X36 hx (t := .boolean) Bd.returns (by simp) (hb hby d_prog_16_method_18_98) hr) ?_
                      rw [hP]
                      refine ⟨hrun, hended, _, _, rfl, ?_, ⟨_, rfl⟩, hW, hsame.mono (by decide) (by decide)⟩
                      show Q_plain Z a b to ck h0 n0 _ T36.heap _
                      rw [eh36]
                      have q : RR = false := (by simp only [hRR, own_plain, own_f24, own_f51, own_f81, own_f108, eq_false hc2_29, eq_true hp31, hp32, eq_false hc26_33, eq_true hc34_35, eq_false hp36, eq_true hc55_37, eq_true hc63_39, eq_true hc73_41, eq_true hc84_42, ↓reduceIte])
                      exact Or.inr ⟨(fun z => by rw [← hRR, q] at z; cases z), rfl, N36, rfl⟩
                    · skip
                      refine Go.pre (fun _ k => XS.icmpNo X36.here hx rfl (hb hby d_prog_16_method_18_84) rfl (feq (fun q => hc84_42 ((own_oe (a := e32 + 1 + 2) (b := to) (by omega) (by omega)).mp q))).1 k) ?_
                      show Go p e below _ (T36.setTop (mkF m 87 #[rv a, iv (1 : Int32), iv (Int32.ofNat to), iv (Int32.ofNat (e32 + 1)), iv (Int32.ofNat (e32 + 1 + 2)), .unset] []))
                      refine Go.pre (fun _ k => XS.aloadN X36.here hx rfl (hb hby d_prog_16_method_18_87) rfl rfl k) ?_
                      show Go p e below _ (T36.setTop (mkF m 88 #[rv a, iv (1 : Int32), iv (Int32.ofNat to), iv (Int32.ofNat (e32 + 1)), iv (Int32.ofNat (e32 + 1 + 2)), .unset] [(.ref a)]))
                      refine Go.pre (fun _ k => XS.iload X36.here hx rfl (hb hby d_prog_16_method_18_88) rfl k) ?_
                      show Go p e below _ (T36.setTop (mkF m 90 #[rv a, iv (1 : Int32), iv (Int32.ofNat to), iv (Int32.ofNat (e32 + 1)), iv (Int32.ofNat (e32 + 1 + 2)), .unset] [(.int (Int32.ofNat (e32 + 1 + 2))), (.ref a)]))
                      obtain ⟨cl43, Ar43, R43⟩ := id B
                      obtain ⟨hin43, hat43⟩ := R43 (e32 + 1 + 2) (by omega) (by omega)
                      refine Go.pre (X36.baloadBytes hx (j := (Int32.ofNat (e32 + 1 + 2))) (v := .int (own_sb (b (e32 + 1 + 2)))) (by rw [eh36]; exact Ar43.1) (State.isArrayOf_alike hZ.alike Ar43.2.1) Ar43.2.2 hin43 hat43 (g := (mkF m 90 #[rv a, iv (1 : Int32), iv (Int32.ofNat to), iv (Int32.ofNat (e32 + 1)), iv (Int32.ofNat (e32 + 1 + 2)), .unset] [(.int (Int32.ofNat (e32 + 1 + 2))), (.ref a)])) rfl rfl (hb hby d_prog_16_method_18_90)) ?_
                      show Go p e below _ (T36.setTop (mkF m 91 #[rv a, iv (1 : Int32), iv (Int32.ofNat to), iv (Int32.ofNat (e32 + 1)), iv (Int32.ofNat (e32 + 1 + 2)), .unset] [(.int (own_sb (b (e32 + 1 + 2))))]))
                      obtain ⟨_, _, ⟨T44, L44, k44, n44⟩, -, X44, ⟨Lc44, hQ44, l44, y44, z44⟩, st44⟩ := Jvm.LawKit.callS X36 hx (y := (⟨"com/example/entayl/entayl/input/IriTable", "isLetter", "(B)Z"⟩ : MethodName)) hown (mvT hZ (hw _ (List.mem_of_getElem? (i := 6) rfl))) (mvT hZ (hw _ (List.mem_of_getElem? (i := 7) rfl))) (mvT hZ (hw _ (List.mem_of_getElem? (i := 4) rfl))) (mvT hZ (hw _ (List.mem_of_getElem? (i := 8) rfl))) (by decide) (backOf (W := 0) (rm_isLetter l Z a0 hw [] (b (e32 + 1 + 2)) h0 n0 Z0 (hB _)) hZ (hw _ (List.mem_of_getElem? (i := 8) rfl)) (hw _ (List.mem_of_getElem? (i := 4) rfl)) (by decide) (by decide)) (g := (mkF m 91 #[rv a, iv (1 : Int32), iv (Int32.ofNat to), iv (Int32.ofNat (e32 + 1)), iv (Int32.ofNat (e32 + 1 + 2)), .unset] [(.int (own_sb (b (e32 + 1 + 2))))])) rfl (by rw [hml]; rfl) (argsL := [(.int (own_sb (b (e32 + 1 + 2))))]) (rest := []) (lenOf pd_2 rfl) rfl (by show 2 * 0 + _ ≤ _; exact Nat.le_of_eq rfl) (hb hby d_prog_16_method_18_91) (fun _ _ => ⟨rfl, eh36, (by decide : 0 + 0 ≤ _), (by decide : 0 + 0 ≤ _)⟩)
                      dsimp only [Pt.U, Pt.locs, Pt.cells, Pt.slots] at X44 l44 y44 z44 st44 hQ44
                      subst l44 y44 z44
                      refine Go.pre st44 ?_
                      rcases hQ44 with ⟨hp44, rfl, N44q, eh44⟩ | ⟨hp44, rfl, N44q, eh44⟩
                      · skip
                        have N44 := Fr.app N36 N44q
                        show Go p e below _ (T44.setTop (mkF m 94 #[rv a, iv (1 : Int32), iv (Int32.ofNat to), iv (Int32.ofNat (e32 + 1)), iv (Int32.ofNat (e32 + 1 + 2)), .unset] [(.int (1 : Int32))]))
                        refine Go.pre (fun _ k => XS.ifYes X44.here hx rfl (pc0 := 94) (pc' := 99) rfl (hb hby d_prog_16_method_18_94) rfl ((if0 _ _).trans (feq (by decide : ¬ ((1 : Int32) = (0 : Int32)))).2) (by decide) (by decide) k) ?_
                        show Go p e below _ (T44.setTop (mkF m 99 #[rv a, iv (1 : Int32), iv (Int32.ofNat to), iv (Int32.ofNat (e32 + 1)), iv (Int32.ofNat (e32 + 1 + 2)), .unset] []))
                        refine Go.pre (fun _ k => XS.aloadN X44.here hx rfl (hb hby d_prog_16_method_18_99) rfl rfl k) ?_
                        show Go p e below _ (T44.setTop (mkF m 100 #[rv a, iv (1 : Int32), iv (Int32.ofNat to), iv (Int32.ofNat (e32 + 1)), iv (Int32.ofNat (e32 + 1 + 2)), .unset] [(.ref a)]))
                        refine Go.pre (fun _ k => XS.iload X44.here hx rfl (hb hby d_prog_16_method_18_100) rfl k) ?_
                        show Go p e below _ (T44.setTop (mkF m 102 #[rv a, iv (1 : Int32), iv (Int32.ofNat to), iv (Int32.ofNat (e32 + 1)), iv (Int32.ofNat (e32 + 1 + 2)), .unset] [(.int (Int32.ofNat (e32 + 1 + 2))), (.ref a)]))
                        refine Go.pre (fun _ k => XS.iloadN X44.here hx rfl (hb hby d_prog_16_method_18_102) rfl k) ?_
                        show Go p e below _ (T44.setTop (mkF m 103 #[rv a, iv (1 : Int32), iv (Int32.ofNat to), iv (Int32.ofNat (e32 + 1)), iv (Int32.ofNat (e32 + 1 + 2)), .unset] [(.int (Int32.ofNat to)), (.int (Int32.ofNat (e32 + 1 + 2))), (.ref a)]))
                        refine Go.pre (fun _ k => XS.iconst X44.here hx rfl (hb hby d_prog_16_method_18_103) k) ?_
                        show Go p e below _ (T44.setTop (mkF m 104 #[rv a, iv (1 : Int32), iv (Int32.ofNat to), iv (Int32.ofNat (e32 + 1)), iv (Int32.ofNat (e32 + 1 + 2)), .unset] [(.int (2 : Int32)), (.int (Int32.ofNat to)), (.int (Int32.ofNat (e32 + 1 + 2))), (.ref a)]))
                        obtain ⟨_, _, ⟨T45, L45, k45, n45⟩, -, X45, ⟨Lc45, hQ45, l45, y45, z45⟩, st45⟩ := Jvm.LawKit.callS X44 hx (y := (⟨"com/example/entayl/entayl/input/IriTable", "skip", "([BIII)I"⟩ : MethodName)) hown (mvT hZ (hw _ (List.mem_of_getElem? (i := 9) rfl))) (mvT hZ (hw _ (List.mem_of_getElem? (i := 10) rfl))) (mvT hZ (hw _ (List.mem_of_getElem? (i := 4) rfl))) (mvT hZ (hw _ (List.mem_of_getElem? (i := 11) rfl))) (by decide) (backOf (W := 0) (rm_skip l Z a0 hw [] a b (e32 + 1 + 2) to 2 ck h0 n0 Z0 B hB hto SK KD (by omega) (by omega) (by omega)) hZ (hw _ (List.mem_of_getElem? (i := 11) rfl)) (hw _ (List.mem_of_getElem? (i := 4) rfl)) (by decide) (by decide)) (g := (mkF m 104 #[rv a, iv (1 : Int32), iv (Int32.ofNat to), iv (Int32.ofNat (e32 + 1)), iv (Int32.ofNat (e32 + 1 + 2)), .unset] [(.int (2 : Int32)), (.int (Int32.ofNat to)), (.int (Int32.ofNat (e32 + 1 + 2))), (.ref a)])) rfl (by rw [hml]; rfl) (argsL := [(.ref a), (.int (Int32.ofNat (e32 + 1 + 2))), (.int (Int32.ofNat to)), (.int (2 : Int32))]) (rest := []) (lenOf pd_1 rfl) rfl (by show 2 * 0 + _ ≤ _; exact Nat.le_of_eq rfl) (hb hby d_prog_16_method_18_104) (fun _ _ => ⟨rfl, eh44, (by decide : 0 + 0 ≤ _), (by decide : 0 + 0 ≤ _)⟩)
                        dsimp only [Pt.U, Pt.locs, Pt.cells, Pt.slots] at X45 l45 y45 z45 st45 hQ45
                        subst l45 y45 z45
                        refine Go.pre st45 ?_
                        rcases hQ45 with ⟨hp45, rfl, N45q, eh45⟩ | ⟨e45, hp45, hb45, hc45b, rfl, N45q, eh45⟩
                        · skip
                          have N45 := Fr.app N44 N45q
                          show Go p e below _ (T45.setTop (mkF m 107 #[rv a, iv (1 : Int32), iv (Int32.ofNat to), iv (Int32.ofNat (e32 + 1)), iv (Int32.ofNat (e32 + 1 + 2)), .unset] [(.int (-1 : Int32))]))
                          refine Go.pre (fun _ k => XS.istoreN X45.here hx rfl (hb hby d_prog_16_method_18_107) rfl (l' := #[rv a, iv (1 : Int32), iv (Int32.ofNat to), iv (-1 : Int32), iv (Int32.ofNat (e32 + 1 + 2)), .unset]) rfl k) ?_
                          show Go p e below _ (T45.setTop (mkF m 108 #[rv a, iv (1 : Int32), iv (Int32.ofNat to), iv (-1 : Int32), iv (Int32.ofNat (e32 + 1 + 2)), .unset] []))
                          refine Go.pre (fun _ k => XS.iloadN X45.here hx rfl (hb hby d_prog_16_method_18_108) rfl k) ?_
                          show Go p e below _ (T45.setTop (mkF m 109 #[rv a, iv (1 : Int32), iv (Int32.ofNat to), iv (-1 : Int32), iv (Int32.ofNat (e32 + 1 + 2)), .unset] [(.int (-1 : Int32))]))
                          refine Go.pre (fun _ k => XS.ifYes X45.here hx rfl (pc0 := 109) (pc' := 171) rfl (hb hby d_prog_16_method_18_109) rfl ((if0 _ _).trans (tlt (by decide : (-1 : Int32) < (0 : Int32))).1) (by decide) (by decide) k) ?_
                          exact J171n _ _ _ _ X45 N45 eh45 (by simp only [hRR, own_plain, own_f24, own_f51, own_f81, own_f108, eq_false hc2_29, eq_true hp31, hp32, eq_false hc26_33, eq_true hc34_35, eq_false hp36, eq_true hc55_37, eq_true hc63_39, eq_true hc73_41, eq_false hc84_42, eq_true hp44, hp45, ↓reduceIte])
                        · skip
                          have N45 := Fr.app N44 N45q
                          show Go p e below _ (T45.setTop (mkF m 107 #[rv a, iv (1 : Int32), iv (Int32.ofNat to), iv (Int32.ofNat (e32 + 1)), iv (Int32.ofNat (e32 + 1 + 2)), .unset] [(.int (Int32.ofNat e45))]))
                          refine Go.pre (fun _ k => XS.istoreN X45.here hx rfl (hb hby d_prog_16_method_18_107) rfl (l' := #[rv a, iv (1 : Int32), iv (Int32.ofNat to), iv (Int32.ofNat e45), iv (Int32.ofNat (e32 + 1 + 2)), .unset]) rfl k) ?_
                          show Go p e below _ (T45.setTop (mkF m 108 #[rv a, iv (1 : Int32), iv (Int32.ofNat to), iv (Int32.ofNat e45), iv (Int32.ofNat (e32 + 1 + 2)), .unset] []))
                          refine Go.pre (fun _ k => XS.iloadN X45.here hx rfl (hb hby d_prog_16_method_18_108) rfl k) ?_
                          show Go p e below _ (T45.setTop (mkF m 109 #[rv a, iv (1 : Int32), iv (Int32.ofNat to), iv (Int32.ofNat e45), iv (Int32.ofNat (e32 + 1 + 2)), .unset] [(.int (Int32.ofNat e45))]))
                          refine Go.pre (fun _ k => XS.ifNo X45.here hx rfl (hb hby d_prog_16_method_18_109) rfl ((if0 _ _).trans (flt (fun q => Nat.not_lt_zero _ ((own_ol (a := e45) (b := 0) (by omega) (by omega)).mp q))).1) k) ?_
                          show Go p e below _ (T45.setTop (mkF m 112 #[rv a, iv (1 : Int32), iv (Int32.ofNat to), iv (Int32.ofNat e45), iv (Int32.ofNat (e32 + 1 + 2)), .unset] []))
                          refine Go.pre (fun _ k => XS.iloadN X45.here hx rfl (hb hby d_prog_16_method_18_112) rfl k) ?_
                          show Go p e below _ (T45.setTop (mkF m 113 #[rv a, iv (1 : Int32), iv (Int32.ofNat to), iv (Int32.ofNat e45), iv (Int32.ofNat (e32 + 1 + 2)), .unset] [(.int (Int32.ofNat e45))]))
                          refine Go.pre (fun _ k => XS.iloadN X45.here hx rfl (hb hby d_prog_16_method_18_113) rfl k) ?_
                          show Go p e below _ (T45.setTop (mkF m 114 #[rv a, iv (1 : Int32), iv (Int32.ofNat to), iv (Int32.ofNat e45), iv (Int32.ofNat (e32 + 1 + 2)), .unset] [(.int (Int32.ofNat to)), (.int (Int32.ofNat e45))]))
                          by_cases hc114_46 : e45 < to
                          · skip
                            refine Go.pre (fun _ k => XS.icmpNo X45.here hx rfl (hb hby d_prog_16_method_18_114) rfl (tlt ((own_ol (a := e45) (b := to) (by omega) (by omega)).mpr hc114_46)).2.1 k) ?_
                            show Go p e below _ (T45.setTop (mkF m 117 #[rv a, iv (1 : Int32), iv (Int32.ofNat to), iv (Int32.ofNat e45), iv (Int32.ofNat (e32 + 1 + 2)), .unset] []))
                            refine Go.pre (fun _ k => XS.aloadN X45.here hx rfl (hb hby d_prog_16_method_18_117) rfl rfl k) ?_
                            show Go p e below _ (T45.setTop (mkF m 118 #[rv a, iv (1 : Int32), iv (Int32.ofNat to), iv (Int32.ofNat e45), iv (Int32.ofNat (e32 + 1 + 2)), .unset] [(.ref a)]))
                            refine Go.pre (fun _ k => XS.iloadN X45.here hx rfl (hb hby d_prog_16_method_18_118) rfl k) ?_
                            show Go p e below _ (T45.setTop (mkF m 119 #[rv a, iv (1 : Int32), iv (Int32.ofNat to), iv (Int32.ofNat e45), iv (Int32.ofNat (e32 + 1 + 2)), .unset] [(.int (Int32.ofNat e45)), (.ref a)]))
                            obtain ⟨cl47, Ar47, R47⟩ := id B
                            obtain ⟨hin47, hat47⟩ := R47 e45 (by omega) (by omega)
                            refine Go.pre (X45.baloadBytes hx (j := (Int32.ofNat e45)) (v := .int (own_sb (b e45))) (by rw [eh45]; exact Ar47.1) (State.isArrayOf_alike hZ.alike Ar47.2.1) Ar47.2.2 hin47 hat47 (g := (mkF m 119 #[rv a, iv (1 : Int32), iv (Int32.ofNat to), iv (Int32.ofNat e45), iv (Int32.ofNat (e32 + 1 + 2)), .unset] [(.int (Int32.ofNat e45)), (.ref a)])) rfl rfl (hb hby d_prog_16_method_18_119)) ?_
                            show Go p e below _ (T45.setTop (mkF m 120 #[rv a, iv (1 : Int32), iv (Int32.ofNat to), iv (Int32.ofNat e45), iv (Int32.ofNat (e32 + 1 + 2)), .unset] [(.int (own_sb (b e45)))]))
                            refine Go.pre (fun _ k => XS.bipush X45.here hx rfl (hb hby d_prog_16_method_18_120) k) ?_
                            show Go p e below _ (T45.setTop (mkF m 122 #[rv a, iv (1 : Int32), iv (Int32.ofNat to), iv (Int32.ofNat e45), iv (Int32.ofNat (e32 + 1 + 2)), .unset] [(.int (58 : Int32)), (.int (own_sb (b e45)))]))
                            by_cases hc122_48 : b e45 = 58
                            · skip
                              refine Go.pre (fun _ k => XS.icmpNo X45.here hx rfl (hb hby d_prog_16_method_18_122) rfl (teq ((own_sbe (u := b e45) (k := 58) (hB _) (by omega)).mpr hc122_48)).2 k) ?_
                              show Go p e below _ (T45.setTop (mkF m 125 #[rv a, iv (1 : Int32), iv (Int32.ofNat to), iv (Int32.ofNat e45), iv (Int32.ofNat (e32 + 1 + 2)), .unset] []))
                              refine Go.pre (fun _ k => XS.iloadN X45.here hx rfl (hb hby d_prog_16_method_18_125) rfl k) ?_
                              show Go p e below _ (T45.setTop (mkF m 126 #[rv a, iv (1 : Int32), iv (Int32.ofNat to), iv (Int32.ofNat e45), iv (Int32.ofNat (e32 + 1 + 2)), .unset] [(.int (Int32.ofNat e45))]))
                              refine Go.pre (fun _ k => XS.iconst X45.here hx rfl (hb hby d_prog_16_method_18_126) k) ?_
                              show Go p e below _ (T45.setTop (mkF m 127 #[rv a, iv (1 : Int32), iv (Int32.ofNat to), iv (Int32.ofNat e45), iv (Int32.ofNat (e32 + 1 + 2)), .unset] [(.int (1 : Int32)), (.int (Int32.ofNat e45))]))
                              refine Go.pre (fun _ k => XS.iadd X45.here hx rfl (hb hby d_prog_16_method_18_127) rfl k) ?_
                              show Go p e below _ (T45.setTop (mkF m 128 #[rv a, iv (1 : Int32), iv (Int32.ofNat to), iv (Int32.ofNat e45), iv (Int32.ofNat (e32 + 1 + 2)), .unset] [(.int ((Int32.ofNat e45) + (Int32.ofNat 1)))]))
                              rw [own_oadd]
                              show Go p e below _ (T45.setTop (mkF m 128 #[rv a, iv (1 : Int32), iv (Int32.ofNat to), iv (Int32.ofNat e45), iv (Int32.ofNat (e32 + 1 + 2)), .unset] [(.int (Int32.ofNat (e45 + 1)))]))
                              refine Go.pre (fun _ k => XS.istore X45.here hx rfl (hb hby d_prog_16_method_18_128) rfl (l' := #[rv a, iv (1 : Int32), iv (Int32.ofNat to), iv (Int32.ofNat e45), iv (Int32.ofNat (e32 + 1 + 2)), iv (Int32.ofNat (e45 + 1))]) rfl k) ?_
                              show Go p e below _ (T45.setTop (mkF m 130 #[rv a, iv (1 : Int32), iv (Int32.ofNat to), iv (Int32.ofNat e45), iv (Int32.ofNat (e32 + 1 + 2)), iv (Int32.ofNat (e45 + 1))] []))
                              refine Go.pre (fun _ k => XS.iload X45.here hx rfl (hb hby d_prog_16_method_18_130) rfl k) ?_
                              show Go p e below _ (T45.setTop (mkF m 132 #[rv a, iv (1 : Int32), iv (Int32.ofNat to), iv (Int32.ofNat e45), iv (Int32.ofNat (e32 + 1 + 2)), iv (Int32.ofNat (e45 + 1))] [(.int (Int32.ofNat (e45 + 1)))]))
                              refine Go.pre (fun _ k => XS.istoreN X45.here hx rfl (hb hby d_prog_16_method_18_132) rfl (l' := #[rv a, iv (1 : Int32), iv (Int32.ofNat to), iv (Int32.ofNat (e45 + 1)), iv (Int32.ofNat (e32 + 1 + 2)), iv (Int32.ofNat (e45 + 1))]) rfl k) ?_
                              exact J133 to (e45 + 1) (e45 + 1) _ _ _ X45 N45 eh45 (by omega) (by omega) (by omega) (by omega) (by simp only [hRR, own_plain, own_f24, own_f51, own_f81, own_f108, eq_false hc2_29, eq_true hp31, hp32, eq_false hc26_33, eq_true hc34_35, eq_false hp36, eq_true hc55_37, eq_true hc63_39, eq_true hc73_41, eq_false hc84_42, eq_true hp44, hp45, eq_true hc114_46, eq_true hc122_48, ↓reduceIte])
                            · skip
                              refine Go.pre (fun _ k => XS.icmpYes X45.here hx rfl (pc0 := 122) (pc' := 171) rfl (hb hby d_prog_16_method_18_122) rfl (feq (fun q => hc122_48 ((own_sbe (u := b e45) (k := 58) (hB _) (by omega)).mp q))).2 (by decide) (by decide) k) ?_
                              exact J171 e45 _ _ _ _ X45 N45 eh45 (by omega) (by omega) (by simp only [hRR, own_plain, own_f24, own_f51, own_f81, own_f108, eq_false hc2_29, eq_true hp31, hp32, eq_false hc26_33, eq_true hc34_35, eq_false hp36, eq_true hc55_37, eq_true hc63_39, eq_true hc73_41, eq_false hc84_42, eq_true hp44, hp45, eq_true hc114_46, eq_false hc122_48, ↓reduceIte])
                          · skip
                            refine Go.pre (fun _ k => XS.icmpYes X45.here hx rfl (pc0 := 114) (pc' := 171) rfl (hb hby d_prog_16_method_18_114) rfl (flt (fun q => hc114_46 ((own_ol (a := e45) (b := to) (by omega) (by omega)).mp q))).2.1 (by decide) (by decide) k) ?_
                            exact J171 e45 _ _ _ _ X45 N45 eh45 (by omega) (by omega) (by simp only [hRR, own_plain, own_f24, own_f51, own_f81, own_f108, eq_false hc2_29, eq_true hp31, hp32, eq_false hc26_33, eq_true hc34_35, eq_false hp36, eq_true hc55_37, eq_true hc63_39, eq_true hc73_41, eq_false hc84_42, eq_true hp44, hp45, eq_false hc114_46, ↓reduceIte])
                      · skip
                        have N44 := Fr.app N36 N44q
                        show Go p e below _ (T44.setTop (mkF m 94 #[rv a, iv (1 : Int32), iv (Int32.ofNat to), iv (Int32.ofNat (e32 + 1)), iv (Int32.ofNat (e32 + 1 + 2)), .unset] [(.int (0 : Int32))]))
                        refine Go.pre (fun _ k => XS.ifNo X44.here hx rfl (hb hby d_prog_16_method_18_94) rfl ((if0 _ _).trans (teq (by decide : (0 : Int32) = (0 : Int32))).2) k) ?_
                        show Go p e below _ (T44.setTop (mkF m 97 #[rv a, iv (1 : Int32), iv (Int32.ofNat to), iv (Int32.ofNat (e32 + 1)), iv (Int32.ofNat (e32 + 1 + 2)), .unset] []))
                        refine Go.pre (fun _ k => XS.iconst X44.here hx rfl (hb hby d_prog_16_method_18_97) k) ?_
                        show Go p e below _ (T44.setTop (mkF m 98 #[rv a, iv (1 : Int32), iv (Int32.ofNat to), iv (Int32.ofNat (e32 + 1)), iv (Int32.ofNat (e32 + 1 + 2)), .unset] [(.int (0 : Int32))]))
                        obtain ⟨fs, hr, hrun, hended, hW, hsame⟩ := X44.leave (v := some (.int (0 : Int32))) (fun h => by rw [Bd.returns] at h; cases h)
                        refine Go.fin (o := .returned (some (.int (0 : Int32)))) (retN X44 hx (t := .boolean) Bd.returns (by simp) (hb hby d_prog_16_method_18_98) hr) ?_
                        rw [hP]
                        refine ⟨hrun, hended, _, _, rfl, ?_, ⟨_, rfl⟩, hW, hsame.mono (by decide) (by decide)⟩
                        show Q_plain Z a b to ck h0 n0 _ T44.heap _
                        rw [eh44]
                        have q : RR = false := (by simp only [hRR, own_plain, own_f24, own_f51, own_f81, own_f108, eq_false hc2_29, eq_true hp31, hp32, eq_false hc26_33, eq_true hc34_35, eq_false hp36, eq_true hc55_37, eq_true hc63_39, eq_true hc73_41, eq_false hc84_42, eq_false hp44, ↓reduceIte])
                        exact Or.inr ⟨(fun z => by rw [← hRR, q] at z; cases z), rfl, N44, rfl⟩
                  · skip
                    refine Go.pre (fun _ k => XS.icmpYes X36.here hx rfl (pc0 := 73) (pc' := 206) rfl (hb hby d_prog_16_method_18_73) rfl (feq (fun q => hc73_41 ((own_sbe (u := b (e32 + 1 + 1)) (k := 47) (hB _) (by omega)).mp q))).2 (by decide) (by decide) k) ?_
                    exact J206 (e32 + 1) _ _ _ _ X36 N36 eh36 (by omega) (by omega) (by simp only [hRR, own_plain, own_f24, own_f51, own_f81, own_f108, eq_false hc2_29, eq_true hp31, hp32, eq_false hc26_33, eq_true hc34_35, eq_false hp36, eq_true hc55_37, eq_true hc63_39, eq_false hc73_41, ↓reduceIte])
                · skip
                  refine Go.pre (fun _ k => XS.icmpYes X36.here hx rfl (pc0 := 63) (pc' := 206) rfl (hb hby d_prog_16_method_18_63) rfl (feq (fun q => hc63_39 ((own_sbe (u := b (e32 + 1)) (k := 47) (hB _) (by omega)).mp q))).2 (by decide) (by decide) k) ?_
                  exact J206 (e32 + 1) _ _ _ _ X36 N36 eh36 (by omega) (by omega) (by simp only [hRR, own_plain, own_f24, own_f51, own_f81, own_f108, eq_false hc2_29, eq_true hp31, hp32, eq_false hc26_33, eq_true hc34_35, eq_false hp36, eq_true hc55_37, eq_false hc63_39, ↓reduceIte])
              · skip
                refine Go.pre (fun _ k => XS.icmpYes X36.here hx rfl (pc0 := 55) (pc' := 206) rfl (hb hby d_prog_16_method_18_55) rfl (flt (fun q => hc55_37 ((own_ol (a := e32 + 1 + 1) (b := to) (by omega) (by omega)).mp q))).2.1 (by decide) (by decide) k) ?_
                exact J206 (e32 + 1) _ _ _ _ X36 N36 eh36 (by omega) (by omega) (by simp only [hRR, own_plain, own_f24, own_f51, own_f81, own_f108, eq_false hc2_29, eq_true hp31, hp32, eq_false hc26_33, eq_true hc34_35, eq_false hp36, eq_false hc55_37, ↓reduceIte])
          · skip
            refine Go.pre (fun _ k => XS.icmpYes X32.here hx rfl (pc0 := 34) (pc' := 46) rfl (hb hby d_prog_16_method_18_34) rfl (feq (fun q => hc34_35 ((own_sbe (u := b e32) (k := 58) (hB _) (by omega)).mp q))).2 (by decide) (by decide) k) ?_
            show Go p e below _ (T32.setTop (mkF m 46 #[rv a, iv (1 : Int32), iv (Int32.ofNat to), iv (Int32.ofNat e32), .unset, .unset] []))
            refine Go.pre (fun _ k => XS.iconst X32.here hx rfl (hb hby d_prog_16_method_18_46) k) ?_
            show Go p e below _ (T32.setTop (mkF m 47 #[rv a, iv (1 : Int32), iv (Int32.ofNat to), iv (Int32.ofNat e32), .unset, .unset] [(.int (0 : Int32))]))
            obtain ⟨fs, hr, hrun, hended, hW, hsame⟩ := X32.leave (v := some (.int (0 : Int32))) (fun h => by rw [Bd.returns] at h; cases h)
            refine Go.fin (o := .returned (some (.int (0 : Int32)))) (retN X32 hx (t := .boolean) Bd.returns (by simp) (hb hby d_prog_16_method_18_47) hr) ?_
            rw [hP]
            refine ⟨hrun, hended, _, _, rfl, ?_, ⟨_, rfl⟩, hW, hsame.mono (by decide) (by decide)⟩
            show Q_plain Z a b to ck h0 n0 _ T32.heap _
            rw [eh32]
            have q : RR = false := (by simp only [hRR, own_plain, own_f24, own_f51, own_f81, own_f108, eq_false hc2_29, eq_true hp31, hp32, eq_false hc26_33, eq_false hc34_35, ↓reduceIte])
            exact Or.inr ⟨(fun z => by rw [← hRR, q] at z; cases z), rfl, N32, rfl⟩
    · skip
      have N31 := Fr.app N0 N31q
      show Go p e below _ (T31.setTop (mkF m 11 #[rv a, iv (1 : Int32), iv (Int32.ofNat to), .unset, .unset, .unset] [(.int (0 : Int32))]))
      refine Go.pre (fun _ k => XS.ifNo X31.here hx rfl (hb hby d_prog_16_method_18_11) rfl ((if0 _ _).trans (teq (by decide : (0 : Int32) = (0 : Int32))).2) k) ?_
      show Go p e below _ (T31.setTop (mkF m 14 #[rv a, iv (1 : Int32), iv (Int32.ofNat to), .unset, .unset, .unset] []))
      refine Go.pre (fun _ k => XS.iconst X31.here hx rfl (hb hby d_prog_16_method_18_14) k) ?_
      show Go p e below _ (T31.setTop (mkF m 15 #[rv a, iv (1 : Int32), iv (Int32.ofNat to), .unset, .unset, .unset] [(.int (0 : Int32))]))
      obtain ⟨fs, hr, hrun, hended, hW, hsame⟩ := X31.leave (v := some (.int (0 : Int32))) (fun h => by rw [Bd.returns] at h; cases h)
      refine Go.fin (o := .returned (some (.int (0 : Int32)))) (retN X31 hx (t := .boolean) Bd.returns (by simp) (hb hby d_prog_16_method_18_15) hr) ?_
      rw [hP]
      refine ⟨hrun, hended, _, _, rfl, ?_, ⟨_, rfl⟩, hW, hsame.mono (by decide) (by decide)⟩
      show Q_plain Z a b to ck h0 n0 _ T31.heap _
      rw [eh31]
      have q : RR = false := (by simp only [hRR, own_plain, own_f24, own_f51, own_f81, own_f108, eq_false hc2_29, eq_false hp31, ↓reduceIte])
      exact Or.inr ⟨(fun z => by rw [← hRR, q] at z; cases z), rfl, N31, rfl⟩


section New
variable {p : Program} {l : Launch} {e : Env} {R : Room} {s : State} {m : MethodId} {args : Array Value} {below : List Frame} {meth : Method} {c : Code} {T : State} {locs : List Loc} {cells slots : Nat}
/-- one place of an array of bytes is written -/
theorem own_putB (X : Stand p l e R s m args below meth c T locs cells slots) (hx : p.tables.exec = Jvm.exec) {Z : State} (hZ : Z.Warmed39 s.vm) {h : Heap} (eT : T.heap = h) {b : Addr} {k : ClassId} {z x : Int32} {vs : List Value} {dv : Value} (V : Arv Z h b k .byte z vs dv) {j : Int32} (hj : ¬ j < 0 ∧ j < z) (i : Nat) (hji : j.toNatClampNeg = i) (hi : i < vs.length)
    {g : JFrame} (hg : g.method = m) {rest : List Value} (hs : g.stack = .int x :: .int j :: .ref b :: rest) (hd : decode c.code g.pc = .ok (.bastore, 1)) :
    ∃ T' h', Stand p l e R s m args below meth c T' (locs ++ [⟨b, j.toNatClampNeg⟩]) cells slots ∧ T'.heap = h' ∧ Wr h h' b j.toNatClampNeg (.int (nar .byte x)) ∧ Arv Z h' b k .byte z (vs.set i (.int (nar .byte x))) dv ∧ ∀ target, Steps p.tables e below (T'.setTop { g with pc := g.pc + 1, stack := rest }) target → Steps p.tables e below (T.setTop g) target := by
  obtain ⟨cl, Ar, q1, S, q3, H, G⟩ := V
  obtain ⟨T', h', X', e', W, st⟩ := stB X hx hZ eT Ar (inb_of S hj) hg hs hd
  exact ⟨T', h', X', e', W, Arv.set Ar q1 S q3 H G (fits_nar_byte x) W i hji hi, st⟩
/-- where it wrote is no longer told -/
theorem own_abs (X : Stand p l e R s m args below meth c T locs cells slots) {n0 : Nat} (N : Fr n0 locs) : ∃ L', Stand p l e R s m args below meth c T L' cells slots ∧ Fr n0 L' := ⟨_, X, N⟩
end New
theorem own_clamp {i : Nat} (h : i < 2 ^ 31) : (Int32.ofNat i).toNatClampNeg = i := by
  show (Int32.ofNat i).toInt.toNat = i
  rw [own_o_toInt h]; rfl
theorem own_nn {i : Nat} (h : i < 2 ^ 31) : ¬ Int32.ofNat i < 0 := by
  rw [Int32.lt_iff_toInt_lt, own_o_toInt h]
  have e0 : (0 : Int32).toInt = 0 := by decide
  omega
theorem own_rem (x : Int32) (n : Nat) (h0 : 0 < n) (h1 : n < 100) : ∃ k, k < n ∧ (x &&& 2147483647) - (x &&& 2147483647) / Int32.ofNat n * Int32.ofNat n = Int32.ofNat k := by
  rw [irem_eq_mod]
  have ha := (c_and x 2147483647 (by decide)).1
  have hn := own_o_toInt (a := n) (by omega)
  have h2 := (c_irem (x &&& 2147483647) (Int32.ofNat n) n hn).1 ha
  have h3 := Int.emod_nonneg (x &&& 2147483647).toInt (b := (n : Int)) (by omega)
  have h4 := Int.emod_lt_of_pos (x &&& 2147483647).toInt (b := (n : Int)) (by omega)
  refine ⟨((x &&& 2147483647).toInt % (n : Int)).toNat, by omega, ?_⟩
  apply Int32.toInt_inj.mp
  rw [h2, own_o_toInt (by omega)]; omega
theorem own_rem13 (x : Int32) : ∃ k, k < 13 ∧ (x &&& 2147483647) - (x &&& 2147483647) / 13 * 13 = Int32.ofNat k := own_rem x 13 (by decide) (by decide)
theorem own_rem14 (x : Int32) : ∃ k, k < 14 ∧ (x &&& 2147483647) - (x &&& 2147483647) / 14 * 14 = Int32.ofNat k := own_rem x 14 (by decide) (by decide)
theorem own_rem15 (x : Int32) : ∃ k, k < 15 ∧ (x &&& 2147483647) - (x &&& 2147483647) / 15 * 15 = Int32.ofNat k := own_rem x 15 (by decide) (by decide)
theorem own_rem19 (x : Int32) : ∃ k, k < 19 ∧ (x &&& 2147483647) - (x &&& 2147483647) / 19 * 19 = Int32.ofNat k := own_rem x 19 (by decide) (by decide)
theorem own_kdK {Z : State} {h h' : Heap} {a : Addr} (F : Kds Z h a) (K : Keep h h' []) : Kds Z h' a := by
  obtain ⟨cl, A, r⟩ := F
  exact ⟨cl, ⟨K.2.1 _ _ A.1 nin0, A.2⟩, r⟩
def own_vl (u : Nat) : Value := .int (own_sb u)
/-- what the law's array holds, from its place 1 on -/
theorem own_vs (t : List Nat) (x0 xn dv : Value) (k c i : Nat) (h1 : 1 ≤ i) (h2 : i < 1 + t.length) :
    ((x0 :: (t.map own_vl ++ [xn])).set (1 + k) (.int (nar .byte (own_sb c)))).getD i dv = .int (own_sb (own_b (t.set k c) i)) := by
  obtain ⟨i, rfl⟩ : ∃ j, i = j + 1 := ⟨i - 1, by omega⟩
  have hn : nar .byte (own_sb c) = own_sb c := own_sb8 c
  rw [hn, Nat.add_comm 1 k, List.set_cons_succ, List.getD_cons_succ]
  have hi : i < t.length := by omega
  unfold own_b
  rw [Nat.add_sub_cancel, List.getD_eq_getElem?_getD, List.getD_eq_getElem?_getD, List.getElem?_set, List.getElem?_set]
  by_cases hk : k = i
  · subst hk
    have : k < (t.map own_vl ++ [xn]).length := by simp; omega
    simp only [this, hi, ↓reduceIte, Option.getD_some]
  · have e1 : (t.map own_vl ++ [xn])[i]? = some (own_vl t[i]) := by
      rw [List.getElem?_append_left (by simpa using hi)]; simp [hi]
    simp [hk, e1, hi, own_vl]
theorem own_vsD (t : List Nat) (x0 xn dv w : Value) (k i : Nat) (h1 : 1 ≤ i) (h2 : i < 1 + k) (h3 : k ≤ t.length) :
    ((x0 :: (t.map own_vl ++ [xn])).set (1 + k) w).getD i dv = .int (own_sb (own_b t i)) := by
  obtain ⟨i, rfl⟩ : ∃ j, i = j + 1 := ⟨i - 1, by omega⟩
  rw [Nat.add_comm 1 k, List.set_cons_succ, List.getD_cons_succ]
  have hi : i < t.length := by omega
  unfold own_b
  rw [Nat.add_sub_cancel, List.getD_eq_getElem?_getD, List.getD_eq_getElem?_getD, List.getElem?_set]
  have hk : ¬ k = i := by omega
  have e1 : (t.map own_vl ++ [xn])[i]? = some (own_vl t[i]) := by
    rw [List.getElem?_append_left (by simpa using hi)]; simp [hi]
  simp [hk, e1, hi, own_vl]
theorem own_byt {Z : State} {h : Heap} {a : Addr} {k : ClassId} {z : Int32} {vs : List Value} {dv : Value} {b : Nat → Nat} {to : Nat} (V : Arv Z h a k .byte z vs dv) (h1 : to ≤ z.toNatClampNeg) (h2 : to < 2 ^ 31) (h3 : ∀ i, 1 ≤ i → i < to → vs.getD i dv = .int (own_sb (b i))) : Byt Z h a b to := by
  obtain ⟨cl, Ar, -, S, -, H, -⟩ := V
  refine ⟨cl, Ar, fun i q1 q2 => ?_⟩
  have e := own_clamp (i := i) (by omega)
  have hlt : i < cl.slots.size := by omega
  refine ⟨?_, ?_⟩
  · rintro (q | q)
    · exact own_nn (by omega) q
    · omega
  · rw [e, H i hlt, h3 i q1 q2]
theorem own_b8 (t : List Nat) (k c : Nat) (ht : t.all (fun u => Nat.blt u 256) = true) (hc : c < 256) : ∀ i, own_b (t.set k c) i < 256 := fun i => own_bf t k c hc (fun u hu => by have := List.all_eq_true.mp ht u hu; simpa using this) i
theorem own_b8' (t : List Nat) (ht : t.all (fun u => Nat.blt u 256) = true) : ∀ i, own_b t i < 256 := fun i => by
  have h := own_b8 t t.length 0 ht (by decide) i
  rwa [List.set_eq_of_length_le (Nat.le_refl _)] at h
theorem own_useD {k : Nat} (hk : k < 14) : own_plain (own_b own_tA) 1 (1 + k) = (k != 0 && k != 1 && k != 4) := beq_iff_eq.mp (List.all_eq_true.mp own_lawD k (List.mem_range.mpr hk))
def own_segs : List (Nat × Nat × Nat) := [(0, 33, 0), (33, 34, 14), (34, 35, 0), (35, 36, 0), (36, 37, 14), (37, 38, 0), (38, 43, 14), (43, 44, 15), (44, 45, 14), (45, 46, 15), (46, 47, 15), (47, 48, 12), (48, 58, 31), (58, 59, 12), (59, 60, 14), (60, 61, 0), (61, 62, 14), (62, 63, 0), (63, 64, 8), (64, 65, 12), (65, 71, 31), (71, 91, 15), (91, 95, 0), (95, 96, 14), (96, 97, 0), (97, 103, 31), (103, 123, 15), (123, 124, 0), (124, 125, 0), (125, 126, 0), (126, 127, 14), (127, 256, 0)]
set_option maxRecDepth 100000 in
theorem own_cover : ∀ u : Fin 256, own_segs.any (fun g => Nat.ble g.1 u.1 && Nat.blt u.1 g.2.1 && own_kd u.1 == g.2.2) = true := by decide +kernel
theorem own_kds {sl : Array Value} (hs : ∀ g ∈ own_segs, ∀ i, g.1 ≤ i → i < g.2.1 → sl[i]? = some (.int (Int32.ofNat g.2.2))) (u : Nat) (hu : u < 256) : sl[u]? = some (.int (Int32.ofNat (own_kd u))) := by
  obtain ⟨g, hg, h⟩ := List.any_eq_true.mp (own_cover ⟨u, hu⟩)
  simp only [Bool.and_eq_true, Nat.ble_eq, beq_iff_eq, Nat.blt_eq] at h
  rw [hs g hg u h.1.1 h.1.2, h.2]
/-- an element that a word tells -/
theorem own_el {args : Array Value} {s : State} {idx : List Nat} {t ix : Term} {a : Addr} {j v : Int32} {cl : Cell} (h : (Cond.eq (Term.elem t ix) (Term.int v)).value args s none s idx = some true) (ht : t.eval args s none idx s = some (.ref a)) (hj : ix.eval args s none idx s = some (.int j)) (hc : s.heap[a]? = some cl) : cl.slots[j.toNatClampNeg]? = some (.int v) := by
  have ek : (Term.int v).eval args s none idx s = some (.int v) := Term.int_eval v
  cases he : (Term.elem t ix).eval args s none idx s with
  | none => simp [Cond.value, he] at h
  | some x =>
    have h2 := (elem_in he ht hj hc).2
    cases x <;> simp [Cond.value, he, ek] at h
    rw [h2, h]
theorem own_ix {args : Array Value} {s : State} {o : Option Outcome} {k : Nat} {r : List Nat} : (Term.index 0).eval args s o (k :: r) s = some (.int (Int32.ofNat k)) := by first | rfl | exact Term.index_eval _ | simp [Term.eval]
theorem own_rg {args : Array Value} {s : State} {t : Term} {a : Addr} {cl : Cell} {lo hi v : Nat} (hs : cl.slots.size = 256) (ev : ∀ idx, t.eval args s none idx s = some (.ref a)) (A : Arr s s.heap a cl .int) (hlo : lo < 300) (hhi : hi < 300)
    (h : (Cond.all t (Cond.or (Cond.lt (Term.index 0) (Term.int (Int32.ofNat lo))) (Cond.or (Cond.le (Term.int (Int32.ofNat hi)) (Term.index 0)) (Cond.eq (Term.elem t (Term.index 0)) (Term.int (Int32.ofNat v)))))).value args s none s [] = some true) (i : Nat) (h1 : lo ≤ i) (h2 : i < hi) (h3 : i < 256) : cl.slots[i]? = some (.int (Int32.ofNat v)) := by
  have q := Cond.all_elim (ev []) (A.fin (Vm.Alike.refl _)) h i (by omega)
  have e1 : (Cond.lt (Term.index 0) (Term.int (Int32.ofNat lo))).value args s none s [i] = some (decide (Int32.ofNat i < Int32.ofNat lo)) := Cond.lt_ints own_ix (Term.int_eval _)
  have e2 : (Cond.le (Term.int (Int32.ofNat hi)) (Term.index 0)).value args s none s [i] = some (decide (Int32.ofNat hi ≤ Int32.ofNat i)) := Cond.le_ints (Term.int_eval _) own_ix
  rw [Cond.or_of_right (nay e1 (fun z => by have := (own_ol (by omega) (by omega)).mp z; omega))] at q
  rw [Cond.or_of_right (nay e2 (fun z => by have z := Int32.not_lt.mpr z; exact z ((own_ol (by omega) (by omega)).mpr h2)))] at q
  have := own_el q (ev _) own_ix A.1
  rwa [own_clamp (by omega)] at this
theorem own_rgL {args : Array Value} {s : State} {t : Term} {a : Addr} {cl : Cell} {lo v : Nat} (hs : cl.slots.size = 256) (ev : ∀ idx, t.eval args s none idx s = some (.ref a)) (A : Arr s s.heap a cl .int) (hlo : lo < 300)
    (h : (Cond.all t (Cond.or (Cond.lt (Term.index 0) (Term.int (Int32.ofNat lo))) (Cond.eq (Term.elem t (Term.index 0)) (Term.int (Int32.ofNat v))))).value args s none s [] = some true) (i : Nat) (h1 : lo ≤ i) (h3 : i < 256) : cl.slots[i]? = some (.int (Int32.ofNat v)) := by
  have q := Cond.all_elim (ev []) (A.fin (Vm.Alike.refl _)) h i (by omega)
  have e1 : (Cond.lt (Term.index 0) (Term.int (Int32.ofNat lo))).value args s none s [i] = some (decide (Int32.ofNat i < Int32.ofNat lo)) := Cond.lt_ints own_ix (Term.int_eval _)
  rw [Cond.or_of_right (nay e1 (fun z => by have := (own_ol (by omega) (by omega)).mp z; omega))] at q
  have := own_el q (ev _) own_ix A.1
  rwa [own_clamp (by omega)] at this
theorem own_rgH {args : Array Value} {s : State} {t : Term} {a : Addr} {cl : Cell} {hi v : Nat} (hs : cl.slots.size = 256) (ev : ∀ idx, t.eval args s none idx s = some (.ref a)) (A : Arr s s.heap a cl .int) (hhi : hi < 300)
    (h : (Cond.all t (Cond.or (Cond.le (Term.int (Int32.ofNat hi)) (Term.index 0)) (Cond.eq (Term.elem t (Term.index 0)) (Term.int (Int32.ofNat v))))).value args s none s [] = some true) (i : Nat) (h2 : i < hi) (h3 : i < 256) : cl.slots[i]? = some (.int (Int32.ofNat v)) := by
  have q := Cond.all_elim (ev []) (A.fin (Vm.Alike.refl _)) h i (by omega)
  have e2 : (Cond.le (Term.int (Int32.ofNat hi)) (Term.index 0)).value args s none s [i] = some (decide (Int32.ofNat hi ≤ Int32.ofNat i)) := Cond.le_ints (Term.int_eval _) own_ix
  rw [Cond.or_of_right (nay e2 (fun z => by have z := Int32.not_lt.mpr z; exact z ((own_ol (by omega) (by omega)).mpr h2)))] at q
  have := own_el q (ev _) own_ix A.1
  rwa [own_clamp (by omega)] at this
theorem own_pt {args : Array Value} {s : State} {t : Term} {a : Addr} {cl : Cell} {k v : Nat} (ev : ∀ idx, t.eval args s none idx s = some (.ref a)) (A : Arr s s.heap a cl .int) (hk : k < 300)
    (h : (Cond.eq (Term.elem t (Term.int (Int32.ofNat k))) (Term.int (Int32.ofNat v))).value args s none s [] = some true) (i : Nat) (h1 : k ≤ i) (h2 : i < k + 1) : cl.slots[i]? = some (.int (Int32.ofNat v)) := by
  obtain rfl : i = k := by omega
  have := own_el h (ev _) (Term.int_eval _) A.1
  rwa [own_clamp (by omega)] at this

theorem ef_law (m : MethodId) (x0 : Int32) (x1 : Int32) (x2 : Int32) (x3 : Int32) (x4 : Int32) : entryFrame m #[(.int x0), (.int x1), (.int x2), (.int x3), (.int x4)] maxLocals = mkF m 0 #[iv x0, iv x1, iv x2, iv x3, iv x4, .unset, .unset, .unset, .unset, .unset, .unset, .unset] [] := by first | (simp [entryFrame, mkF, argsToLocals, Value.category, maxLocals]; done) | rfl
theorem pn_law : plainName "com/example/entayl/entayl/input/IriTableIsPlainIriPinLaw" = true := by first | (simp [plainName, overriddenIn]; done) | decide +kernel
def Q_law (Z : State) (p0 : Int32) (p1 : Int32) (p2 : Int32) (p3 : Int32) (p4 : Int32) (ck : Addr) (h0 : Heap) (n0 : Nat) (v : Option Value) (h : Heap) (L : List Loc) : Prop := v = some (.int 1) ∧ Fr n0 L
set_option maxRecDepth 65536 in
set_option maxHeartbeats 40000000 in
theorem rm_law (l : Launch) (Z : State) (a0 : Array Value) (hw : ∀ d ∈ tables_1, d.before a0 Z = true) (ws : List Jvm.Cond) (p0 : Int32) (p1 : Int32) (p2 : Int32) (p3 : Int32) (p4 : Int32) (ck : Addr) (h0 : Heap) (n0 : Nat) (Z0 : n0 ≤ h0.size) (SK : Sta Z h0 "com/example/entayl/entayl/input/IriTable" "KINDS" "[I" (.ref ck)) (KD : Kds Z h0 ck) :
    MetFree l x (head1 (Jvm.Cond.code x code maxLocals ret :: ws) room_1) (fun as_ U => as_ = #[(.int p0), (.int p1), (.int p2), (.int p3), (.int p4)] ∧ Z.Warmed39 U.vm ∧ U.heap = h0) (fun _ _ _ _ _ => True) (fun _ U o U' => ∃ v L, o = .returned v ∧ Q_law Z p0 p1 p2 p3 p4 ck h0 n0 v U'.heap L ∧ FrameEnd U o U' L room_1.cells room_1.slots) := by
  refine MetFree.of_bodySF (plainFor_of_name pn_law) hisR ?_
  intro p e s m args below meth c s₁ Bd hml0 hP hK
  obtain ⟨rfl, hZ, hh⟩ := hP
  have hx := Bd.exec
  have hby := Bd.bytes
  have hml : c.maxLocals = 12 := hml0
  have hown : s.vm.findClass "com/example/entayl/entayl/input/IriTableIsPlainIriPinLaw" = some m.cls := findClass_of_methodNamed Bd.named
  have hnm := (name_of_methodNamed Bd.named Bd.method).1
  have X0 : Stand p l e room_1 s m #[(.int p0), (.int p1), (.int p2), (.int p3), (.int p4)] below meth c s₁ [] 0 0 := Stand.of_body Bd
  have e0 : s₁.heap = h0 := by rw [← hh, Bd.state]; rfl
  have N0 := Fr.nil n0
  refine Go.out ?_
  refine Go.pre (fun t k => castTop (ef_law m p0 p1 p2 p3 p4) k) ?_
  obtain ⟨cu, hcu, ec⟩ := own_mask p2
  show Go p e below _ (s₁.setTop (mkF m 0 #[iv p0, iv p1, iv p2, iv p3, iv p4, .unset, .unset, .unset, .unset, .unset, .unset, .unset] []))
  refine Go.pre (fun _ k => XS.iloadN X0.here hx rfl (hb hby at_0) rfl k) ?_
  show Go p e below _ (s₁.setTop (mkF m 1 #[iv p0, iv p1, iv p2, iv p3, iv p4, .unset, .unset, .unset, .unset, .unset, .unset, .unset] [(.int p0)]))
  refine Go.pre (fun _ k => XS.iconst X0.here hx rfl (hb hby at_1) k) ?_
  show Go p e below _ (s₁.setTop (mkF m 2 #[iv p0, iv p1, iv p2, iv p3, iv p4, .unset, .unset, .unset, .unset, .unset, .unset, .unset] [(.int (3 : Int32)), (.int p0)]))
  refine Go.pre (fun _ k => XS.iand X0.here hx rfl (hb hby at_2) rfl k) ?_
  show Go p e below _ (s₁.setTop (mkF m 3 #[iv p0, iv p1, iv p2, iv p3, iv p4, .unset, .unset, .unset, .unset, .unset, .unset, .unset] [(.int (p0 &&& (3 : Int32)))]))
  refine Go.pre (fun _ k => XS.istore X0.here hx rfl (hb hby at_3) rfl (l' := #[iv p0, iv p1, iv p2, iv p3, iv p4, iv (p0 &&& (3 : Int32)), .unset, .unset, .unset, .unset, .unset, .unset]) rfl k) ?_
  show Go p e below _ (s₁.setTop (mkF m 5 #[iv p0, iv p1, iv p2, iv p3, iv p4, iv (p0 &&& (3 : Int32)), .unset, .unset, .unset, .unset, .unset, .unset] []))
  refine Go.pre (fun _ k => XS.iloadN X0.here hx rfl (hb hby at_5) rfl k) ?_
  show Go p e below _ (s₁.setTop (mkF m 6 #[iv p0, iv p1, iv p2, iv p3, iv p4, iv (p0 &&& (3 : Int32)), .unset, .unset, .unset, .unset, .unset, .unset] [(.int p2)]))
  refine Go.pre (fun _ k => XS.sipush X0.here hx rfl (hb hby at_6) k) ?_
  show Go p e below _ (s₁.setTop (mkF m 9 #[iv p0, iv p1, iv p2, iv p3, iv p4, iv (p0 &&& (3 : Int32)), .unset, .unset, .unset, .unset, .unset, .unset] [(.int (255 : Int32)), (.int p2)]))
  refine Go.pre (fun _ k => XS.iand X0.here hx rfl (hb hby at_9) rfl k) ?_
  show Go p e below _ (s₁.setTop (mkF m 10 #[iv p0, iv p1, iv p2, iv p3, iv p4, iv (p0 &&& (3 : Int32)), .unset, .unset, .unset, .unset, .unset, .unset] [(.int (p2 &&& (255 : Int32)))]))
  rw [ec]
  show Go p e below _ (s₁.setTop (mkF m 10 #[iv p0, iv p1, iv p2, iv p3, iv p4, iv (p0 &&& (3 : Int32)), .unset, .unset, .unset, .unset, .unset, .unset] [(.int (Int32.ofNat cu))]))
  refine Go.pre (fun _ k => XS.istore X0.here hx rfl (hb hby at_10) rfl (l' := #[iv p0, iv p1, iv p2, iv p3, iv p4, iv (p0 &&& (3 : Int32)), iv (Int32.ofNat cu), .unset, .unset, .unset, .unset, .unset]) rfl k) ?_
  show Go p e below _ (s₁.setTop (mkF m 12 #[iv p0, iv p1, iv p2, iv p3, iv p4, iv (p0 &&& (3 : Int32)), iv (Int32.ofNat cu), .unset, .unset, .unset, .unset, .unset] []))
  refine Go.pre (fun _ k => XS.iload X0.here hx rfl (hb hby at_12) rfl k) ?_
  show Go p e below _ (s₁.setTop (mkF m 14 #[iv p0, iv p1, iv p2, iv p3, iv p4, iv (p0 &&& (3 : Int32)), iv (Int32.ofNat cu), .unset, .unset, .unset, .unset, .unset] [(.int (Int32.ofNat cu))]))
  refine Go.pre (fun _ k => XS.i2b X0.here hx rfl (hb hby at_14) rfl k) ?_
  show Go p e below _ (s₁.setTop (mkF m 15 #[iv p0, iv p1, iv p2, iv p3, iv p4, iv (p0 &&& (3 : Int32)), iv (Int32.ofNat cu), .unset, .unset, .unset, .unset, .unset] [(.int (own_sb cu))]))
  refine Go.pre (fun _ k => XS.istore X0.here hx rfl (hb hby at_15) rfl (l' := #[iv p0, iv p1, iv p2, iv p3, iv p4, iv (p0 &&& (3 : Int32)), iv (Int32.ofNat cu), iv (own_sb cu), .unset, .unset, .unset, .unset]) rfl k) ?_
  show Go p e below _ (s₁.setTop (mkF m 17 #[iv p0, iv p1, iv p2, iv p3, iv p4, iv (p0 &&& (3 : Int32)), iv (Int32.ofNat cu), iv (own_sb cu), .unset, .unset, .unset, .unset] []))
  refine Go.pre (fun _ k => XS.iloadN X0.here hx rfl (hb hby at_17) rfl k) ?_
  show Go p e below _ (s₁.setTop (mkF m 18 #[iv p0, iv p1, iv p2, iv p3, iv p4, iv (p0 &&& (3 : Int32)), iv (Int32.ofNat cu), iv (own_sb cu), .unset, .unset, .unset, .unset] [(.int p1)]))
  refine Go.pre (X0.ldcInt hx hown (mvT hZ (hw _ (List.mem_of_getElem? (i := 0) rfl))) (g := (mkF m 18 #[iv p0, iv p1, iv p2, iv p3, iv p4, iv (p0 &&& (3 : Int32)), iv (Int32.ofNat cu), iv (own_sb cu), .unset, .unset, .unset, .unset] [(.int p1)])) rfl (hb hby at_18)) ?_
  show Go p e below _ (s₁.setTop (mkF m 20 #[iv p0, iv p1, iv p2, iv p3, iv p4, iv (p0 &&& (3 : Int32)), iv (Int32.ofNat cu), iv (own_sb cu), .unset, .unset, .unset, .unset] [(.int (2147483647 : Int32)), (.int p1)]))
  refine Go.pre (fun _ k => XS.iand X0.here hx rfl (hb hby at_20) rfl k) ?_
  show Go p e below _ (s₁.setTop (mkF m 21 #[iv p0, iv p1, iv p2, iv p3, iv p4, iv (p0 &&& (3 : Int32)), iv (Int32.ofNat cu), iv (own_sb cu), .unset, .unset, .unset, .unset] [(.int (p1 &&& (2147483647 : Int32)))]))
  refine Go.pre (fun _ k => XS.istore X0.here hx rfl (hb hby at_21) rfl (l' := #[iv p0, iv p1, iv p2, iv p3, iv p4, iv (p0 &&& (3 : Int32)), iv (Int32.ofNat cu), iv (own_sb cu), iv (p1 &&& (2147483647 : Int32)), .unset, .unset, .unset]) rfl k) ?_
  show Go p e below _ (s₁.setTop (mkF m 23 #[iv p0, iv p1, iv p2, iv p3, iv p4, iv (p0 &&& (3 : Int32)), iv (Int32.ofNat cu), iv (own_sb cu), iv (p1 &&& (2147483647 : Int32)), .unset, .unset, .unset] []))
  refine Go.pre (fun _ k => XS.iload X0.here hx rfl (hb hby at_23) rfl k) ?_
  show Go p e below _ (s₁.setTop (mkF m 25 #[iv p0, iv p1, iv p2, iv p3, iv p4, iv (p0 &&& (3 : Int32)), iv (Int32.ofNat cu), iv (own_sb cu), iv (p1 &&& (2147483647 : Int32)), .unset, .unset, .unset] [(.int (p0 &&& (3 : Int32)))]))
  by_cases hc25_1 : (p0 &&& (3 : Int32)) = (0 : Int32)
  · skip
    refine Go.pre (fun _ k => XS.ifNo X0.here hx rfl (hb hby at_25) rfl ((if0 _ _).trans (teq hc25_1).2) k) ?_
    show Go p e below _ (s₁.setTop (mkF m 28 #[iv p0, iv p1, iv p2, iv p3, iv p4, iv (p0 &&& (3 : Int32)), iv (Int32.ofNat cu), iv (own_sb cu), iv (p1 &&& (2147483647 : Int32)), .unset, .unset, .unset] []))
    refine Go.pre (fun _ k => XS.bipush X0.here hx rfl (hb hby at_28) k) ?_
    show Go p e below _ (s₁.setTop (mkF m 30 #[iv p0, iv p1, iv p2, iv p3, iv p4, iv (p0 &&& (3 : Int32)), iv (Int32.ofNat cu), iv (own_sb cu), iv (p1 &&& (2147483647 : Int32)), .unset, .unset, .unset] [(.int (15 : Int32))]))
    obtain ⟨T2, h2, k2, X2, e2, Ex2, A2, st2⟩ := newP X0 hx hZ (hw _ (List.mem_of_getElem? (i := 1) rfl)) e0 (g := (mkF m 30 #[iv p0, iv p1, iv p2, iv p3, iv p4, iv (p0 &&& (3 : Int32)), iv (Int32.ofNat cu), iv (own_sb cu), iv (p1 &&& (2147483647 : Int32)), .unset, .unset, .unset] [(.int (15 : Int32))])) rfl (hb hby at_30) rfl (by decide) (cap := 15) (by decide) (by decide) (by decide) (by decide)
    obtain ⟨b, hb0⟩ : ∃ z, z = h0.size := ⟨_, rfl⟩
    rw [← hb0] at A2 st2
    have g_b : n0 ≤ b := by omega
    have sz_b : h0.size ≤ b := Nat.le_of_eq hb0.symm
    have V2 : Arv Z h2 b k2 .byte 15 [.int 0, .int 0, .int 0, .int 0, .int 0, .int 0, .int 0, .int 0, .int 0, .int 0, .int 0, .int 0, .int 0, .int 0, .int 0] (.int 0) := (Arv.new A2 (by decide)).pad (pad_rep [] (.int 0) 15)
    have K2 : Keep h0 h2 [] := (Keep.refl h0 []).ext Ex2
    refine Go.pre st2 ?_
    show Go p e below _ (T2.setTop (mkF m 32 #[iv p0, iv p1, iv p2, iv p3, iv p4, iv (p0 &&& (3 : Int32)), iv (Int32.ofNat cu), iv (own_sb cu), iv (p1 &&& (2147483647 : Int32)), .unset, .unset, .unset] [(.ref b)]))
    refine Go.pre (fun _ k => XS.dup X2.here hx rfl (hb hby at_32) rfl rfl k) ?_
    show Go p e below _ (T2.setTop (mkF m 33 #[iv p0, iv p1, iv p2, iv p3, iv p4, iv (p0 &&& (3 : Int32)), iv (Int32.ofNat cu), iv (own_sb cu), iv (p1 &&& (2147483647 : Int32)), .unset, .unset, .unset] [(.ref b), (.ref b)]))
    refine Go.pre (fun _ k => XS.iconst X2.here hx rfl (hb hby at_33) k) ?_
    show Go p e below _ (T2.setTop (mkF m 34 #[iv p0, iv p1, iv p2, iv p3, iv p4, iv (p0 &&& (3 : Int32)), iv (Int32.ofNat cu), iv (own_sb cu), iv (p1 &&& (2147483647 : Int32)), .unset, .unset, .unset] [(.int (0 : Int32)), (.ref b), (.ref b)]))
    refine Go.pre (fun _ k => XS.iloadN X2.here hx rfl (hb hby at_34) rfl k) ?_
    show Go p e below _ (T2.setTop (mkF m 35 #[iv p0, iv p1, iv p2, iv p3, iv p4, iv (p0 &&& (3 : Int32)), iv (Int32.ofNat cu), iv (own_sb cu), iv (p1 &&& (2147483647 : Int32)), .unset, .unset, .unset] [(.int p3), (.int (0 : Int32)), (.ref b), (.ref b)]))
    refine Go.pre (fun _ k => XS.i2b X2.here hx rfl (hb hby at_35) rfl k) ?_
    show Go p e below _ (T2.setTop (mkF m 36 #[iv p0, iv p1, iv p2, iv p3, iv p4, iv (p0 &&& (3 : Int32)), iv (Int32.ofNat cu), iv (own_sb cu), iv (p1 &&& (2147483647 : Int32)), .unset, .unset, .unset] [(.int (p3.toInt8.toInt32)), (.int (0 : Int32)), (.ref b), (.ref b)]))
    obtain ⟨T3, h3, X3, e3, W3, V3, st3⟩ := own_putB X2 hx hZ e2 V2 (j := (0 : Int32)) (by decide) 0 rfl (Nat.le_of_ble_eq_true rfl) (g := (mkF m 36 #[iv p0, iv p1, iv p2, iv p3, iv p4, iv (p0 &&& (3 : Int32)), iv (Int32.ofNat cu), iv (own_sb cu), iv (p1 &&& (2147483647 : Int32)), .unset, .unset, .unset] [(.int (p3.toInt8.toInt32)), (.int (0 : Int32)), (.ref b), (.ref b)])) rfl rfl (hb hby at_36)
    have V3 : Arv Z h3 b k2 .byte 15 [.int (nar .byte (p3.toInt8.toInt32)), .int 0, .int 0, .int 0, .int 0, .int 0, .int 0, .int 0, .int 0, .int 0, .int 0, .int 0, .int 0, .int 0, .int 0] (.int 0) := V3
    have K3 : Keep h0 h3 [] := K2.wr W3 (Or.inr sz_b)
    have N3 := Fr.snoc X3 N0 g_b
    refine Go.pre st3 ?_
    obtain ⟨LL3, XX3, NN3⟩ := own_abs X3 N3
    show Go p e below _ (T3.setTop (mkF m 37 #[iv p0, iv p1, iv p2, iv p3, iv p4, iv (p0 &&& (3 : Int32)), iv (Int32.ofNat cu), iv (own_sb cu), iv (p1 &&& (2147483647 : Int32)), .unset, .unset, .unset] [(.ref b)]))
    refine Go.pre (fun _ k => XS.dup XX3.here hx rfl (hb hby at_37) rfl rfl k) ?_
    show Go p e below _ (T3.setTop (mkF m 38 #[iv p0, iv p1, iv p2, iv p3, iv p4, iv (p0 &&& (3 : Int32)), iv (Int32.ofNat cu), iv (own_sb cu), iv (p1 &&& (2147483647 : Int32)), .unset, .unset, .unset] [(.ref b), (.ref b)]))
    refine Go.pre (fun _ k => XS.iconst XX3.here hx rfl (hb hby at_38) k) ?_
    show Go p e below _ (T3.setTop (mkF m 39 #[iv p0, iv p1, iv p2, iv p3, iv p4, iv (p0 &&& (3 : Int32)), iv (Int32.ofNat cu), iv (own_sb cu), iv (p1 &&& (2147483647 : Int32)), .unset, .unset, .unset] [(.int (1 : Int32)), (.ref b), (.ref b)]))
    refine Go.pre (fun _ k => XS.bipush XX3.here hx rfl (hb hby at_39) k) ?_
    show Go p e below _ (T3.setTop (mkF m 41 #[iv p0, iv p1, iv p2, iv p3, iv p4, iv (p0 &&& (3 : Int32)), iv (Int32.ofNat cu), iv (own_sb cu), iv (p1 &&& (2147483647 : Int32)), .unset, .unset, .unset] [(.int (104 : Int32)), (.int (1 : Int32)), (.ref b), (.ref b)]))
    obtain ⟨T4, h4, X4, e4, W4, V4, st4⟩ := own_putB XX3 hx hZ e3 V3 (j := (1 : Int32)) (by decide) 1 rfl (Nat.le_of_ble_eq_true rfl) (g := (mkF m 41 #[iv p0, iv p1, iv p2, iv p3, iv p4, iv (p0 &&& (3 : Int32)), iv (Int32.ofNat cu), iv (own_sb cu), iv (p1 &&& (2147483647 : Int32)), .unset, .unset, .unset] [(.int (104 : Int32)), (.int (1 : Int32)), (.ref b), (.ref b)])) rfl rfl (hb hby at_41)
    have V4 : Arv Z h4 b k2 .byte 15 [.int (nar .byte (p3.toInt8.toInt32)), own_vl 104, .int 0, .int 0, .int 0, .int 0, .int 0, .int 0, .int 0, .int 0, .int 0, .int 0, .int 0, .int 0, .int 0] (.int 0) := V4
    have K4 : Keep h0 h4 [] := K3.wr W4 (Or.inr sz_b)
    have N4 := Fr.snoc X4 NN3 g_b
    refine Go.pre st4 ?_
    obtain ⟨LL4, XX4, NN4⟩ := own_abs X4 N4
    show Go p e below _ (T4.setTop (mkF m 42 #[iv p0, iv p1, iv p2, iv p3, iv p4, iv (p0 &&& (3 : Int32)), iv (Int32.ofNat cu), iv (own_sb cu), iv (p1 &&& (2147483647 : Int32)), .unset, .unset, .unset] [(.ref b)]))
    refine Go.pre (fun _ k => XS.dup XX4.here hx rfl (hb hby at_42) rfl rfl k) ?_
    show Go p e below _ (T4.setTop (mkF m 43 #[iv p0, iv p1, iv p2, iv p3, iv p4, iv (p0 &&& (3 : Int32)), iv (Int32.ofNat cu), iv (own_sb cu), iv (p1 &&& (2147483647 : Int32)), .unset, .unset, .unset] [(.ref b), (.ref b)]))
    refine Go.pre (fun _ k => XS.iconst XX4.here hx rfl (hb hby at_43) k) ?_
    show Go p e below _ (T4.setTop (mkF m 44 #[iv p0, iv p1, iv p2, iv p3, iv p4, iv (p0 &&& (3 : Int32)), iv (Int32.ofNat cu), iv (own_sb cu), iv (p1 &&& (2147483647 : Int32)), .unset, .unset, .unset] [(.int (2 : Int32)), (.ref b), (.ref b)]))
    refine Go.pre (fun _ k => XS.bipush XX4.here hx rfl (hb hby at_44) k) ?_
    show Go p e below _ (T4.setTop (mkF m 46 #[iv p0, iv p1, iv p2, iv p3, iv p4, iv (p0 &&& (3 : Int32)), iv (Int32.ofNat cu), iv (own_sb cu), iv (p1 &&& (2147483647 : Int32)), .unset, .unset, .unset] [(.int (58 : Int32)), (.int (2 : Int32)), (.ref b), (.ref b)]))
    obtain ⟨T5, h5, X5, e5, W5, V5, st5⟩ := own_putB XX4 hx hZ e4 V4 (j := (2 : Int32)) (by decide) 2 rfl (Nat.le_of_ble_eq_true rfl) (g := (mkF m 46 #[iv p0, iv p1, iv p2, iv p3, iv p4, iv (p0 &&& (3 : Int32)), iv (Int32.ofNat cu), iv (own_sb cu), iv (p1 &&& (2147483647 : Int32)), .unset, .unset, .unset] [(.int (58 : Int32)), (.int (2 : Int32)), (.ref b), (.ref b)])) rfl rfl (hb hby at_46)
    have V5 : Arv Z h5 b k2 .byte 15 [.int (nar .byte (p3.toInt8.toInt32)), own_vl 104, own_vl 58, .int 0, .int 0, .int 0, .int 0, .int 0, .int 0, .int 0, .int 0, .int 0, .int 0, .int 0, .int 0] (.int 0) := V5
    have K5 : Keep h0 h5 [] := K4.wr W5 (Or.inr sz_b)
    have N5 := Fr.snoc X5 NN4 g_b
    refine Go.pre st5 ?_
    obtain ⟨LL5, XX5, NN5⟩ := own_abs X5 N5
    show Go p e below _ (T5.setTop (mkF m 47 #[iv p0, iv p1, iv p2, iv p3, iv p4, iv (p0 &&& (3 : Int32)), iv (Int32.ofNat cu), iv (own_sb cu), iv (p1 &&& (2147483647 : Int32)), .unset, .unset, .unset] [(.ref b)]))
    refine Go.pre (fun _ k => XS.dup XX5.here hx rfl (hb hby at_47) rfl rfl k) ?_
    show Go p e below _ (T5.setTop (mkF m 48 #[iv p0, iv p1, iv p2, iv p3, iv p4, iv (p0 &&& (3 : Int32)), iv (Int32.ofNat cu), iv (own_sb cu), iv (p1 &&& (2147483647 : Int32)), .unset, .unset, .unset] [(.ref b), (.ref b)]))
    refine Go.pre (fun _ k => XS.iconst XX5.here hx rfl (hb hby at_48) k) ?_
    show Go p e below _ (T5.setTop (mkF m 49 #[iv p0, iv p1, iv p2, iv p3, iv p4, iv (p0 &&& (3 : Int32)), iv (Int32.ofNat cu), iv (own_sb cu), iv (p1 &&& (2147483647 : Int32)), .unset, .unset, .unset] [(.int (3 : Int32)), (.ref b), (.ref b)]))
    refine Go.pre (fun _ k => XS.bipush XX5.here hx rfl (hb hby at_49) k) ?_
    show Go p e below _ (T5.setTop (mkF m 51 #[iv p0, iv p1, iv p2, iv p3, iv p4, iv (p0 &&& (3 : Int32)), iv (Int32.ofNat cu), iv (own_sb cu), iv (p1 &&& (2147483647 : Int32)), .unset, .unset, .unset] [(.int (47 : Int32)), (.int (3 : Int32)), (.ref b), (.ref b)]))
    obtain ⟨T6, h6, X6, e6, W6, V6, st6⟩ := own_putB XX5 hx hZ e5 V5 (j := (3 : Int32)) (by decide) 3 rfl (Nat.le_of_ble_eq_true rfl) (g := (mkF m 51 #[iv p0, iv p1, iv p2, iv p3, iv p4, iv (p0 &&& (3 : Int32)), iv (Int32.ofNat cu), iv (own_sb cu), iv (p1 &&& (2147483647 : Int32)), .unset, .unset, .unset] [(.int (47 : Int32)), (.int (3 : Int32)), (.ref b), (.ref b)])) rfl rfl (hb hby at_51)
    have V6 : Arv Z h6 b k2 .byte 15 [.int (nar .byte (p3.toInt8.toInt32)), own_vl 104, own_vl 58, own_vl 47, .int 0, .int 0, .int 0, .int 0, .int 0, .int 0, .int 0, .int 0, .int 0, .int 0, .int 0] (.int 0) := V6
    have K6 : Keep h0 h6 [] := K5.wr W6 (Or.inr sz_b)
    have N6 := Fr.snoc X6 NN5 g_b
    refine Go.pre st6 ?_
    obtain ⟨LL6, XX6, NN6⟩ := own_abs X6 N6
    show Go p e below _ (T6.setTop (mkF m 52 #[iv p0, iv p1, iv p2, iv p3, iv p4, iv (p0 &&& (3 : Int32)), iv (Int32.ofNat cu), iv (own_sb cu), iv (p1 &&& (2147483647 : Int32)), .unset, .unset, .unset] [(.ref b)]))
    refine Go.pre (fun _ k => XS.dup XX6.here hx rfl (hb hby at_52) rfl rfl k) ?_
    show Go p e below _ (T6.setTop (mkF m 53 #[iv p0, iv p1, iv p2, iv p3, iv p4, iv (p0 &&& (3 : Int32)), iv (Int32.ofNat cu), iv (own_sb cu), iv (p1 &&& (2147483647 : Int32)), .unset, .unset, .unset] [(.ref b), (.ref b)]))
    refine Go.pre (fun _ k => XS.iconst XX6.here hx rfl (hb hby at_53) k) ?_
    show Go p e below _ (T6.setTop (mkF m 54 #[iv p0, iv p1, iv p2, iv p3, iv p4, iv (p0 &&& (3 : Int32)), iv (Int32.ofNat cu), iv (own_sb cu), iv (p1 &&& (2147483647 : Int32)), .unset, .unset, .unset] [(.int (4 : Int32)), (.ref b), (.ref b)]))
    refine Go.pre (fun _ k => XS.bipush XX6.here hx rfl (hb hby at_54) k) ?_
    show Go p e below _ (T6.setTop (mkF m 56 #[iv p0, iv p1, iv p2, iv p3, iv p4, iv (p0 &&& (3 : Int32)), iv (Int32.ofNat cu), iv (own_sb cu), iv (p1 &&& (2147483647 : Int32)), .unset, .unset, .unset] [(.int (47 : Int32)), (.int (4 : Int32)), (.ref b), (.ref b)]))
    obtain ⟨T7, h7, X7, e7, W7, V7, st7⟩ := own_putB XX6 hx hZ e6 V6 (j := (4 : Int32)) (by decide) 4 rfl (Nat.le_of_ble_eq_true rfl) (g := (mkF m 56 #[iv p0, iv p1, iv p2, iv p3, iv p4, iv (p0 &&& (3 : Int32)), iv (Int32.ofNat cu), iv (own_sb cu), iv (p1 &&& (2147483647 : Int32)), .unset, .unset, .unset] [(.int (47 : Int32)), (.int (4 : Int32)), (.ref b), (.ref b)])) rfl rfl (hb hby at_56)
    have V7 : Arv Z h7 b k2 .byte 15 [.int (nar .byte (p3.toInt8.toInt32)), own_vl 104, own_vl 58, own_vl 47, own_vl 47, .int 0, .int 0, .int 0, .int 0, .int 0, .int 0, .int 0, .int 0, .int 0, .int 0] (.int 0) := V7
    have K7 : Keep h0 h7 [] := K6.wr W7 (Or.inr sz_b)
    have N7 := Fr.snoc X7 NN6 g_b
    refine Go.pre st7 ?_
    obtain ⟨LL7, XX7, NN7⟩ := own_abs X7 N7
    show Go p e below _ (T7.setTop (mkF m 57 #[iv p0, iv p1, iv p2, iv p3, iv p4, iv (p0 &&& (3 : Int32)), iv (Int32.ofNat cu), iv (own_sb cu), iv (p1 &&& (2147483647 : Int32)), .unset, .unset, .unset] [(.ref b)]))
    refine Go.pre (fun _ k => XS.dup XX7.here hx rfl (hb hby at_57) rfl rfl k) ?_
    show Go p e below _ (T7.setTop (mkF m 58 #[iv p0, iv p1, iv p2, iv p3, iv p4, iv (p0 &&& (3 : Int32)), iv (Int32.ofNat cu), iv (own_sb cu), iv (p1 &&& (2147483647 : Int32)), .unset, .unset, .unset] [(.ref b), (.ref b)]))
    refine Go.pre (fun _ k => XS.iconst XX7.here hx rfl (hb hby at_58) k) ?_
    show Go p e below _ (T7.setTop (mkF m 59 #[iv p0, iv p1, iv p2, iv p3, iv p4, iv (p0 &&& (3 : Int32)), iv (Int32.ofNat cu), iv (own_sb cu), iv (p1 &&& (2147483647 : Int32)), .unset, .unset, .unset] [(.int (5 : Int32)), (.ref b), (.ref b)]))
    refine Go.pre (fun _ k => XS.bipush XX7.here hx rfl (hb hby at_59) k) ?_
    show Go p e below _ (T7.setTop (mkF m 61 #[iv p0, iv p1, iv p2, iv p3, iv p4, iv (p0 &&& (3 : Int32)), iv (Int32.ofNat cu), iv (own_sb cu), iv (p1 &&& (2147483647 : Int32)), .unset, .unset, .unset] [(.int (120 : Int32)), (.int (5 : Int32)), (.ref b), (.ref b)]))
    obtain ⟨T8, h8, X8, e8, W8, V8, st8⟩ := own_putB XX7 hx hZ e7 V7 (j := (5 : Int32)) (by decide) 5 rfl (Nat.le_of_ble_eq_true rfl) (g := (mkF m 61 #[iv p0, iv p1, iv p2, iv p3, iv p4, iv (p0 &&& (3 : Int32)), iv (Int32.ofNat cu), iv (own_sb cu), iv (p1 &&& (2147483647 : Int32)), .unset, .unset, .unset] [(.int (120 : Int32)), (.int (5 : Int32)), (.ref b), (.ref b)])) rfl rfl (hb hby at_61)
    have V8 : Arv Z h8 b k2 .byte 15 [.int (nar .byte (p3.toInt8.toInt32)), own_vl 104, own_vl 58, own_vl 47, own_vl 47, own_vl 120, .int 0, .int 0, .int 0, .int 0, .int 0, .int 0, .int 0, .int 0, .int 0] (.int 0) := V8
    have K8 : Keep h0 h8 [] := K7.wr W8 (Or.inr sz_b)
    have N8 := Fr.snoc X8 NN7 g_b
    refine Go.pre st8 ?_
    obtain ⟨LL8, XX8, NN8⟩ := own_abs X8 N8
    show Go p e below _ (T8.setTop (mkF m 62 #[iv p0, iv p1, iv p2, iv p3, iv p4, iv (p0 &&& (3 : Int32)), iv (Int32.ofNat cu), iv (own_sb cu), iv (p1 &&& (2147483647 : Int32)), .unset, .unset, .unset] [(.ref b)]))
    refine Go.pre (fun _ k => XS.dup XX8.here hx rfl (hb hby at_62) rfl rfl k) ?_
    show Go p e below _ (T8.setTop (mkF m 63 #[iv p0, iv p1, iv p2, iv p3, iv p4, iv (p0 &&& (3 : Int32)), iv (Int32.ofNat cu), iv (own_sb cu), iv (p1 &&& (2147483647 : Int32)), .unset, .unset, .unset] [(.ref b), (.ref b)]))
    refine Go.pre (fun _ k => XS.bipush XX8.here hx rfl (hb hby at_63) k) ?_
    show Go p e below _ (T8.setTop (mkF m 65 #[iv p0, iv p1, iv p2, iv p3, iv p4, iv (p0 &&& (3 : Int32)), iv (Int32.ofNat cu), iv (own_sb cu), iv (p1 &&& (2147483647 : Int32)), .unset, .unset, .unset] [(.int (6 : Int32)), (.ref b), (.ref b)]))
    refine Go.pre (fun _ k => XS.bipush XX8.here hx rfl (hb hby at_65) k) ?_
    show Go p e below _ (T8.setTop (mkF m 67 #[iv p0, iv p1, iv p2, iv p3, iv p4, iv (p0 &&& (3 : Int32)), iv (Int32.ofNat cu), iv (own_sb cu), iv (p1 &&& (2147483647 : Int32)), .unset, .unset, .unset] [(.int (58 : Int32)), (.int (6 : Int32)), (.ref b), (.ref b)]))
    obtain ⟨T9, h9, X9, e9, W9, V9, st9⟩ := own_putB XX8 hx hZ e8 V8 (j := (6 : Int32)) (by decide) 6 rfl (Nat.le_of_ble_eq_true rfl) (g := (mkF m 67 #[iv p0, iv p1, iv p2, iv p3, iv p4, iv (p0 &&& (3 : Int32)), iv (Int32.ofNat cu), iv (own_sb cu), iv (p1 &&& (2147483647 : Int32)), .unset, .unset, .unset] [(.int (58 : Int32)), (.int (6 : Int32)), (.ref b), (.ref b)])) rfl rfl (hb hby at_67)
    have V9 : Arv Z h9 b k2 .byte 15 [.int (nar .byte (p3.toInt8.toInt32)), own_vl 104, own_vl 58, own_vl 47, own_vl 47, own_vl 120, own_vl 58, .int 0, .int 0, .int 0, .int 0, .int 0, .int 0, .int 0, .int 0] (.int 0) := V9
    have K9 : Keep h0 h9 [] := K8.wr W9 (Or.inr sz_b)
    have N9 := Fr.snoc X9 NN8 g_b
    refine Go.pre st9 ?_
    obtain ⟨LL9, XX9, NN9⟩ := own_abs X9 N9
    show Go p e below _ (T9.setTop (mkF m 68 #[iv p0, iv p1, iv p2, iv p3, iv p4, iv (p0 &&& (3 : Int32)), iv (Int32.ofNat cu), iv (own_sb cu), iv (p1 &&& (2147483647 : Int32)), .unset, .unset, .unset] [(.ref b)]))
    refine Go.pre (fun _ k => XS.dup XX9.here hx rfl (hb hby at_68) rfl rfl k) ?_
    show Go p e below _ (T9.setTop (mkF m 69 #[iv p0, iv p1, iv p2, iv p3, iv p4, iv (p0 &&& (3 : Int32)), iv (Int32.ofNat cu), iv (own_sb cu), iv (p1 &&& (2147483647 : Int32)), .unset, .unset, .unset] [(.ref b), (.ref b)]))
    refine Go.pre (fun _ k => XS.bipush XX9.here hx rfl (hb hby at_69) k) ?_
    show Go p e below _ (T9.setTop (mkF m 71 #[iv p0, iv p1, iv p2, iv p3, iv p4, iv (p0 &&& (3 : Int32)), iv (Int32.ofNat cu), iv (own_sb cu), iv (p1 &&& (2147483647 : Int32)), .unset, .unset, .unset] [(.int (7 : Int32)), (.ref b), (.ref b)]))
    refine Go.pre (fun _ k => XS.bipush XX9.here hx rfl (hb hby at_71) k) ?_
    show Go p e below _ (T9.setTop (mkF m 73 #[iv p0, iv p1, iv p2, iv p3, iv p4, iv (p0 &&& (3 : Int32)), iv (Int32.ofNat cu), iv (own_sb cu), iv (p1 &&& (2147483647 : Int32)), .unset, .unset, .unset] [(.int (49 : Int32)), (.int (7 : Int32)), (.ref b), (.ref b)]))
    obtain ⟨T10, h10, X10, e10, W10, V10, st10⟩ := own_putB XX9 hx hZ e9 V9 (j := (7 : Int32)) (by decide) 7 rfl (Nat.le_of_ble_eq_true rfl) (g := (mkF m 73 #[iv p0, iv p1, iv p2, iv p3, iv p4, iv (p0 &&& (3 : Int32)), iv (Int32.ofNat cu), iv (own_sb cu), iv (p1 &&& (2147483647 : Int32)), .unset, .unset, .unset] [(.int (49 : Int32)), (.int (7 : Int32)), (.ref b), (.ref b)])) rfl rfl (hb hby at_73)
    have V10 : Arv Z h10 b k2 .byte 15 [.int (nar .byte (p3.toInt8.toInt32)), own_vl 104, own_vl 58, own_vl 47, own_vl 47, own_vl 120, own_vl 58, own_vl 49, .int 0, .int 0, .int 0, .int 0, .int 0, .int 0, .int 0] (.int 0) := V10
    have K10 : Keep h0 h10 [] := K9.wr W10 (Or.inr sz_b)
    have N10 := Fr.snoc X10 NN9 g_b
    refine Go.pre st10 ?_
    obtain ⟨LL10, XX10, NN10⟩ := own_abs X10 N10
    show Go p e below _ (T10.setTop (mkF m 74 #[iv p0, iv p1, iv p2, iv p3, iv p4, iv (p0 &&& (3 : Int32)), iv (Int32.ofNat cu), iv (own_sb cu), iv (p1 &&& (2147483647 : Int32)), .unset, .unset, .unset] [(.ref b)]))
    refine Go.pre (fun _ k => XS.dup XX10.here hx rfl (hb hby at_74) rfl rfl k) ?_
    show Go p e below _ (T10.setTop (mkF m 75 #[iv p0, iv p1, iv p2, iv p3, iv p4, iv (p0 &&& (3 : Int32)), iv (Int32.ofNat cu), iv (own_sb cu), iv (p1 &&& (2147483647 : Int32)), .unset, .unset, .unset] [(.ref b), (.ref b)]))
    refine Go.pre (fun _ k => XS.bipush XX10.here hx rfl (hb hby at_75) k) ?_
    show Go p e below _ (T10.setTop (mkF m 77 #[iv p0, iv p1, iv p2, iv p3, iv p4, iv (p0 &&& (3 : Int32)), iv (Int32.ofNat cu), iv (own_sb cu), iv (p1 &&& (2147483647 : Int32)), .unset, .unset, .unset] [(.int (8 : Int32)), (.ref b), (.ref b)]))
    refine Go.pre (fun _ k => XS.bipush XX10.here hx rfl (hb hby at_77) k) ?_
    show Go p e below _ (T10.setTop (mkF m 79 #[iv p0, iv p1, iv p2, iv p3, iv p4, iv (p0 &&& (3 : Int32)), iv (Int32.ofNat cu), iv (own_sb cu), iv (p1 &&& (2147483647 : Int32)), .unset, .unset, .unset] [(.int (47 : Int32)), (.int (8 : Int32)), (.ref b), (.ref b)]))
    obtain ⟨T11, h11, X11, e11, W11, V11, st11⟩ := own_putB XX10 hx hZ e10 V10 (j := (8 : Int32)) (by decide) 8 rfl (Nat.le_of_ble_eq_true rfl) (g := (mkF m 79 #[iv p0, iv p1, iv p2, iv p3, iv p4, iv (p0 &&& (3 : Int32)), iv (Int32.ofNat cu), iv (own_sb cu), iv (p1 &&& (2147483647 : Int32)), .unset, .unset, .unset] [(.int (47 : Int32)), (.int (8 : Int32)), (.ref b), (.ref b)])) rfl rfl (hb hby at_79)
    have V11 : Arv Z h11 b k2 .byte 15 [.int (nar .byte (p3.toInt8.toInt32)), own_vl 104, own_vl 58, own_vl 47, own_vl 47, own_vl 120, own_vl 58, own_vl 49, own_vl 47, .int 0, .int 0, .int 0, .int 0, .int 0, .int 0] (.int 0) := V11
    have K11 : Keep h0 h11 [] := K10.wr W11 (Or.inr sz_b)
    have N11 := Fr.snoc X11 NN10 g_b
    refine Go.pre st11 ?_
    obtain ⟨LL11, XX11, NN11⟩ := own_abs X11 N11
    show Go p e below _ (T11.setTop (mkF m 80 #[iv p0, iv p1, iv p2, iv p3, iv p4, iv (p0 &&& (3 : Int32)), iv (Int32.ofNat cu), iv (own_sb cu), iv (p1 &&& (2147483647 : Int32)), .unset, .unset, .unset] [(.ref b)]))
    refine Go.pre (fun _ k => XS.dup XX11.here hx rfl (hb hby at_80) rfl rfl k) ?_
    show Go p e below _ (T11.setTop (mkF m 81 #[iv p0, iv p1, iv p2, iv p3, iv p4, iv (p0 &&& (3 : Int32)), iv (Int32.ofNat cu), iv (own_sb cu), iv (p1 &&& (2147483647 : Int32)), .unset, .unset, .unset] [(.ref b), (.ref b)]))
    refine Go.pre (fun _ k => XS.bipush XX11.here hx rfl (hb hby at_81) k) ?_
    show Go p e below _ (T11.setTop (mkF m 83 #[iv p0, iv p1, iv p2, iv p3, iv p4, iv (p0 &&& (3 : Int32)), iv (Int32.ofNat cu), iv (own_sb cu), iv (p1 &&& (2147483647 : Int32)), .unset, .unset, .unset] [(.int (9 : Int32)), (.ref b), (.ref b)]))
    refine Go.pre (fun _ k => XS.bipush XX11.here hx rfl (hb hby at_83) k) ?_
    show Go p e below _ (T11.setTop (mkF m 85 #[iv p0, iv p1, iv p2, iv p3, iv p4, iv (p0 &&& (3 : Int32)), iv (Int32.ofNat cu), iv (own_sb cu), iv (p1 &&& (2147483647 : Int32)), .unset, .unset, .unset] [(.int (112 : Int32)), (.int (9 : Int32)), (.ref b), (.ref b)]))
    obtain ⟨T12, h12, X12, e12, W12, V12, st12⟩ := own_putB XX11 hx hZ e11 V11 (j := (9 : Int32)) (by decide) 9 rfl (Nat.le_of_ble_eq_true rfl) (g := (mkF m 85 #[iv p0, iv p1, iv p2, iv p3, iv p4, iv (p0 &&& (3 : Int32)), iv (Int32.ofNat cu), iv (own_sb cu), iv (p1 &&& (2147483647 : Int32)), .unset, .unset, .unset] [(.int (112 : Int32)), (.int (9 : Int32)), (.ref b), (.ref b)])) rfl rfl (hb hby at_85)
    have V12 : Arv Z h12 b k2 .byte 15 [.int (nar .byte (p3.toInt8.toInt32)), own_vl 104, own_vl 58, own_vl 47, own_vl 47, own_vl 120, own_vl 58, own_vl 49, own_vl 47, own_vl 112, .int 0, .int 0, .int 0, .int 0, .int 0] (.int 0) := V12
    have K12 : Keep h0 h12 [] := K11.wr W12 (Or.inr sz_b)
    have N12 := Fr.snoc X12 NN11 g_b
    refine Go.pre st12 ?_
    obtain ⟨LL12, XX12, NN12⟩ := own_abs X12 N12
    show Go p e below _ (T12.setTop (mkF m 86 #[iv p0, iv p1, iv p2, iv p3, iv p4, iv (p0 &&& (3 : Int32)), iv (Int32.ofNat cu), iv (own_sb cu), iv (p1 &&& (2147483647 : Int32)), .unset, .unset, .unset] [(.ref b)]))
    refine Go.pre (fun _ k => XS.dup XX12.here hx rfl (hb hby at_86) rfl rfl k) ?_
    show Go p e below _ (T12.setTop (mkF m 87 #[iv p0, iv p1, iv p2, iv p3, iv p4, iv (p0 &&& (3 : Int32)), iv (Int32.ofNat cu), iv (own_sb cu), iv (p1 &&& (2147483647 : Int32)), .unset, .unset, .unset] [(.ref b), (.ref b)]))
    refine Go.pre (fun _ k => XS.bipush XX12.here hx rfl (hb hby at_87) k) ?_
    show Go p e below _ (T12.setTop (mkF m 89 #[iv p0, iv p1, iv p2, iv p3, iv p4, iv (p0 &&& (3 : Int32)), iv (Int32.ofNat cu), iv (own_sb cu), iv (p1 &&& (2147483647 : Int32)), .unset, .unset, .unset] [(.int (10 : Int32)), (.ref b), (.ref b)]))
    refine Go.pre (fun _ k => XS.bipush XX12.here hx rfl (hb hby at_89) k) ?_
    show Go p e below _ (T12.setTop (mkF m 91 #[iv p0, iv p1, iv p2, iv p3, iv p4, iv (p0 &&& (3 : Int32)), iv (Int32.ofNat cu), iv (own_sb cu), iv (p1 &&& (2147483647 : Int32)), .unset, .unset, .unset] [(.int (63 : Int32)), (.int (10 : Int32)), (.ref b), (.ref b)]))
    obtain ⟨T13, h13, X13, e13, W13, V13, st13⟩ := own_putB XX12 hx hZ e12 V12 (j := (10 : Int32)) (by decide) 10 rfl (Nat.le_of_ble_eq_true rfl) (g := (mkF m 91 #[iv p0, iv p1, iv p2, iv p3, iv p4, iv (p0 &&& (3 : Int32)), iv (Int32.ofNat cu), iv (own_sb cu), iv (p1 &&& (2147483647 : Int32)), .unset, .unset, .unset] [(.int (63 : Int32)), (.int (10 : Int32)), (.ref b), (.ref b)])) rfl rfl (hb hby at_91)
    have V13 : Arv Z h13 b k2 .byte 15 [.int (nar .byte (p3.toInt8.toInt32)), own_vl 104, own_vl 58, own_vl 47, own_vl 47, own_vl 120, own_vl 58, own_vl 49, own_vl 47, own_vl 112, own_vl 63, .int 0, .int 0, .int 0, .int 0] (.int 0) := V13
    have K13 : Keep h0 h13 [] := K12.wr W13 (Or.inr sz_b)
    have N13 := Fr.snoc X13 NN12 g_b
    refine Go.pre st13 ?_
    obtain ⟨LL13, XX13, NN13⟩ := own_abs X13 N13
    show Go p e below _ (T13.setTop (mkF m 92 #[iv p0, iv p1, iv p2, iv p3, iv p4, iv (p0 &&& (3 : Int32)), iv (Int32.ofNat cu), iv (own_sb cu), iv (p1 &&& (2147483647 : Int32)), .unset, .unset, .unset] [(.ref b)]))
    refine Go.pre (fun _ k => XS.dup XX13.here hx rfl (hb hby at_92) rfl rfl k) ?_
    show Go p e below _ (T13.setTop (mkF m 93 #[iv p0, iv p1, iv p2, iv p3, iv p4, iv (p0 &&& (3 : Int32)), iv (Int32.ofNat cu), iv (own_sb cu), iv (p1 &&& (2147483647 : Int32)), .unset, .unset, .unset] [(.ref b), (.ref b)]))
    refine Go.pre (fun _ k => XS.bipush XX13.here hx rfl (hb hby at_93) k) ?_
    show Go p e below _ (T13.setTop (mkF m 95 #[iv p0, iv p1, iv p2, iv p3, iv p4, iv (p0 &&& (3 : Int32)), iv (Int32.ofNat cu), iv (own_sb cu), iv (p1 &&& (2147483647 : Int32)), .unset, .unset, .unset] [(.int (11 : Int32)), (.ref b), (.ref b)]))
    refine Go.pre (fun _ k => XS.bipush XX13.here hx rfl (hb hby at_95) k) ?_
    show Go p e below _ (T13.setTop (mkF m 97 #[iv p0, iv p1, iv p2, iv p3, iv p4, iv (p0 &&& (3 : Int32)), iv (Int32.ofNat cu), iv (own_sb cu), iv (p1 &&& (2147483647 : Int32)), .unset, .unset, .unset] [(.int (113 : Int32)), (.int (11 : Int32)), (.ref b), (.ref b)]))
    obtain ⟨T14, h14, X14, e14, W14, V14, st14⟩ := own_putB XX13 hx hZ e13 V13 (j := (11 : Int32)) (by decide) 11 rfl (Nat.le_of_ble_eq_true rfl) (g := (mkF m 97 #[iv p0, iv p1, iv p2, iv p3, iv p4, iv (p0 &&& (3 : Int32)), iv (Int32.ofNat cu), iv (own_sb cu), iv (p1 &&& (2147483647 : Int32)), .unset, .unset, .unset] [(.int (113 : Int32)), (.int (11 : Int32)), (.ref b), (.ref b)])) rfl rfl (hb hby at_97)
    have V14 : Arv Z h14 b k2 .byte 15 [.int (nar .byte (p3.toInt8.toInt32)), own_vl 104, own_vl 58, own_vl 47, own_vl 47, own_vl 120, own_vl 58, own_vl 49, own_vl 47, own_vl 112, own_vl 63, own_vl 113, .int 0, .int 0, .int 0] (.int 0) := V14
    have K14 : Keep h0 h14 [] := K13.wr W14 (Or.inr sz_b)
    have N14 := Fr.snoc X14 NN13 g_b
    refine Go.pre st14 ?_
    obtain ⟨LL14, XX14, NN14⟩ := own_abs X14 N14
    show Go p e below _ (T14.setTop (mkF m 98 #[iv p0, iv p1, iv p2, iv p3, iv p4, iv (p0 &&& (3 : Int32)), iv (Int32.ofNat cu), iv (own_sb cu), iv (p1 &&& (2147483647 : Int32)), .unset, .unset, .unset] [(.ref b)]))
    refine Go.pre (fun _ k => XS.dup XX14.here hx rfl (hb hby at_98) rfl rfl k) ?_
    show Go p e below _ (T14.setTop (mkF m 99 #[iv p0, iv p1, iv p2, iv p3, iv p4, iv (p0 &&& (3 : Int32)), iv (Int32.ofNat cu), iv (own_sb cu), iv (p1 &&& (2147483647 : Int32)), .unset, .unset, .unset] [(.ref b), (.ref b)]))
    refine Go.pre (fun _ k => XS.bipush XX14.here hx rfl (hb hby at_99) k) ?_
    show Go p e below _ (T14.setTop (mkF m 101 #[iv p0, iv p1, iv p2, iv p3, iv p4, iv (p0 &&& (3 : Int32)), iv (Int32.ofNat cu), iv (own_sb cu), iv (p1 &&& (2147483647 : Int32)), .unset, .unset, .unset] [(.int (12 : Int32)), (.ref b), (.ref b)]))
    refine Go.pre (fun _ k => XS.bipush XX14.here hx rfl (hb hby at_101) k) ?_
    show Go p e below _ (T14.setTop (mkF m 103 #[iv p0, iv p1, iv p2, iv p3, iv p4, iv (p0 &&& (3 : Int32)), iv (Int32.ofNat cu), iv (own_sb cu), iv (p1 &&& (2147483647 : Int32)), .unset, .unset, .unset] [(.int (35 : Int32)), (.int (12 : Int32)), (.ref b), (.ref b)]))
    obtain ⟨T15, h15, X15, e15, W15, V15, st15⟩ := own_putB XX14 hx hZ e14 V14 (j := (12 : Int32)) (by decide) 12 rfl (Nat.le_of_ble_eq_true rfl) (g := (mkF m 103 #[iv p0, iv p1, iv p2, iv p3, iv p4, iv (p0 &&& (3 : Int32)), iv (Int32.ofNat cu), iv (own_sb cu), iv (p1 &&& (2147483647 : Int32)), .unset, .unset, .unset] [(.int (35 : Int32)), (.int (12 : Int32)), (.ref b), (.ref b)])) rfl rfl (hb hby at_103)
    have V15 : Arv Z h15 b k2 .byte 15 [.int (nar .byte (p3.toInt8.toInt32)), own_vl 104, own_vl 58, own_vl 47, own_vl 47, own_vl 120, own_vl 58, own_vl 49, own_vl 47, own_vl 112, own_vl 63, own_vl 113, own_vl 35, .int 0, .int 0] (.int 0) := V15
    have K15 : Keep h0 h15 [] := K14.wr W15 (Or.inr sz_b)
    have N15 := Fr.snoc X15 NN14 g_b
    refine Go.pre st15 ?_
    obtain ⟨LL15, XX15, NN15⟩ := own_abs X15 N15
    show Go p e below _ (T15.setTop (mkF m 104 #[iv p0, iv p1, iv p2, iv p3, iv p4, iv (p0 &&& (3 : Int32)), iv (Int32.ofNat cu), iv (own_sb cu), iv (p1 &&& (2147483647 : Int32)), .unset, .unset, .unset] [(.ref b)]))
    refine Go.pre (fun _ k => XS.dup XX15.here hx rfl (hb hby at_104) rfl rfl k) ?_
    show Go p e below _ (T15.setTop (mkF m 105 #[iv p0, iv p1, iv p2, iv p3, iv p4, iv (p0 &&& (3 : Int32)), iv (Int32.ofNat cu), iv (own_sb cu), iv (p1 &&& (2147483647 : Int32)), .unset, .unset, .unset] [(.ref b), (.ref b)]))
    refine Go.pre (fun _ k => XS.bipush XX15.here hx rfl (hb hby at_105) k) ?_
    show Go p e below _ (T15.setTop (mkF m 107 #[iv p0, iv p1, iv p2, iv p3, iv p4, iv (p0 &&& (3 : Int32)), iv (Int32.ofNat cu), iv (own_sb cu), iv (p1 &&& (2147483647 : Int32)), .unset, .unset, .unset] [(.int (13 : Int32)), (.ref b), (.ref b)]))
    refine Go.pre (fun _ k => XS.bipush XX15.here hx rfl (hb hby at_107) k) ?_
    show Go p e below _ (T15.setTop (mkF m 109 #[iv p0, iv p1, iv p2, iv p3, iv p4, iv (p0 &&& (3 : Int32)), iv (Int32.ofNat cu), iv (own_sb cu), iv (p1 &&& (2147483647 : Int32)), .unset, .unset, .unset] [(.int (102 : Int32)), (.int (13 : Int32)), (.ref b), (.ref b)]))
    obtain ⟨T16, h16, X16, e16, W16, V16, st16⟩ := own_putB XX15 hx hZ e15 V15 (j := (13 : Int32)) (by decide) 13 rfl (Nat.le_of_ble_eq_true rfl) (g := (mkF m 109 #[iv p0, iv p1, iv p2, iv p3, iv p4, iv (p0 &&& (3 : Int32)), iv (Int32.ofNat cu), iv (own_sb cu), iv (p1 &&& (2147483647 : Int32)), .unset, .unset, .unset] [(.int (102 : Int32)), (.int (13 : Int32)), (.ref b), (.ref b)])) rfl rfl (hb hby at_109)
    have V16 : Arv Z h16 b k2 .byte 15 [.int (nar .byte (p3.toInt8.toInt32)), own_vl 104, own_vl 58, own_vl 47, own_vl 47, own_vl 120, own_vl 58, own_vl 49, own_vl 47, own_vl 112, own_vl 63, own_vl 113, own_vl 35, own_vl 102, .int 0] (.int 0) := V16
    have K16 : Keep h0 h16 [] := K15.wr W16 (Or.inr sz_b)
    have N16 := Fr.snoc X16 NN15 g_b
    refine Go.pre st16 ?_
    obtain ⟨LL16, XX16, NN16⟩ := own_abs X16 N16
    show Go p e below _ (T16.setTop (mkF m 110 #[iv p0, iv p1, iv p2, iv p3, iv p4, iv (p0 &&& (3 : Int32)), iv (Int32.ofNat cu), iv (own_sb cu), iv (p1 &&& (2147483647 : Int32)), .unset, .unset, .unset] [(.ref b)]))
    refine Go.pre (fun _ k => XS.dup XX16.here hx rfl (hb hby at_110) rfl rfl k) ?_
    show Go p e below _ (T16.setTop (mkF m 111 #[iv p0, iv p1, iv p2, iv p3, iv p4, iv (p0 &&& (3 : Int32)), iv (Int32.ofNat cu), iv (own_sb cu), iv (p1 &&& (2147483647 : Int32)), .unset, .unset, .unset] [(.ref b), (.ref b)]))
    refine Go.pre (fun _ k => XS.bipush XX16.here hx rfl (hb hby at_111) k) ?_
    show Go p e below _ (T16.setTop (mkF m 113 #[iv p0, iv p1, iv p2, iv p3, iv p4, iv (p0 &&& (3 : Int32)), iv (Int32.ofNat cu), iv (own_sb cu), iv (p1 &&& (2147483647 : Int32)), .unset, .unset, .unset] [(.int (14 : Int32)), (.ref b), (.ref b)]))
    refine Go.pre (fun _ k => XS.iload XX16.here hx rfl (hb hby at_113) rfl k) ?_
    show Go p e below _ (T16.setTop (mkF m 115 #[iv p0, iv p1, iv p2, iv p3, iv p4, iv (p0 &&& (3 : Int32)), iv (Int32.ofNat cu), iv (own_sb cu), iv (p1 &&& (2147483647 : Int32)), .unset, .unset, .unset] [(.int p4), (.int (14 : Int32)), (.ref b), (.ref b)]))
    refine Go.pre (fun _ k => XS.i2b XX16.here hx rfl (hb hby at_115) rfl k) ?_
    show Go p e below _ (T16.setTop (mkF m 116 #[iv p0, iv p1, iv p2, iv p3, iv p4, iv (p0 &&& (3 : Int32)), iv (Int32.ofNat cu), iv (own_sb cu), iv (p1 &&& (2147483647 : Int32)), .unset, .unset, .unset] [(.int (p4.toInt8.toInt32)), (.int (14 : Int32)), (.ref b), (.ref b)]))
    obtain ⟨T17, h17, X17, e17, W17, V17, st17⟩ := own_putB XX16 hx hZ e16 V16 (j := (14 : Int32)) (by decide) 14 rfl (Nat.le_of_ble_eq_true rfl) (g := (mkF m 116 #[iv p0, iv p1, iv p2, iv p3, iv p4, iv (p0 &&& (3 : Int32)), iv (Int32.ofNat cu), iv (own_sb cu), iv (p1 &&& (2147483647 : Int32)), .unset, .unset, .unset] [(.int (p4.toInt8.toInt32)), (.int (14 : Int32)), (.ref b), (.ref b)])) rfl rfl (hb hby at_116)
    have V17 : Arv Z h17 b k2 .byte 15 [.int (nar .byte (p3.toInt8.toInt32)), own_vl 104, own_vl 58, own_vl 47, own_vl 47, own_vl 120, own_vl 58, own_vl 49, own_vl 47, own_vl 112, own_vl 63, own_vl 113, own_vl 35, own_vl 102, .int (nar .byte (p4.toInt8.toInt32))] (.int 0) := V17
    have K17 : Keep h0 h17 [] := K16.wr W17 (Or.inr sz_b)
    have N17 := Fr.snoc X17 NN16 g_b
    refine Go.pre st17 ?_
    obtain ⟨LL17, XX17, NN17⟩ := own_abs X17 N17
    show Go p e below _ (T17.setTop (mkF m 117 #[iv p0, iv p1, iv p2, iv p3, iv p4, iv (p0 &&& (3 : Int32)), iv (Int32.ofNat cu), iv (own_sb cu), iv (p1 &&& (2147483647 : Int32)), .unset, .unset, .unset] [(.ref b)]))
    refine Go.pre (fun _ k => XS.astore XX17.here hx rfl (hb hby at_117) rfl rfl (l' := #[iv p0, iv p1, iv p2, iv p3, iv p4, iv (p0 &&& (3 : Int32)), iv (Int32.ofNat cu), iv (own_sb cu), iv (p1 &&& (2147483647 : Int32)), rv b, .unset, .unset]) rfl k) ?_
    show Go p e below _ (T17.setTop (mkF m 119 #[iv p0, iv p1, iv p2, iv p3, iv p4, iv (p0 &&& (3 : Int32)), iv (Int32.ofNat cu), iv (own_sb cu), iv (p1 &&& (2147483647 : Int32)), rv b, .unset, .unset] []))
    refine Go.pre (fun _ k => XS.iload XX17.here hx rfl (hb hby at_119) rfl k) ?_
    show Go p e below _ (T17.setTop (mkF m 121 #[iv p0, iv p1, iv p2, iv p3, iv p4, iv (p0 &&& (3 : Int32)), iv (Int32.ofNat cu), iv (own_sb cu), iv (p1 &&& (2147483647 : Int32)), rv b, .unset, .unset] [(.int (p1 &&& (2147483647 : Int32)))]))
    refine Go.pre (fun _ k => XS.bipush XX17.here hx rfl (hb hby at_121) k) ?_
    show Go p e below _ (T17.setTop (mkF m 123 #[iv p0, iv p1, iv p2, iv p3, iv p4, iv (p0 &&& (3 : Int32)), iv (Int32.ofNat cu), iv (own_sb cu), iv (p1 &&& (2147483647 : Int32)), rv b, .unset, .unset] [(.int (13 : Int32)), (.int (p1 &&& (2147483647 : Int32)))]))
    refine Go.pre (fun _ k => XS.irem XX17.here hx rfl (hb hby at_123) rfl (by decide) k) ?_
    show Go p e below _ (T17.setTop (mkF m 124 #[iv p0, iv p1, iv p2, iv p3, iv p4, iv (p0 &&& (3 : Int32)), iv (Int32.ofNat cu), iv (own_sb cu), iv (p1 &&& (2147483647 : Int32)), rv b, .unset, .unset] [(.int ((p1 &&& (2147483647 : Int32)) - (p1 &&& (2147483647 : Int32)) / (13 : Int32) * (13 : Int32)))]))
    obtain ⟨ku, hku, ek⟩ := own_rem13 p1
    rw [ek]
    show Go p e below _ (T17.setTop (mkF m 124 #[iv p0, iv p1, iv p2, iv p3, iv p4, iv (p0 &&& (3 : Int32)), iv (Int32.ofNat cu), iv (own_sb cu), iv (p1 &&& (2147483647 : Int32)), rv b, .unset, .unset] [(.int (Int32.ofNat ku))]))
    refine Go.pre (fun _ k => XS.istore XX17.here hx rfl (hb hby at_124) rfl (l' := #[iv p0, iv p1, iv p2, iv p3, iv p4, iv (p0 &&& (3 : Int32)), iv (Int32.ofNat cu), iv (own_sb cu), iv (p1 &&& (2147483647 : Int32)), rv b, iv (Int32.ofNat ku), .unset]) rfl k) ?_
    show Go p e below _ (T17.setTop (mkF m 126 #[iv p0, iv p1, iv p2, iv p3, iv p4, iv (p0 &&& (3 : Int32)), iv (Int32.ofNat cu), iv (own_sb cu), iv (p1 &&& (2147483647 : Int32)), rv b, iv (Int32.ofNat ku), .unset] []))
    refine Go.pre (fun _ k => XS.aload XX17.here hx rfl (hb hby at_126) rfl rfl k) ?_
    show Go p e below _ (T17.setTop (mkF m 128 #[iv p0, iv p1, iv p2, iv p3, iv p4, iv (p0 &&& (3 : Int32)), iv (Int32.ofNat cu), iv (own_sb cu), iv (p1 &&& (2147483647 : Int32)), rv b, iv (Int32.ofNat ku), .unset] [(.ref b)]))
    refine Go.pre (fun _ k => XS.iconst XX17.here hx rfl (hb hby at_128) k) ?_
    show Go p e below _ (T17.setTop (mkF m 129 #[iv p0, iv p1, iv p2, iv p3, iv p4, iv (p0 &&& (3 : Int32)), iv (Int32.ofNat cu), iv (own_sb cu), iv (p1 &&& (2147483647 : Int32)), rv b, iv (Int32.ofNat ku), .unset] [(.int (1 : Int32)), (.ref b)]))
    refine Go.pre (fun _ k => XS.iload XX17.here hx rfl (hb hby at_129) rfl k) ?_
    show Go p e below _ (T17.setTop (mkF m 131 #[iv p0, iv p1, iv p2, iv p3, iv p4, iv (p0 &&& (3 : Int32)), iv (Int32.ofNat cu), iv (own_sb cu), iv (p1 &&& (2147483647 : Int32)), rv b, iv (Int32.ofNat ku), .unset] [(.int (Int32.ofNat ku)), (.int (1 : Int32)), (.ref b)]))
    refine Go.pre (fun _ k => XS.iadd XX17.here hx rfl (hb hby at_131) rfl k) ?_
    show Go p e below _ (T17.setTop (mkF m 132 #[iv p0, iv p1, iv p2, iv p3, iv p4, iv (p0 &&& (3 : Int32)), iv (Int32.ofNat cu), iv (own_sb cu), iv (p1 &&& (2147483647 : Int32)), rv b, iv (Int32.ofNat ku), .unset] [(.int ((Int32.ofNat 1) + (Int32.ofNat ku))), (.ref b)]))
    rw [own_oadd]
    show Go p e below _ (T17.setTop (mkF m 132 #[iv p0, iv p1, iv p2, iv p3, iv p4, iv (p0 &&& (3 : Int32)), iv (Int32.ofNat cu), iv (own_sb cu), iv (p1 &&& (2147483647 : Int32)), rv b, iv (Int32.ofNat ku), .unset] [(.int (Int32.ofNat (1 + ku))), (.ref b)]))
    refine Go.pre (fun _ k => XS.iload XX17.here hx rfl (hb hby at_132) rfl k) ?_
    show Go p e below _ (T17.setTop (mkF m 134 #[iv p0, iv p1, iv p2, iv p3, iv p4, iv (p0 &&& (3 : Int32)), iv (Int32.ofNat cu), iv (own_sb cu), iv (p1 &&& (2147483647 : Int32)), rv b, iv (Int32.ofNat ku), .unset] [(.int (own_sb cu)), (.int (Int32.ofNat (1 + ku))), (.ref b)]))
    have V18t : Arv Z h17 b k2 .byte 15 ((.int (nar .byte (p3.toInt8.toInt32))) :: (own_tA.map own_vl ++ [.int (nar .byte (p4.toInt8.toInt32))])) (.int 0) := by simp only [own_tA, List.map_cons, List.map_nil, List.cons_append, List.nil_append]; exact V17
    obtain ⟨T18, h18, X18, e18, W18, V18, st18⟩ := own_putB XX17 hx hZ e17 V18t (j := (Int32.ofNat (1 + ku))) ⟨own_nn (by omega), (own_ol (b := 15) (by omega) (by omega)).mpr (by omega)⟩ (1 + ku) (own_clamp (by omega)) (by simp only [own_tA, List.length_cons, List.length_append, List.length_map, List.length_nil]; omega) (g := (mkF m 134 #[iv p0, iv p1, iv p2, iv p3, iv p4, iv (p0 &&& (3 : Int32)), iv (Int32.ofNat cu), iv (own_sb cu), iv (p1 &&& (2147483647 : Int32)), rv b, iv (Int32.ofNat ku), .unset] [(.int (own_sb cu)), (.int (Int32.ofNat (1 + ku))), (.ref b)])) rfl rfl (hb hby at_134)
    have V18 : Arv Z h18 b k2 .byte 15 (((.int (nar .byte (p3.toInt8.toInt32))) :: (own_tA.map own_vl ++ [.int (nar .byte (p4.toInt8.toInt32))])).set (1 + ku) (.int (nar .byte (own_sb cu)))) (.int 0) := V18
    have B : Byt Z h18 b (own_b (own_tA.set ku cu)) 14 := own_byt V18 (by decide) (by decide) (fun i q1 q2 => own_vs own_tA _ _ _ ku cu i q1 (by simp only [own_tA, List.length_cons, List.length_nil]; omega))
    have K18 : Keep h0 h18 [] := K17.wr W18 (Or.inr sz_b)
    have N18 := Fr.snoc X18 NN17 g_b
    refine Go.pre st18 ?_
    obtain ⟨LL18, XX18, NN18⟩ := own_abs X18 N18
    show Go p e below _ (T18.setTop (mkF m 135 #[iv p0, iv p1, iv p2, iv p3, iv p4, iv (p0 &&& (3 : Int32)), iv (Int32.ofNat cu), iv (own_sb cu), iv (p1 &&& (2147483647 : Int32)), rv b, iv (Int32.ofNat ku), .unset] []))
    refine Go.pre (fun _ k => XS.aload XX18.here hx rfl (hb hby at_135) rfl rfl k) ?_
    show Go p e below _ (T18.setTop (mkF m 137 #[iv p0, iv p1, iv p2, iv p3, iv p4, iv (p0 &&& (3 : Int32)), iv (Int32.ofNat cu), iv (own_sb cu), iv (p1 &&& (2147483647 : Int32)), rv b, iv (Int32.ofNat ku), .unset] [(.ref b)]))
    refine Go.pre (fun _ k => XS.iconst XX18.here hx rfl (hb hby at_137) k) ?_
    show Go p e below _ (T18.setTop (mkF m 138 #[iv p0, iv p1, iv p2, iv p3, iv p4, iv (p0 &&& (3 : Int32)), iv (Int32.ofNat cu), iv (own_sb cu), iv (p1 &&& (2147483647 : Int32)), rv b, iv (Int32.ofNat ku), .unset] [(.int (1 : Int32)), (.ref b)]))
    refine Go.pre (fun _ k => XS.bipush XX18.here hx rfl (hb hby at_138) k) ?_
    show Go p e below _ (T18.setTop (mkF m 140 #[iv p0, iv p1, iv p2, iv p3, iv p4, iv (p0 &&& (3 : Int32)), iv (Int32.ofNat cu), iv (own_sb cu), iv (p1 &&& (2147483647 : Int32)), rv b, iv (Int32.ofNat ku), .unset] [(.int (14 : Int32)), (.int (1 : Int32)), (.ref b)]))
    obtain ⟨_, _, ⟨T19, L19, k19, n19⟩, -, X19, ⟨Lc19, hQ19, l19, y19, z19⟩, st19⟩ := Jvm.LawKit.callS XX18 hx (y := (⟨"com/example/entayl/entayl/input/IriTable", "isPlainIri", "([BII)Z"⟩ : MethodName)) hown (mvT hZ (hw _ (List.mem_of_getElem? (i := 2) rfl))) (mvT hZ (hw _ (List.mem_of_getElem? (i := 3) rfl))) (mvT hZ (hw _ (List.mem_of_getElem? (i := 4) rfl))) (mvT hZ (hw _ (List.mem_of_getElem? (i := 5) rfl))) (by decide) (backOf (W := 0) (rm_plain l Z a0 hw [] b (own_b (own_tA.set ku cu)) 14 ck h18 n0 (Nat.le_trans Z0 K18.1) B (own_b8 own_tA ku cu (by decide) hcu) (by omega) (own_staK SK K18) (own_kdK KD K18) (by omega)) hZ (hw _ (List.mem_of_getElem? (i := 5) rfl)) (hw _ (List.mem_of_getElem? (i := 4) rfl)) (by decide) (by decide)) (g := (mkF m 140 #[iv p0, iv p1, iv p2, iv p3, iv p4, iv (p0 &&& (3 : Int32)), iv (Int32.ofNat cu), iv (own_sb cu), iv (p1 &&& (2147483647 : Int32)), rv b, iv (Int32.ofNat ku), .unset] [(.int (14 : Int32)), (.int (1 : Int32)), (.ref b)])) rfl (by rw [hml]; rfl) (argsL := [(.ref b), (.int (1 : Int32)), (.int (14 : Int32))]) (rest := []) (lenOf pd_3 rfl) rfl (by show 2 * 0 + _ ≤ _; exact Nat.le_of_eq rfl) (hb hby at_140) (fun _ _ => ⟨rfl, e18, (by decide : 1 + 0 ≤ _), (by decide : 15 + 0 ≤ _)⟩)
    dsimp only [Pt.U, Pt.locs, Pt.cells, Pt.slots] at X19 l19 y19 z19 st19 hQ19
    subst l19 y19 z19
    refine Go.pre st19 ?_
    rcases hQ19 with ⟨hp19, rfl, N19q, eh19⟩ | ⟨hp19, rfl, N19q, eh19⟩
    · skip
      have N19 := Fr.app NN18 N19q
      show Go p e below _ (T19.setTop (mkF m 143 #[iv p0, iv p1, iv p2, iv p3, iv p4, iv (p0 &&& (3 : Int32)), iv (Int32.ofNat cu), iv (own_sb cu), iv (p1 &&& (2147483647 : Int32)), rv b, iv (Int32.ofNat ku), .unset] [(.int (1 : Int32))]))
      refine Go.pre (fun _ k => XS.iload X19.here hx rfl (hb hby at_143) rfl k) ?_
      show Go p e below _ (T19.setTop (mkF m 145 #[iv p0, iv p1, iv p2, iv p3, iv p4, iv (p0 &&& (3 : Int32)), iv (Int32.ofNat cu), iv (own_sb cu), iv (p1 &&& (2147483647 : Int32)), rv b, iv (Int32.ofNat ku), .unset] [(.int (Int32.ofNat ku)), (.int (1 : Int32))]))
      refine Go.pre (fun _ k => XS.iload X19.here hx rfl (hb hby at_145) rfl k) ?_
      show Go p e below _ (T19.setTop (mkF m 147 #[iv p0, iv p1, iv p2, iv p3, iv p4, iv (p0 &&& (3 : Int32)), iv (Int32.ofNat cu), iv (own_sb cu), iv (p1 &&& (2147483647 : Int32)), rv b, iv (Int32.ofNat ku), .unset] [(.int (Int32.ofNat cu)), (.int (Int32.ofNat ku)), (.int (1 : Int32))]))
      obtain ⟨_, _, ⟨T20, L20, k20, n20⟩, -, X20, ⟨Lc20, hQ20, l20, y20, z20⟩, st20⟩ := Jvm.LawKit.callS X19 hx (y := (⟨"com/example/entayl/entayl/input/IriTableIsPlainIriPinLaw", "expectA", "(II)Z"⟩ : MethodName)) hown (mvT hZ (hw _ (List.mem_of_getElem? (i := 17) rfl))) (mvT hZ (hw _ (List.mem_of_getElem? (i := 18) rfl))) (mvT hZ (hw _ (List.mem_of_getElem? (i := 19) rfl))) (mvT hZ (hw _ (List.mem_of_getElem? (i := 20) rfl))) (by decide) (backOf (W := 1) (rm_eA l Z a0 hw [] ku cu h18 n0 (Nat.le_trans Z0 K18.1) (by omega) hcu) hZ (hw _ (List.mem_of_getElem? (i := 20) rfl)) (hw _ (List.mem_of_getElem? (i := 19) rfl)) (by decide) (by decide)) (g := (mkF m 147 #[iv p0, iv p1, iv p2, iv p3, iv p4, iv (p0 &&& (3 : Int32)), iv (Int32.ofNat cu), iv (own_sb cu), iv (p1 &&& (2147483647 : Int32)), rv b, iv (Int32.ofNat ku), .unset] [(.int (Int32.ofNat cu)), (.int (Int32.ofNat ku)), (.int (1 : Int32))])) rfl (by rw [hml]; rfl) (argsL := [(.int (Int32.ofNat ku)), (.int (Int32.ofNat cu))]) (rest := [(.int (1 : Int32))]) (lenOf pd_4 rfl) rfl (by show 2 * 0 + _ ≤ _; exact Nat.le_of_eq rfl) (hb hby at_147) (fun _ _ => ⟨rfl, eh19, (by decide : 1 + 0 ≤ _), (by decide : 15 + 0 ≤ _)⟩)
      dsimp only [Pt.U, Pt.locs, Pt.cells, Pt.slots] at X20 l20 y20 z20 st20 hQ20
      subst l20 y20 z20
      refine Go.pre st20 ?_
      rcases hQ20 with ⟨hp20, rfl, N20q, eh20⟩ | ⟨hp20, rfl, N20q, eh20⟩
      · skip
        have N20 := Fr.app N19 N20q
        show Go p e below _ (T20.setTop (mkF m 150 #[iv p0, iv p1, iv p2, iv p3, iv p4, iv (p0 &&& (3 : Int32)), iv (Int32.ofNat cu), iv (own_sb cu), iv (p1 &&& (2147483647 : Int32)), rv b, iv (Int32.ofNat ku), .unset] [(.int (1 : Int32)), (.int (1 : Int32))]))
        refine Go.pre (fun _ k => XS.icmpNo X20.here hx rfl (hb hby at_150) rfl (teq (by decide : (1 : Int32) = (1 : Int32))).2 k) ?_
        show Go p e below _ (T20.setTop (mkF m 153 #[iv p0, iv p1, iv p2, iv p3, iv p4, iv (p0 &&& (3 : Int32)), iv (Int32.ofNat cu), iv (own_sb cu), iv (p1 &&& (2147483647 : Int32)), rv b, iv (Int32.ofNat ku), .unset] []))
        refine Go.pre (fun _ k => XS.iconst X20.here hx rfl (hb hby at_153) k) ?_
        show Go p e below _ (T20.setTop (mkF m 154 #[iv p0, iv p1, iv p2, iv p3, iv p4, iv (p0 &&& (3 : Int32)), iv (Int32.ofNat cu), iv (own_sb cu), iv (p1 &&& (2147483647 : Int32)), rv b, iv (Int32.ofNat ku), .unset] [(.int (1 : Int32))]))
        refine Go.pre (fun _ k => XS.goto X20.here hx rfl (pc0 := 154) (pc' := 158) rfl (hb hby at_154) (by decide) (by decide) k) ?_
        show Go p e below _ (T20.setTop (mkF m 158 #[iv p0, iv p1, iv p2, iv p3, iv p4, iv (p0 &&& (3 : Int32)), iv (Int32.ofNat cu), iv (own_sb cu), iv (p1 &&& (2147483647 : Int32)), rv b, iv (Int32.ofNat ku), .unset] [(.int (1 : Int32))]))
        obtain ⟨fs, hr, hrun, hended, hW, hsame⟩ := X20.leave (v := some (.int (1 : Int32))) (fun h => by rw [Bd.returns] at h; cases h)
        refine Go.fin (retN X20 hx (t := .boolean) Bd.returns (by simp) (hb hby at_158) hr) ⟨hrun, hended, _, _, rfl, ?_, ⟨_, rfl⟩, hW, hsame.mono (by decide) (by decide)⟩
        exact ⟨rfl, N20⟩
      · skip
        have N20 := Fr.app N19 N20q
        show Go p e below _ (T20.setTop (mkF m 150 #[iv p0, iv p1, iv p2, iv p3, iv p4, iv (p0 &&& (3 : Int32)), iv (Int32.ofNat cu), iv (own_sb cu), iv (p1 &&& (2147483647 : Int32)), rv b, iv (Int32.ofNat ku), .unset] [(.int (0 : Int32)), (.int (1 : Int32))]))
        refine Go.pre (fun _ k => XS.icmpYes X20.here hx rfl (pc0 := 150) (pc' := 157) rfl (hb hby at_150) rfl (feq (by decide : ¬ ((1 : Int32) = (0 : Int32)))).2 (by decide) (by decide) k) ?_
        show Go p e below _ (T20.setTop (mkF m 157 #[iv p0, iv p1, iv p2, iv p3, iv p4, iv (p0 &&& (3 : Int32)), iv (Int32.ofNat cu), iv (own_sb cu), iv (p1 &&& (2147483647 : Int32)), rv b, iv (Int32.ofNat ku), .unset] []))
        refine Go.pre (fun _ k => XS.iconst X20.here hx rfl (hb hby at_157) k) ?_
        show Go p e below _ (T20.setTop (mkF m 158 #[iv p0, iv p1, iv p2, iv p3, iv p4, iv (p0 &&& (3 : Int32)), iv (Int32.ofNat cu), iv (own_sb cu), iv (p1 &&& (2147483647 : Int32)), rv b, iv (Int32.ofNat ku), .unset] [(.int (0 : Int32))]))
        exact absurd ((own_use own_lawA hku hcu).symm.trans hp19) hp20
    · skip
      have N19 := Fr.app NN18 N19q
      show Go p e below _ (T19.setTop (mkF m 143 #[iv p0, iv p1, iv p2, iv p3, iv p4, iv (p0 &&& (3 : Int32)), iv (Int32.ofNat cu), iv (own_sb cu), iv (p1 &&& (2147483647 : Int32)), rv b, iv (Int32.ofNat ku), .unset] [(.int (0 : Int32))]))
      refine Go.pre (fun _ k => XS.iload X19.here hx rfl (hb hby at_143) rfl k) ?_
      show Go p e below _ (T19.setTop (mkF m 145 #[iv p0, iv p1, iv p2, iv p3, iv p4, iv (p0 &&& (3 : Int32)), iv (Int32.ofNat cu), iv (own_sb cu), iv (p1 &&& (2147483647 : Int32)), rv b, iv (Int32.ofNat ku), .unset] [(.int (Int32.ofNat ku)), (.int (0 : Int32))]))
      refine Go.pre (fun _ k => XS.iload X19.here hx rfl (hb hby at_145) rfl k) ?_
      show Go p e below _ (T19.setTop (mkF m 147 #[iv p0, iv p1, iv p2, iv p3, iv p4, iv (p0 &&& (3 : Int32)), iv (Int32.ofNat cu), iv (own_sb cu), iv (p1 &&& (2147483647 : Int32)), rv b, iv (Int32.ofNat ku), .unset] [(.int (Int32.ofNat cu)), (.int (Int32.ofNat ku)), (.int (0 : Int32))]))
      obtain ⟨_, _, ⟨T21, L21, k21, n21⟩, -, X21, ⟨Lc21, hQ21, l21, y21, z21⟩, st21⟩ := Jvm.LawKit.callS X19 hx (y := (⟨"com/example/entayl/entayl/input/IriTableIsPlainIriPinLaw", "expectA", "(II)Z"⟩ : MethodName)) hown (mvT hZ (hw _ (List.mem_of_getElem? (i := 17) rfl))) (mvT hZ (hw _ (List.mem_of_getElem? (i := 18) rfl))) (mvT hZ (hw _ (List.mem_of_getElem? (i := 19) rfl))) (mvT hZ (hw _ (List.mem_of_getElem? (i := 20) rfl))) (by decide) (backOf (W := 1) (rm_eA l Z a0 hw [] ku cu h18 n0 (Nat.le_trans Z0 K18.1) (by omega) hcu) hZ (hw _ (List.mem_of_getElem? (i := 20) rfl)) (hw _ (List.mem_of_getElem? (i := 19) rfl)) (by decide) (by decide)) (g := (mkF m 147 #[iv p0, iv p1, iv p2, iv p3, iv p4, iv (p0 &&& (3 : Int32)), iv (Int32.ofNat cu), iv (own_sb cu), iv (p1 &&& (2147483647 : Int32)), rv b, iv (Int32.ofNat ku), .unset] [(.int (Int32.ofNat cu)), (.int (Int32.ofNat ku)), (.int (0 : Int32))])) rfl (by rw [hml]; rfl) (argsL := [(.int (Int32.ofNat ku)), (.int (Int32.ofNat cu))]) (rest := [(.int (0 : Int32))]) (lenOf pd_4 rfl) rfl (by show 2 * 0 + _ ≤ _; exact Nat.le_of_eq rfl) (hb hby at_147) (fun _ _ => ⟨rfl, eh19, (by decide : 1 + 0 ≤ _), (by decide : 15 + 0 ≤ _)⟩)
      dsimp only [Pt.U, Pt.locs, Pt.cells, Pt.slots] at X21 l21 y21 z21 st21 hQ21
      subst l21 y21 z21
      refine Go.pre st21 ?_
      rcases hQ21 with ⟨hp21, rfl, N21q, eh21⟩ | ⟨hp21, rfl, N21q, eh21⟩
      · skip
        have N21 := Fr.app N19 N21q
        show Go p e below _ (T21.setTop (mkF m 150 #[iv p0, iv p1, iv p2, iv p3, iv p4, iv (p0 &&& (3 : Int32)), iv (Int32.ofNat cu), iv (own_sb cu), iv (p1 &&& (2147483647 : Int32)), rv b, iv (Int32.ofNat ku), .unset] [(.int (1 : Int32)), (.int (0 : Int32))]))
        refine Go.pre (fun _ k => XS.icmpYes X21.here hx rfl (pc0 := 150) (pc' := 157) rfl (hb hby at_150) rfl (feq (by decide : ¬ ((0 : Int32) = (1 : Int32)))).2 (by decide) (by decide) k) ?_
        show Go p e below _ (T21.setTop (mkF m 157 #[iv p0, iv p1, iv p2, iv p3, iv p4, iv (p0 &&& (3 : Int32)), iv (Int32.ofNat cu), iv (own_sb cu), iv (p1 &&& (2147483647 : Int32)), rv b, iv (Int32.ofNat ku), .unset] []))
        refine Go.pre (fun _ k => XS.iconst X21.here hx rfl (hb hby at_157) k) ?_
        show Go p e below _ (T21.setTop (mkF m 158 #[iv p0, iv p1, iv p2, iv p3, iv p4, iv (p0 &&& (3 : Int32)), iv (Int32.ofNat cu), iv (own_sb cu), iv (p1 &&& (2147483647 : Int32)), rv b, iv (Int32.ofNat ku), .unset] [(.int (0 : Int32))]))
        exact absurd ((own_use own_lawA hku hcu).trans hp21) hp19
      · skip
        have N21 := Fr.app N19 N21q
        show Go p e below _ (T21.setTop (mkF m 150 #[iv p0, iv p1, iv p2, iv p3, iv p4, iv (p0 &&& (3 : Int32)), iv (Int32.ofNat cu), iv (own_sb cu), iv (p1 &&& (2147483647 : Int32)), rv b, iv (Int32.ofNat ku), .unset] [(.int (0 : Int32)), (.int (0 : Int32))]))
        refine Go.pre (fun _ k => XS.icmpNo X21.here hx rfl (hb hby at_150) rfl (teq (by decide : (0 : Int32) = (0 : Int32))).2 k) ?_
        show Go p e below _ (T21.setTop (mkF m 153 #[iv p0, iv p1, iv p2, iv p3, iv p4, iv (p0 &&& (3 : Int32)), iv (Int32.ofNat cu), iv (own_sb cu), iv (p1 &&& (2147483647 : Int32)), rv b, iv (Int32.ofNat ku), .unset] []))
        refine Go.pre (fun _ k => XS.iconst X21.here hx rfl (hb hby at_153) k) ?_
        show Go p e below _ (T21.setTop (mkF m 154 #[iv p0, iv p1, iv p2, iv p3, iv p4, iv (p0 &&& (3 : Int32)), iv (Int32.ofNat cu), iv (own_sb cu), iv (p1 &&& (2147483647 : Int32)), rv b, iv (Int32.ofNat ku), .unset] [(.int (1 : Int32))]))
        refine Go.pre (fun _ k => XS.goto X21.here hx rfl (pc0 := 154) (pc' := 158) rfl (hb hby at_154) (by decide) (by decide) k) ?_
        show Go p e below _ (T21.setTop (mkF m 158 #[iv p0, iv p1, iv p2, iv p3, iv p4, iv (p0 &&& (3 : Int32)), iv (Int32.ofNat cu), iv (own_sb cu), iv (p1 &&& (2147483647 : Int32)), rv b, iv (Int32.ofNat ku), .unset] [(.int (1 : Int32))]))
        obtain ⟨fs, hr, hrun, hended, hW, hsame⟩ := X21.leave (v := some (.int (1 : Int32))) (fun h => by rw [Bd.returns] at h; cases h)
        refine Go.fin (retN X21 hx (t := .boolean) Bd.returns (by simp) (hb hby at_158) hr) ⟨hrun, hended, _, _, rfl, ?_, ⟨_, rfl⟩, hW, hsame.mono (by decide) (by decide)⟩
        exact ⟨rfl, N21⟩
  · skip
    refine Go.pre (fun _ k => XS.ifYes X0.here hx rfl (pc0 := 25) (pc' := 159) rfl (hb hby at_25) rfl ((if0 _ _).trans (feq hc25_1).2) (by decide) (by decide) k) ?_
    show Go p e below _ (s₁.setTop (mkF m 159 #[iv p0, iv p1, iv p2, iv p3, iv p4, iv (p0 &&& (3 : Int32)), iv (Int32.ofNat cu), iv (own_sb cu), iv (p1 &&& (2147483647 : Int32)), .unset, .unset, .unset] []))
    refine Go.pre (fun _ k => XS.iload X0.here hx rfl (hb hby at_159) rfl k) ?_
    show Go p e below _ (s₁.setTop (mkF m 161 #[iv p0, iv p1, iv p2, iv p3, iv p4, iv (p0 &&& (3 : Int32)), iv (Int32.ofNat cu), iv (own_sb cu), iv (p1 &&& (2147483647 : Int32)), .unset, .unset, .unset] [(.int (p0 &&& (3 : Int32)))]))
    refine Go.pre (fun _ k => XS.iconst X0.here hx rfl (hb hby at_161) k) ?_
    show Go p e below _ (s₁.setTop (mkF m 162 #[iv p0, iv p1, iv p2, iv p3, iv p4, iv (p0 &&& (3 : Int32)), iv (Int32.ofNat cu), iv (own_sb cu), iv (p1 &&& (2147483647 : Int32)), .unset, .unset, .unset] [(.int (1 : Int32)), (.int (p0 &&& (3 : Int32)))]))
    by_cases hc162_22 : (p0 &&& (3 : Int32)) = (1 : Int32)
    · skip
      refine Go.pre (fun _ k => XS.icmpNo X0.here hx rfl (hb hby at_162) rfl (teq hc162_22).2 k) ?_
      show Go p e below _ (s₁.setTop (mkF m 165 #[iv p0, iv p1, iv p2, iv p3, iv p4, iv (p0 &&& (3 : Int32)), iv (Int32.ofNat cu), iv (own_sb cu), iv (p1 &&& (2147483647 : Int32)), .unset, .unset, .unset] []))
      refine Go.pre (fun _ k => XS.bipush X0.here hx rfl (hb hby at_165) k) ?_
      show Go p e below _ (s₁.setTop (mkF m 167 #[iv p0, iv p1, iv p2, iv p3, iv p4, iv (p0 &&& (3 : Int32)), iv (Int32.ofNat cu), iv (own_sb cu), iv (p1 &&& (2147483647 : Int32)), .unset, .unset, .unset] [(.int (17 : Int32))]))
      obtain ⟨T23, h23, k23, X23, e23, Ex23, A23, st23⟩ := newP X0 hx hZ (hw _ (List.mem_of_getElem? (i := 1) rfl)) e0 (g := (mkF m 167 #[iv p0, iv p1, iv p2, iv p3, iv p4, iv (p0 &&& (3 : Int32)), iv (Int32.ofNat cu), iv (own_sb cu), iv (p1 &&& (2147483647 : Int32)), .unset, .unset, .unset] [(.int (17 : Int32))])) rfl (hb hby at_167) rfl (by decide) (cap := 17) (by decide) (by decide) (by decide) (by decide)
      obtain ⟨b, hb0⟩ : ∃ z, z = h0.size := ⟨_, rfl⟩
      rw [← hb0] at A23 st23
      have g_b : n0 ≤ b := by omega
      have sz_b : h0.size ≤ b := Nat.le_of_eq hb0.symm
      have V23 : Arv Z h23 b k23 .byte 17 [.int 0, .int 0, .int 0, .int 0, .int 0, .int 0, .int 0, .int 0, .int 0, .int 0, .int 0, .int 0, .int 0, .int 0, .int 0, .int 0, .int 0] (.int 0) := (Arv.new A23 (by decide)).pad (pad_rep [] (.int 0) 17)
      have K23 : Keep h0 h23 [] := (Keep.refl h0 []).ext Ex23
      refine Go.pre st23 ?_
      show Go p e below _ (T23.setTop (mkF m 169 #[iv p0, iv p1, iv p2, iv p3, iv p4, iv (p0 &&& (3 : Int32)), iv (Int32.ofNat cu), iv (own_sb cu), iv (p1 &&& (2147483647 : Int32)), .unset, .unset, .unset] [(.ref b)]))
      refine Go.pre (fun _ k => XS.dup X23.here hx rfl (hb hby at_169) rfl rfl k) ?_
      show Go p e below _ (T23.setTop (mkF m 170 #[iv p0, iv p1, iv p2, iv p3, iv p4, iv (p0 &&& (3 : Int32)), iv (Int32.ofNat cu), iv (own_sb cu), iv (p1 &&& (2147483647 : Int32)), .unset, .unset, .unset] [(.ref b), (.ref b)]))
      refine Go.pre (fun _ k => XS.iconst X23.here hx rfl (hb hby at_170) k) ?_
      show Go p e below _ (T23.setTop (mkF m 171 #[iv p0, iv p1, iv p2, iv p3, iv p4, iv (p0 &&& (3 : Int32)), iv (Int32.ofNat cu), iv (own_sb cu), iv (p1 &&& (2147483647 : Int32)), .unset, .unset, .unset] [(.int (0 : Int32)), (.ref b), (.ref b)]))
      refine Go.pre (fun _ k => XS.iloadN X23.here hx rfl (hb hby at_171) rfl k) ?_
      show Go p e below _ (T23.setTop (mkF m 172 #[iv p0, iv p1, iv p2, iv p3, iv p4, iv (p0 &&& (3 : Int32)), iv (Int32.ofNat cu), iv (own_sb cu), iv (p1 &&& (2147483647 : Int32)), .unset, .unset, .unset] [(.int p3), (.int (0 : Int32)), (.ref b), (.ref b)]))
      refine Go.pre (fun _ k => XS.i2b X23.here hx rfl (hb hby at_172) rfl k) ?_
      show Go p e below _ (T23.setTop (mkF m 173 #[iv p0, iv p1, iv p2, iv p3, iv p4, iv (p0 &&& (3 : Int32)), iv (Int32.ofNat cu), iv (own_sb cu), iv (p1 &&& (2147483647 : Int32)), .unset, .unset, .unset] [(.int (p3.toInt8.toInt32)), (.int (0 : Int32)), (.ref b), (.ref b)]))
      obtain ⟨T24, h24, X24, e24, W24, V24, st24⟩ := own_putB X23 hx hZ e23 V23 (j := (0 : Int32)) (by decide) 0 rfl (Nat.le_of_ble_eq_true rfl) (g := (mkF m 173 #[iv p0, iv p1, iv p2, iv p3, iv p4, iv (p0 &&& (3 : Int32)), iv (Int32.ofNat cu), iv (own_sb cu), iv (p1 &&& (2147483647 : Int32)), .unset, .unset, .unset] [(.int (p3.toInt8.toInt32)), (.int (0 : Int32)), (.ref b), (.ref b)])) rfl rfl (hb hby at_173)
      have V24 : Arv Z h24 b k23 .byte 17 [.int (nar .byte (p3.toInt8.toInt32)), .int 0, .int 0, .int 0, .int 0, .int 0, .int 0, .int 0, .int 0, .int 0, .int 0, .int 0, .int 0, .int 0, .int 0, .int 0, .int 0] (.int 0) := V24
      have K24 : Keep h0 h24 [] := K23.wr W24 (Or.inr sz_b)
      have N24 := Fr.snoc X24 N0 g_b
      refine Go.pre st24 ?_
      obtain ⟨LL24, XX24, NN24⟩ := own_abs X24 N24
      show Go p e below _ (T24.setTop (mkF m 174 #[iv p0, iv p1, iv p2, iv p3, iv p4, iv (p0 &&& (3 : Int32)), iv (Int32.ofNat cu), iv (own_sb cu), iv (p1 &&& (2147483647 : Int32)), .unset, .unset, .unset] [(.ref b)]))
      refine Go.pre (fun _ k => XS.dup XX24.here hx rfl (hb hby at_174) rfl rfl k) ?_
      show Go p e below _ (T24.setTop (mkF m 175 #[iv p0, iv p1, iv p2, iv p3, iv p4, iv (p0 &&& (3 : Int32)), iv (Int32.ofNat cu), iv (own_sb cu), iv (p1 &&& (2147483647 : Int32)), .unset, .unset, .unset] [(.ref b), (.ref b)]))
      refine Go.pre (fun _ k => XS.iconst XX24.here hx rfl (hb hby at_175) k) ?_
      show Go p e below _ (T24.setTop (mkF m 176 #[iv p0, iv p1, iv p2, iv p3, iv p4, iv (p0 &&& (3 : Int32)), iv (Int32.ofNat cu), iv (own_sb cu), iv (p1 &&& (2147483647 : Int32)), .unset, .unset, .unset] [(.int (1 : Int32)), (.ref b), (.ref b)]))
      refine Go.pre (fun _ k => XS.bipush XX24.here hx rfl (hb hby at_176) k) ?_
      show Go p e below _ (T24.setTop (mkF m 178 #[iv p0, iv p1, iv p2, iv p3, iv p4, iv (p0 &&& (3 : Int32)), iv (Int32.ofNat cu), iv (own_sb cu), iv (p1 &&& (2147483647 : Int32)), .unset, .unset, .unset] [(.int (106 : Int32)), (.int (1 : Int32)), (.ref b), (.ref b)]))
      obtain ⟨T25, h25, X25, e25, W25, V25, st25⟩ := own_putB XX24 hx hZ e24 V24 (j := (1 : Int32)) (by decide) 1 rfl (Nat.le_of_ble_eq_true rfl) (g := (mkF m 178 #[iv p0, iv p1, iv p2, iv p3, iv p4, iv (p0 &&& (3 : Int32)), iv (Int32.ofNat cu), iv (own_sb cu), iv (p1 &&& (2147483647 : Int32)), .unset, .unset, .unset] [(.int (106 : Int32)), (.int (1 : Int32)), (.ref b), (.ref b)])) rfl rfl (hb hby at_178)
      have V25 : Arv Z h25 b k23 .byte 17 [.int (nar .byte (p3.toInt8.toInt32)), own_vl 106, .int 0, .int 0, .int 0, .int 0, .int 0, .int 0, .int 0, .int 0, .int 0, .int 0, .int 0, .int 0, .int 0, .int 0, .int 0] (.int 0) := V25
      have K25 : Keep h0 h25 [] := K24.wr W25 (Or.inr sz_b)
      have N25 := Fr.snoc X25 NN24 g_b
      refine Go.pre st25 ?_
      obtain ⟨LL25, XX25, NN25⟩ := own_abs X25 N25
      show Go p e below _ (T25.setTop (mkF m 179 #[iv p0, iv p1, iv p2, iv p3, iv p4, iv (p0 &&& (3 : Int32)), iv (Int32.ofNat cu), iv (own_sb cu), iv (p1 &&& (2147483647 : Int32)), .unset, .unset, .unset] [(.ref b)]))
      refine Go.pre (fun _ k => XS.dup XX25.here hx rfl (hb hby at_179) rfl rfl k) ?_
      show Go p e below _ (T25.setTop (mkF m 180 #[iv p0, iv p1, iv p2, iv p3, iv p4, iv (p0 &&& (3 : Int32)), iv (Int32.ofNat cu), iv (own_sb cu), iv (p1 &&& (2147483647 : Int32)), .unset, .unset, .unset] [(.ref b), (.ref b)]))
      refine Go.pre (fun _ k => XS.iconst XX25.here hx rfl (hb hby at_180) k) ?_
      show Go p e below _ (T25.setTop (mkF m 181 #[iv p0, iv p1, iv p2, iv p3, iv p4, iv (p0 &&& (3 : Int32)), iv (Int32.ofNat cu), iv (own_sb cu), iv (p1 &&& (2147483647 : Int32)), .unset, .unset, .unset] [(.int (2 : Int32)), (.ref b), (.ref b)]))
      refine Go.pre (fun _ k => XS.bipush XX25.here hx rfl (hb hby at_181) k) ?_
      show Go p e below _ (T25.setTop (mkF m 183 #[iv p0, iv p1, iv p2, iv p3, iv p4, iv (p0 &&& (3 : Int32)), iv (Int32.ofNat cu), iv (own_sb cu), iv (p1 &&& (2147483647 : Int32)), .unset, .unset, .unset] [(.int (98 : Int32)), (.int (2 : Int32)), (.ref b), (.ref b)]))
      obtain ⟨T26, h26, X26, e26, W26, V26, st26⟩ := own_putB XX25 hx hZ e25 V25 (j := (2 : Int32)) (by decide) 2 rfl (Nat.le_of_ble_eq_true rfl) (g := (mkF m 183 #[iv p0, iv p1, iv p2, iv p3, iv p4, iv (p0 &&& (3 : Int32)), iv (Int32.ofNat cu), iv (own_sb cu), iv (p1 &&& (2147483647 : Int32)), .unset, .unset, .unset] [(.int (98 : Int32)), (.int (2 : Int32)), (.ref b), (.ref b)])) rfl rfl (hb hby at_183)
      have V26 : Arv Z h26 b k23 .byte 17 [.int (nar .byte (p3.toInt8.toInt32)), own_vl 106, own_vl 98, .int 0, .int 0, .int 0, .int 0, .int 0, .int 0, .int 0, .int 0, .int 0, .int 0, .int 0, .int 0, .int 0, .int 0] (.int 0) := V26
      have K26 : Keep h0 h26 [] := K25.wr W26 (Or.inr sz_b)
      have N26 := Fr.snoc X26 NN25 g_b
      refine Go.pre st26 ?_
      obtain ⟨LL26, XX26, NN26⟩ := own_abs X26 N26
      show Go p e below _ (T26.setTop (mkF m 184 #[iv p0, iv p1, iv p2, iv p3, iv p4, iv (p0 &&& (3 : Int32)), iv (Int32.ofNat cu), iv (own_sb cu), iv (p1 &&& (2147483647 : Int32)), .unset, .unset, .unset] [(.ref b)]))
      refine Go.pre (fun _ k => XS.dup XX26.here hx rfl (hb hby at_184) rfl rfl k) ?_
      show Go p e below _ (T26.setTop (mkF m 185 #[iv p0, iv p1, iv p2, iv p3, iv p4, iv (p0 &&& (3 : Int32)), iv (Int32.ofNat cu), iv (own_sb cu), iv (p1 &&& (2147483647 : Int32)), .unset, .unset, .unset] [(.ref b), (.ref b)]))
      refine Go.pre (fun _ k => XS.iconst XX26.here hx rfl (hb hby at_185) k) ?_
      show Go p e below _ (T26.setTop (mkF m 186 #[iv p0, iv p1, iv p2, iv p3, iv p4, iv (p0 &&& (3 : Int32)), iv (Int32.ofNat cu), iv (own_sb cu), iv (p1 &&& (2147483647 : Int32)), .unset, .unset, .unset] [(.int (3 : Int32)), (.ref b), (.ref b)]))
      refine Go.pre (fun _ k => XS.bipush XX26.here hx rfl (hb hby at_186) k) ?_
      show Go p e below _ (T26.setTop (mkF m 188 #[iv p0, iv p1, iv p2, iv p3, iv p4, iv (p0 &&& (3 : Int32)), iv (Int32.ofNat cu), iv (own_sb cu), iv (p1 &&& (2147483647 : Int32)), .unset, .unset, .unset] [(.int (114 : Int32)), (.int (3 : Int32)), (.ref b), (.ref b)]))
      obtain ⟨T27, h27, X27, e27, W27, V27, st27⟩ := own_putB XX26 hx hZ e26 V26 (j := (3 : Int32)) (by decide) 3 rfl (Nat.le_of_ble_eq_true rfl) (g := (mkF m 188 #[iv p0, iv p1, iv p2, iv p3, iv p4, iv (p0 &&& (3 : Int32)), iv (Int32.ofNat cu), iv (own_sb cu), iv (p1 &&& (2147483647 : Int32)), .unset, .unset, .unset] [(.int (114 : Int32)), (.int (3 : Int32)), (.ref b), (.ref b)])) rfl rfl (hb hby at_188)
      have V27 : Arv Z h27 b k23 .byte 17 [.int (nar .byte (p3.toInt8.toInt32)), own_vl 106, own_vl 98, own_vl 114, .int 0, .int 0, .int 0, .int 0, .int 0, .int 0, .int 0, .int 0, .int 0, .int 0, .int 0, .int 0, .int 0] (.int 0) := V27
      have K27 : Keep h0 h27 [] := K26.wr W27 (Or.inr sz_b)
      have N27 := Fr.snoc X27 NN26 g_b
      refine Go.pre st27 ?_
      obtain ⟨LL27, XX27, NN27⟩ := own_abs X27 N27
      show Go p e below _ (T27.setTop (mkF m 189 #[iv p0, iv p1, iv p2, iv p3, iv p4, iv (p0 &&& (3 : Int32)), iv (Int32.ofNat cu), iv (own_sb cu), iv (p1 &&& (2147483647 : Int32)), .unset, .unset, .unset] [(.ref b)]))
      refine Go.pre (fun _ k => XS.dup XX27.here hx rfl (hb hby at_189) rfl rfl k) ?_
      show Go p e below _ (T27.setTop (mkF m 190 #[iv p0, iv p1, iv p2, iv p3, iv p4, iv (p0 &&& (3 : Int32)), iv (Int32.ofNat cu), iv (own_sb cu), iv (p1 &&& (2147483647 : Int32)), .unset, .unset, .unset] [(.ref b), (.ref b)]))
      refine Go.pre (fun _ k => XS.iconst XX27.here hx rfl (hb hby at_190) k) ?_
      show Go p e below _ (T27.setTop (mkF m 191 #[iv p0, iv p1, iv p2, iv p3, iv p4, iv (p0 &&& (3 : Int32)), iv (Int32.ofNat cu), iv (own_sb cu), iv (p1 &&& (2147483647 : Int32)), .unset, .unset, .unset] [(.int (4 : Int32)), (.ref b), (.ref b)]))
      refine Go.pre (fun _ k => XS.bipush XX27.here hx rfl (hb hby at_191) k) ?_
      show Go p e below _ (T27.setTop (mkF m 193 #[iv p0, iv p1, iv p2, iv p3, iv p4, iv (p0 &&& (3 : Int32)), iv (Int32.ofNat cu), iv (own_sb cu), iv (p1 &&& (2147483647 : Int32)), .unset, .unset, .unset] [(.int (58 : Int32)), (.int (4 : Int32)), (.ref b), (.ref b)]))
      obtain ⟨T28, h28, X28, e28, W28, V28, st28⟩ := own_putB XX27 hx hZ e27 V27 (j := (4 : Int32)) (by decide) 4 rfl (Nat.le_of_ble_eq_true rfl) (g := (mkF m 193 #[iv p0, iv p1, iv p2, iv p3, iv p4, iv (p0 &&& (3 : Int32)), iv (Int32.ofNat cu), iv (own_sb cu), iv (p1 &&& (2147483647 : Int32)), .unset, .unset, .unset] [(.int (58 : Int32)), (.int (4 : Int32)), (.ref b), (.ref b)])) rfl rfl (hb hby at_193)
      have V28 : Arv Z h28 b k23 .byte 17 [.int (nar .byte (p3.toInt8.toInt32)), own_vl 106, own_vl 98, own_vl 114, own_vl 58, .int 0, .int 0, .int 0, .int 0, .int 0, .int 0, .int 0, .int 0, .int 0, .int 0, .int 0, .int 0] (.int 0) := V28
      have K28 : Keep h0 h28 [] := K27.wr W28 (Or.inr sz_b)
      have N28 := Fr.snoc X28 NN27 g_b
      refine Go.pre st28 ?_
      obtain ⟨LL28, XX28, NN28⟩ := own_abs X28 N28
      show Go p e below _ (T28.setTop (mkF m 194 #[iv p0, iv p1, iv p2, iv p3, iv p4, iv (p0 &&& (3 : Int32)), iv (Int32.ofNat cu), iv (own_sb cu), iv (p1 &&& (2147483647 : Int32)), .unset, .unset, .unset] [(.ref b)]))
      refine Go.pre (fun _ k => XS.dup XX28.here hx rfl (hb hby at_194) rfl rfl k) ?_
      show Go p e below _ (T28.setTop (mkF m 195 #[iv p0, iv p1, iv p2, iv p3, iv p4, iv (p0 &&& (3 : Int32)), iv (Int32.ofNat cu), iv (own_sb cu), iv (p1 &&& (2147483647 : Int32)), .unset, .unset, .unset] [(.ref b), (.ref b)]))
      refine Go.pre (fun _ k => XS.iconst XX28.here hx rfl (hb hby at_195) k) ?_
      show Go p e below _ (T28.setTop (mkF m 196 #[iv p0, iv p1, iv p2, iv p3, iv p4, iv (p0 &&& (3 : Int32)), iv (Int32.ofNat cu), iv (own_sb cu), iv (p1 &&& (2147483647 : Int32)), .unset, .unset, .unset] [(.int (5 : Int32)), (.ref b), (.ref b)]))
      refine Go.pre (fun _ k => XS.bipush XX28.here hx rfl (hb hby at_196) k) ?_
      show Go p e below _ (T28.setTop (mkF m 198 #[iv p0, iv p1, iv p2, iv p3, iv p4, iv (p0 &&& (3 : Int32)), iv (Int32.ofNat cu), iv (own_sb cu), iv (p1 &&& (2147483647 : Int32)), .unset, .unset, .unset] [(.int (37 : Int32)), (.int (5 : Int32)), (.ref b), (.ref b)]))
      obtain ⟨T29, h29, X29, e29, W29, V29, st29⟩ := own_putB XX28 hx hZ e28 V28 (j := (5 : Int32)) (by decide) 5 rfl (Nat.le_of_ble_eq_true rfl) (g := (mkF m 198 #[iv p0, iv p1, iv p2, iv p3, iv p4, iv (p0 &&& (3 : Int32)), iv (Int32.ofNat cu), iv (own_sb cu), iv (p1 &&& (2147483647 : Int32)), .unset, .unset, .unset] [(.int (37 : Int32)), (.int (5 : Int32)), (.ref b), (.ref b)])) rfl rfl (hb hby at_198)
      have V29 : Arv Z h29 b k23 .byte 17 [.int (nar .byte (p3.toInt8.toInt32)), own_vl 106, own_vl 98, own_vl 114, own_vl 58, own_vl 37, .int 0, .int 0, .int 0, .int 0, .int 0, .int 0, .int 0, .int 0, .int 0, .int 0, .int 0] (.int 0) := V29
      have K29 : Keep h0 h29 [] := K28.wr W29 (Or.inr sz_b)
      have N29 := Fr.snoc X29 NN28 g_b
      refine Go.pre st29 ?_
      obtain ⟨LL29, XX29, NN29⟩ := own_abs X29 N29
      show Go p e below _ (T29.setTop (mkF m 199 #[iv p0, iv p1, iv p2, iv p3, iv p4, iv (p0 &&& (3 : Int32)), iv (Int32.ofNat cu), iv (own_sb cu), iv (p1 &&& (2147483647 : Int32)), .unset, .unset, .unset] [(.ref b)]))
      refine Go.pre (fun _ k => XS.dup XX29.here hx rfl (hb hby at_199) rfl rfl k) ?_
      show Go p e below _ (T29.setTop (mkF m 200 #[iv p0, iv p1, iv p2, iv p3, iv p4, iv (p0 &&& (3 : Int32)), iv (Int32.ofNat cu), iv (own_sb cu), iv (p1 &&& (2147483647 : Int32)), .unset, .unset, .unset] [(.ref b), (.ref b)]))
      refine Go.pre (fun _ k => XS.bipush XX29.here hx rfl (hb hby at_200) k) ?_
      show Go p e below _ (T29.setTop (mkF m 202 #[iv p0, iv p1, iv p2, iv p3, iv p4, iv (p0 &&& (3 : Int32)), iv (Int32.ofNat cu), iv (own_sb cu), iv (p1 &&& (2147483647 : Int32)), .unset, .unset, .unset] [(.int (6 : Int32)), (.ref b), (.ref b)]))
      refine Go.pre (fun _ k => XS.bipush XX29.here hx rfl (hb hby at_202) k) ?_
      show Go p e below _ (T29.setTop (mkF m 204 #[iv p0, iv p1, iv p2, iv p3, iv p4, iv (p0 &&& (3 : Int32)), iv (Int32.ofNat cu), iv (own_sb cu), iv (p1 &&& (2147483647 : Int32)), .unset, .unset, .unset] [(.int (52 : Int32)), (.int (6 : Int32)), (.ref b), (.ref b)]))
      obtain ⟨T30, h30, X30, e30, W30, V30, st30⟩ := own_putB XX29 hx hZ e29 V29 (j := (6 : Int32)) (by decide) 6 rfl (Nat.le_of_ble_eq_true rfl) (g := (mkF m 204 #[iv p0, iv p1, iv p2, iv p3, iv p4, iv (p0 &&& (3 : Int32)), iv (Int32.ofNat cu), iv (own_sb cu), iv (p1 &&& (2147483647 : Int32)), .unset, .unset, .unset] [(.int (52 : Int32)), (.int (6 : Int32)), (.ref b), (.ref b)])) rfl rfl (hb hby at_204)
      have V30 : Arv Z h30 b k23 .byte 17 [.int (nar .byte (p3.toInt8.toInt32)), own_vl 106, own_vl 98, own_vl 114, own_vl 58, own_vl 37, own_vl 52, .int 0, .int 0, .int 0, .int 0, .int 0, .int 0, .int 0, .int 0, .int 0, .int 0] (.int 0) := V30
      have K30 : Keep h0 h30 [] := K29.wr W30 (Or.inr sz_b)
      have N30 := Fr.snoc X30 NN29 g_b
      refine Go.pre st30 ?_
      obtain ⟨LL30, XX30, NN30⟩ := own_abs X30 N30
      show Go p e below _ (T30.setTop (mkF m 205 #[iv p0, iv p1, iv p2, iv p3, iv p4, iv (p0 &&& (3 : Int32)), iv (Int32.ofNat cu), iv (own_sb cu), iv (p1 &&& (2147483647 : Int32)), .unset, .unset, .unset] [(.ref b)]))
      refine Go.pre (fun _ k => XS.dup XX30.here hx rfl (hb hby at_205) rfl rfl k) ?_
      show Go p e below _ (T30.setTop (mkF m 206 #[iv p0, iv p1, iv p2, iv p3, iv p4, iv (p0 &&& (3 : Int32)), iv (Int32.ofNat cu), iv (own_sb cu), iv (p1 &&& (2147483647 : Int32)), .unset, .unset, .unset] [(.ref b), (.ref b)]))
      refine Go.pre (fun _ k => XS.bipush XX30.here hx rfl (hb hby at_206) k) ?_
      show Go p e below _ (T30.setTop (mkF m 208 #[iv p0, iv p1, iv p2, iv p3, iv p4, iv (p0 &&& (3 : Int32)), iv (Int32.ofNat cu), iv (own_sb cu), iv (p1 &&& (2147483647 : Int32)), .unset, .unset, .unset] [(.int (7 : Int32)), (.ref b), (.ref b)]))
      refine Go.pre (fun _ k => XS.bipush XX30.here hx rfl (hb hby at_208) k) ?_
      show Go p e below _ (T30.setTop (mkF m 210 #[iv p0, iv p1, iv p2, iv p3, iv p4, iv (p0 &&& (3 : Int32)), iv (Int32.ofNat cu), iv (own_sb cu), iv (p1 &&& (2147483647 : Int32)), .unset, .unset, .unset] [(.int (70 : Int32)), (.int (7 : Int32)), (.ref b), (.ref b)]))
      obtain ⟨T31, h31, X31, e31, W31, V31, st31⟩ := own_putB XX30 hx hZ e30 V30 (j := (7 : Int32)) (by decide) 7 rfl (Nat.le_of_ble_eq_true rfl) (g := (mkF m 210 #[iv p0, iv p1, iv p2, iv p3, iv p4, iv (p0 &&& (3 : Int32)), iv (Int32.ofNat cu), iv (own_sb cu), iv (p1 &&& (2147483647 : Int32)), .unset, .unset, .unset] [(.int (70 : Int32)), (.int (7 : Int32)), (.ref b), (.ref b)])) rfl rfl (hb hby at_210)
      have V31 : Arv Z h31 b k23 .byte 17 [.int (nar .byte (p3.toInt8.toInt32)), own_vl 106, own_vl 98, own_vl 114, own_vl 58, own_vl 37, own_vl 52, own_vl 70, .int 0, .int 0, .int 0, .int 0, .int 0, .int 0, .int 0, .int 0, .int 0] (.int 0) := V31
      have K31 : Keep h0 h31 [] := K30.wr W31 (Or.inr sz_b)
      have N31 := Fr.snoc X31 NN30 g_b
      refine Go.pre st31 ?_
      obtain ⟨LL31, XX31, NN31⟩ := own_abs X31 N31
      show Go p e below _ (T31.setTop (mkF m 211 #[iv p0, iv p1, iv p2, iv p3, iv p4, iv (p0 &&& (3 : Int32)), iv (Int32.ofNat cu), iv (own_sb cu), iv (p1 &&& (2147483647 : Int32)), .unset, .unset, .unset] [(.ref b)]))
      refine Go.pre (fun _ k => XS.dup XX31.here hx rfl (hb hby at_211) rfl rfl k) ?_
      show Go p e below _ (T31.setTop (mkF m 212 #[iv p0, iv p1, iv p2, iv p3, iv p4, iv (p0 &&& (3 : Int32)), iv (Int32.ofNat cu), iv (own_sb cu), iv (p1 &&& (2147483647 : Int32)), .unset, .unset, .unset] [(.ref b), (.ref b)]))
      refine Go.pre (fun _ k => XS.bipush XX31.here hx rfl (hb hby at_212) k) ?_
      show Go p e below _ (T31.setTop (mkF m 214 #[iv p0, iv p1, iv p2, iv p3, iv p4, iv (p0 &&& (3 : Int32)), iv (Int32.ofNat cu), iv (own_sb cu), iv (p1 &&& (2147483647 : Int32)), .unset, .unset, .unset] [(.int (8 : Int32)), (.ref b), (.ref b)]))
      refine Go.pre (fun _ k => XS.bipush XX31.here hx rfl (hb hby at_214) k) ?_
      show Go p e below _ (T31.setTop (mkF m 216 #[iv p0, iv p1, iv p2, iv p3, iv p4, iv (p0 &&& (3 : Int32)), iv (Int32.ofNat cu), iv (own_sb cu), iv (p1 &&& (2147483647 : Int32)), .unset, .unset, .unset] [(.int (63 : Int32)), (.int (8 : Int32)), (.ref b), (.ref b)]))
      obtain ⟨T32, h32, X32, e32, W32, V32, st32⟩ := own_putB XX31 hx hZ e31 V31 (j := (8 : Int32)) (by decide) 8 rfl (Nat.le_of_ble_eq_true rfl) (g := (mkF m 216 #[iv p0, iv p1, iv p2, iv p3, iv p4, iv (p0 &&& (3 : Int32)), iv (Int32.ofNat cu), iv (own_sb cu), iv (p1 &&& (2147483647 : Int32)), .unset, .unset, .unset] [(.int (63 : Int32)), (.int (8 : Int32)), (.ref b), (.ref b)])) rfl rfl (hb hby at_216)
      have V32 : Arv Z h32 b k23 .byte 17 [.int (nar .byte (p3.toInt8.toInt32)), own_vl 106, own_vl 98, own_vl 114, own_vl 58, own_vl 37, own_vl 52, own_vl 70, own_vl 63, .int 0, .int 0, .int 0, .int 0, .int 0, .int 0, .int 0, .int 0] (.int 0) := V32
      have K32 : Keep h0 h32 [] := K31.wr W32 (Or.inr sz_b)
      have N32 := Fr.snoc X32 NN31 g_b
      refine Go.pre st32 ?_
      obtain ⟨LL32, XX32, NN32⟩ := own_abs X32 N32
      show Go p e below _ (T32.setTop (mkF m 217 #[iv p0, iv p1, iv p2, iv p3, iv p4, iv (p0 &&& (3 : Int32)), iv (Int32.ofNat cu), iv (own_sb cu), iv (p1 &&& (2147483647 : Int32)), .unset, .unset, .unset] [(.ref b)]))
      refine Go.pre (fun _ k => XS.dup XX32.here hx rfl (hb hby at_217) rfl rfl k) ?_
      show Go p e below _ (T32.setTop (mkF m 218 #[iv p0, iv p1, iv p2, iv p3, iv p4, iv (p0 &&& (3 : Int32)), iv (Int32.ofNat cu), iv (own_sb cu), iv (p1 &&& (2147483647 : Int32)), .unset, .unset, .unset] [(.ref b), (.ref b)]))
      refine Go.pre (fun _ k => XS.bipush XX32.here hx rfl (hb hby at_218) k) ?_
      show Go p e below _ (T32.setTop (mkF m 220 #[iv p0, iv p1, iv p2, iv p3, iv p4, iv (p0 &&& (3 : Int32)), iv (Int32.ofNat cu), iv (own_sb cu), iv (p1 &&& (2147483647 : Int32)), .unset, .unset, .unset] [(.int (9 : Int32)), (.ref b), (.ref b)]))
      refine Go.pre (fun _ k => XS.bipush XX32.here hx rfl (hb hby at_220) k) ?_
      show Go p e below _ (T32.setTop (mkF m 222 #[iv p0, iv p1, iv p2, iv p3, iv p4, iv (p0 &&& (3 : Int32)), iv (Int32.ofNat cu), iv (own_sb cu), iv (p1 &&& (2147483647 : Int32)), .unset, .unset, .unset] [(.int (37 : Int32)), (.int (9 : Int32)), (.ref b), (.ref b)]))
      obtain ⟨T33, h33, X33, e33, W33, V33, st33⟩ := own_putB XX32 hx hZ e32 V32 (j := (9 : Int32)) (by decide) 9 rfl (Nat.le_of_ble_eq_true rfl) (g := (mkF m 222 #[iv p0, iv p1, iv p2, iv p3, iv p4, iv (p0 &&& (3 : Int32)), iv (Int32.ofNat cu), iv (own_sb cu), iv (p1 &&& (2147483647 : Int32)), .unset, .unset, .unset] [(.int (37 : Int32)), (.int (9 : Int32)), (.ref b), (.ref b)])) rfl rfl (hb hby at_222)
      have V33 : Arv Z h33 b k23 .byte 17 [.int (nar .byte (p3.toInt8.toInt32)), own_vl 106, own_vl 98, own_vl 114, own_vl 58, own_vl 37, own_vl 52, own_vl 70, own_vl 63, own_vl 37, .int 0, .int 0, .int 0, .int 0, .int 0, .int 0, .int 0] (.int 0) := V33
      have K33 : Keep h0 h33 [] := K32.wr W33 (Or.inr sz_b)
      have N33 := Fr.snoc X33 NN32 g_b
      refine Go.pre st33 ?_
      obtain ⟨LL33, XX33, NN33⟩ := own_abs X33 N33
      show Go p e below _ (T33.setTop (mkF m 223 #[iv p0, iv p1, iv p2, iv p3, iv p4, iv (p0 &&& (3 : Int32)), iv (Int32.ofNat cu), iv (own_sb cu), iv (p1 &&& (2147483647 : Int32)), .unset, .unset, .unset] [(.ref b)]))
      refine Go.pre (fun _ k => XS.dup XX33.here hx rfl (hb hby at_223) rfl rfl k) ?_
      show Go p e below _ (T33.setTop (mkF m 224 #[iv p0, iv p1, iv p2, iv p3, iv p4, iv (p0 &&& (3 : Int32)), iv (Int32.ofNat cu), iv (own_sb cu), iv (p1 &&& (2147483647 : Int32)), .unset, .unset, .unset] [(.ref b), (.ref b)]))
      refine Go.pre (fun _ k => XS.bipush XX33.here hx rfl (hb hby at_224) k) ?_
      show Go p e below _ (T33.setTop (mkF m 226 #[iv p0, iv p1, iv p2, iv p3, iv p4, iv (p0 &&& (3 : Int32)), iv (Int32.ofNat cu), iv (own_sb cu), iv (p1 &&& (2147483647 : Int32)), .unset, .unset, .unset] [(.int (10 : Int32)), (.ref b), (.ref b)]))
      refine Go.pre (fun _ k => XS.bipush XX33.here hx rfl (hb hby at_226) k) ?_
      show Go p e below _ (T33.setTop (mkF m 228 #[iv p0, iv p1, iv p2, iv p3, iv p4, iv (p0 &&& (3 : Int32)), iv (Int32.ofNat cu), iv (own_sb cu), iv (p1 &&& (2147483647 : Int32)), .unset, .unset, .unset] [(.int (97 : Int32)), (.int (10 : Int32)), (.ref b), (.ref b)]))
      obtain ⟨T34, h34, X34, e34, W34, V34, st34⟩ := own_putB XX33 hx hZ e33 V33 (j := (10 : Int32)) (by decide) 10 rfl (Nat.le_of_ble_eq_true rfl) (g := (mkF m 228 #[iv p0, iv p1, iv p2, iv p3, iv p4, iv (p0 &&& (3 : Int32)), iv (Int32.ofNat cu), iv (own_sb cu), iv (p1 &&& (2147483647 : Int32)), .unset, .unset, .unset] [(.int (97 : Int32)), (.int (10 : Int32)), (.ref b), (.ref b)])) rfl rfl (hb hby at_228)
      have V34 : Arv Z h34 b k23 .byte 17 [.int (nar .byte (p3.toInt8.toInt32)), own_vl 106, own_vl 98, own_vl 114, own_vl 58, own_vl 37, own_vl 52, own_vl 70, own_vl 63, own_vl 37, own_vl 97, .int 0, .int 0, .int 0, .int 0, .int 0, .int 0] (.int 0) := V34
      have K34 : Keep h0 h34 [] := K33.wr W34 (Or.inr sz_b)
      have N34 := Fr.snoc X34 NN33 g_b
      refine Go.pre st34 ?_
      obtain ⟨LL34, XX34, NN34⟩ := own_abs X34 N34
      show Go p e below _ (T34.setTop (mkF m 229 #[iv p0, iv p1, iv p2, iv p3, iv p4, iv (p0 &&& (3 : Int32)), iv (Int32.ofNat cu), iv (own_sb cu), iv (p1 &&& (2147483647 : Int32)), .unset, .unset, .unset] [(.ref b)]))
      refine Go.pre (fun _ k => XS.dup XX34.here hx rfl (hb hby at_229) rfl rfl k) ?_
      show Go p e below _ (T34.setTop (mkF m 230 #[iv p0, iv p1, iv p2, iv p3, iv p4, iv (p0 &&& (3 : Int32)), iv (Int32.ofNat cu), iv (own_sb cu), iv (p1 &&& (2147483647 : Int32)), .unset, .unset, .unset] [(.ref b), (.ref b)]))
      refine Go.pre (fun _ k => XS.bipush XX34.here hx rfl (hb hby at_230) k) ?_
      show Go p e below _ (T34.setTop (mkF m 232 #[iv p0, iv p1, iv p2, iv p3, iv p4, iv (p0 &&& (3 : Int32)), iv (Int32.ofNat cu), iv (own_sb cu), iv (p1 &&& (2147483647 : Int32)), .unset, .unset, .unset] [(.int (11 : Int32)), (.ref b), (.ref b)]))
      refine Go.pre (fun _ k => XS.bipush XX34.here hx rfl (hb hby at_232) k) ?_
      show Go p e below _ (T34.setTop (mkF m 234 #[iv p0, iv p1, iv p2, iv p3, iv p4, iv (p0 &&& (3 : Int32)), iv (Int32.ofNat cu), iv (own_sb cu), iv (p1 &&& (2147483647 : Int32)), .unset, .unset, .unset] [(.int (48 : Int32)), (.int (11 : Int32)), (.ref b), (.ref b)]))
      obtain ⟨T35, h35, X35, e35, W35, V35, st35⟩ := own_putB XX34 hx hZ e34 V34 (j := (11 : Int32)) (by decide) 11 rfl (Nat.le_of_ble_eq_true rfl) (g := (mkF m 234 #[iv p0, iv p1, iv p2, iv p3, iv p4, iv (p0 &&& (3 : Int32)), iv (Int32.ofNat cu), iv (own_sb cu), iv (p1 &&& (2147483647 : Int32)), .unset, .unset, .unset] [(.int (48 : Int32)), (.int (11 : Int32)), (.ref b), (.ref b)])) rfl rfl (hb hby at_234)
      have V35 : Arv Z h35 b k23 .byte 17 [.int (nar .byte (p3.toInt8.toInt32)), own_vl 106, own_vl 98, own_vl 114, own_vl 58, own_vl 37, own_vl 52, own_vl 70, own_vl 63, own_vl 37, own_vl 97, own_vl 48, .int 0, .int 0, .int 0, .int 0, .int 0] (.int 0) := V35
      have K35 : Keep h0 h35 [] := K34.wr W35 (Or.inr sz_b)
      have N35 := Fr.snoc X35 NN34 g_b
      refine Go.pre st35 ?_
      obtain ⟨LL35, XX35, NN35⟩ := own_abs X35 N35
      show Go p e below _ (T35.setTop (mkF m 235 #[iv p0, iv p1, iv p2, iv p3, iv p4, iv (p0 &&& (3 : Int32)), iv (Int32.ofNat cu), iv (own_sb cu), iv (p1 &&& (2147483647 : Int32)), .unset, .unset, .unset] [(.ref b)]))
      refine Go.pre (fun _ k => XS.dup XX35.here hx rfl (hb hby at_235) rfl rfl k) ?_
      show Go p e below _ (T35.setTop (mkF m 236 #[iv p0, iv p1, iv p2, iv p3, iv p4, iv (p0 &&& (3 : Int32)), iv (Int32.ofNat cu), iv (own_sb cu), iv (p1 &&& (2147483647 : Int32)), .unset, .unset, .unset] [(.ref b), (.ref b)]))
      refine Go.pre (fun _ k => XS.bipush XX35.here hx rfl (hb hby at_236) k) ?_
      show Go p e below _ (T35.setTop (mkF m 238 #[iv p0, iv p1, iv p2, iv p3, iv p4, iv (p0 &&& (3 : Int32)), iv (Int32.ofNat cu), iv (own_sb cu), iv (p1 &&& (2147483647 : Int32)), .unset, .unset, .unset] [(.int (12 : Int32)), (.ref b), (.ref b)]))
      refine Go.pre (fun _ k => XS.bipush XX35.here hx rfl (hb hby at_238) k) ?_
      show Go p e below _ (T35.setTop (mkF m 240 #[iv p0, iv p1, iv p2, iv p3, iv p4, iv (p0 &&& (3 : Int32)), iv (Int32.ofNat cu), iv (own_sb cu), iv (p1 &&& (2147483647 : Int32)), .unset, .unset, .unset] [(.int (35 : Int32)), (.int (12 : Int32)), (.ref b), (.ref b)]))
      obtain ⟨T36, h36, X36, e36, W36, V36, st36⟩ := own_putB XX35 hx hZ e35 V35 (j := (12 : Int32)) (by decide) 12 rfl (Nat.le_of_ble_eq_true rfl) (g := (mkF m 240 #[iv p0, iv p1, iv p2, iv p3, iv p4, iv (p0 &&& (3 : Int32)), iv (Int32.ofNat cu), iv (own_sb cu), iv (p1 &&& (2147483647 : Int32)), .unset, .unset, .unset] [(.int (35 : Int32)), (.int (12 : Int32)), (.ref b), (.ref b)])) rfl rfl (hb hby at_240)
      have V36 : Arv Z h36 b k23 .byte 17 [.int (nar .byte (p3.toInt8.toInt32)), own_vl 106, own_vl 98, own_vl 114, own_vl 58, own_vl 37, own_vl 52, own_vl 70, own_vl 63, own_vl 37, own_vl 97, own_vl 48, own_vl 35, .int 0, .int 0, .int 0, .int 0] (.int 0) := V36
      have K36 : Keep h0 h36 [] := K35.wr W36 (Or.inr sz_b)
      have N36 := Fr.snoc X36 NN35 g_b
      refine Go.pre st36 ?_
      obtain ⟨LL36, XX36, NN36⟩ := own_abs X36 N36
      show Go p e below _ (T36.setTop (mkF m 241 #[iv p0, iv p1, iv p2, iv p3, iv p4, iv (p0 &&& (3 : Int32)), iv (Int32.ofNat cu), iv (own_sb cu), iv (p1 &&& (2147483647 : Int32)), .unset, .unset, .unset] [(.ref b)]))
      refine Go.pre (fun _ k => XS.dup XX36.here hx rfl (hb hby at_241) rfl rfl k) ?_
      show Go p e below _ (T36.setTop (mkF m 242 #[iv p0, iv p1, iv p2, iv p3, iv p4, iv (p0 &&& (3 : Int32)), iv (Int32.ofNat cu), iv (own_sb cu), iv (p1 &&& (2147483647 : Int32)), .unset, .unset, .unset] [(.ref b), (.ref b)]))
      refine Go.pre (fun _ k => XS.bipush XX36.here hx rfl (hb hby at_242) k) ?_
      show Go p e below _ (T36.setTop (mkF m 244 #[iv p0, iv p1, iv p2, iv p3, iv p4, iv (p0 &&& (3 : Int32)), iv (Int32.ofNat cu), iv (own_sb cu), iv (p1 &&& (2147483647 : Int32)), .unset, .unset, .unset] [(.int (13 : Int32)), (.ref b), (.ref b)]))
      refine Go.pre (fun _ k => XS.bipush XX36.here hx rfl (hb hby at_244) k) ?_
      show Go p e below _ (T36.setTop (mkF m 246 #[iv p0, iv p1, iv p2, iv p3, iv p4, iv (p0 &&& (3 : Int32)), iv (Int32.ofNat cu), iv (own_sb cu), iv (p1 &&& (2147483647 : Int32)), .unset, .unset, .unset] [(.int (37 : Int32)), (.int (13 : Int32)), (.ref b), (.ref b)]))
      obtain ⟨T37, h37, X37, e37, W37, V37, st37⟩ := own_putB XX36 hx hZ e36 V36 (j := (13 : Int32)) (by decide) 13 rfl (Nat.le_of_ble_eq_true rfl) (g := (mkF m 246 #[iv p0, iv p1, iv p2, iv p3, iv p4, iv (p0 &&& (3 : Int32)), iv (Int32.ofNat cu), iv (own_sb cu), iv (p1 &&& (2147483647 : Int32)), .unset, .unset, .unset] [(.int (37 : Int32)), (.int (13 : Int32)), (.ref b), (.ref b)])) rfl rfl (hb hby at_246)
      have V37 : Arv Z h37 b k23 .byte 17 [.int (nar .byte (p3.toInt8.toInt32)), own_vl 106, own_vl 98, own_vl 114, own_vl 58, own_vl 37, own_vl 52, own_vl 70, own_vl 63, own_vl 37, own_vl 97, own_vl 48, own_vl 35, own_vl 37, .int 0, .int 0, .int 0] (.int 0) := V37
      have K37 : Keep h0 h37 [] := K36.wr W37 (Or.inr sz_b)
      have N37 := Fr.snoc X37 NN36 g_b
      refine Go.pre st37 ?_
      obtain ⟨LL37, XX37, NN37⟩ := own_abs X37 N37
      show Go p e below _ (T37.setTop (mkF m 247 #[iv p0, iv p1, iv p2, iv p3, iv p4, iv (p0 &&& (3 : Int32)), iv (Int32.ofNat cu), iv (own_sb cu), iv (p1 &&& (2147483647 : Int32)), .unset, .unset, .unset] [(.ref b)]))
      refine Go.pre (fun _ k => XS.dup XX37.here hx rfl (hb hby at_247) rfl rfl k) ?_
      show Go p e below _ (T37.setTop (mkF m 248 #[iv p0, iv p1, iv p2, iv p3, iv p4, iv (p0 &&& (3 : Int32)), iv (Int32.ofNat cu), iv (own_sb cu), iv (p1 &&& (2147483647 : Int32)), .unset, .unset, .unset] [(.ref b), (.ref b)]))
      refine Go.pre (fun _ k => XS.bipush XX37.here hx rfl (hb hby at_248) k) ?_
      show Go p e below _ (T37.setTop (mkF m 250 #[iv p0, iv p1, iv p2, iv p3, iv p4, iv (p0 &&& (3 : Int32)), iv (Int32.ofNat cu), iv (own_sb cu), iv (p1 &&& (2147483647 : Int32)), .unset, .unset, .unset] [(.int (14 : Int32)), (.ref b), (.ref b)]))
      refine Go.pre (fun _ k => XS.bipush XX37.here hx rfl (hb hby at_250) k) ?_
      show Go p e below _ (T37.setTop (mkF m 252 #[iv p0, iv p1, iv p2, iv p3, iv p4, iv (p0 &&& (3 : Int32)), iv (Int32.ofNat cu), iv (own_sb cu), iv (p1 &&& (2147483647 : Int32)), .unset, .unset, .unset] [(.int (55 : Int32)), (.int (14 : Int32)), (.ref b), (.ref b)]))
      obtain ⟨T38, h38, X38, e38, W38, V38, st38⟩ := own_putB XX37 hx hZ e37 V37 (j := (14 : Int32)) (by decide) 14 rfl (Nat.le_of_ble_eq_true rfl) (g := (mkF m 252 #[iv p0, iv p1, iv p2, iv p3, iv p4, iv (p0 &&& (3 : Int32)), iv (Int32.ofNat cu), iv (own_sb cu), iv (p1 &&& (2147483647 : Int32)), .unset, .unset, .unset] [(.int (55 : Int32)), (.int (14 : Int32)), (.ref b), (.ref b)])) rfl rfl (hb hby at_252)
      have V38 : Arv Z h38 b k23 .byte 17 [.int (nar .byte (p3.toInt8.toInt32)), own_vl 106, own_vl 98, own_vl 114, own_vl 58, own_vl 37, own_vl 52, own_vl 70, own_vl 63, own_vl 37, own_vl 97, own_vl 48, own_vl 35, own_vl 37, own_vl 55, .int 0, .int 0] (.int 0) := V38
      have K38 : Keep h0 h38 [] := K37.wr W38 (Or.inr sz_b)
      have N38 := Fr.snoc X38 NN37 g_b
      refine Go.pre st38 ?_
      obtain ⟨LL38, XX38, NN38⟩ := own_abs X38 N38
      show Go p e below _ (T38.setTop (mkF m 253 #[iv p0, iv p1, iv p2, iv p3, iv p4, iv (p0 &&& (3 : Int32)), iv (Int32.ofNat cu), iv (own_sb cu), iv (p1 &&& (2147483647 : Int32)), .unset, .unset, .unset] [(.ref b)]))
      refine Go.pre (fun _ k => XS.dup XX38.here hx rfl (hb hby at_253) rfl rfl k) ?_
      show Go p e below _ (T38.setTop (mkF m 254 #[iv p0, iv p1, iv p2, iv p3, iv p4, iv (p0 &&& (3 : Int32)), iv (Int32.ofNat cu), iv (own_sb cu), iv (p1 &&& (2147483647 : Int32)), .unset, .unset, .unset] [(.ref b), (.ref b)]))
      refine Go.pre (fun _ k => XS.bipush XX38.here hx rfl (hb hby at_254) k) ?_
      show Go p e below _ (T38.setTop (mkF m 256 #[iv p0, iv p1, iv p2, iv p3, iv p4, iv (p0 &&& (3 : Int32)), iv (Int32.ofNat cu), iv (own_sb cu), iv (p1 &&& (2147483647 : Int32)), .unset, .unset, .unset] [(.int (15 : Int32)), (.ref b), (.ref b)]))
      refine Go.pre (fun _ k => XS.bipush XX38.here hx rfl (hb hby at_256) k) ?_
      show Go p e below _ (T38.setTop (mkF m 258 #[iv p0, iv p1, iv p2, iv p3, iv p4, iv (p0 &&& (3 : Int32)), iv (Int32.ofNat cu), iv (own_sb cu), iv (p1 &&& (2147483647 : Int32)), .unset, .unset, .unset] [(.int (101 : Int32)), (.int (15 : Int32)), (.ref b), (.ref b)]))
      obtain ⟨T39, h39, X39, e39, W39, V39, st39⟩ := own_putB XX38 hx hZ e38 V38 (j := (15 : Int32)) (by decide) 15 rfl (Nat.le_of_ble_eq_true rfl) (g := (mkF m 258 #[iv p0, iv p1, iv p2, iv p3, iv p4, iv (p0 &&& (3 : Int32)), iv (Int32.ofNat cu), iv (own_sb cu), iv (p1 &&& (2147483647 : Int32)), .unset, .unset, .unset] [(.int (101 : Int32)), (.int (15 : Int32)), (.ref b), (.ref b)])) rfl rfl (hb hby at_258)
      have V39 : Arv Z h39 b k23 .byte 17 [.int (nar .byte (p3.toInt8.toInt32)), own_vl 106, own_vl 98, own_vl 114, own_vl 58, own_vl 37, own_vl 52, own_vl 70, own_vl 63, own_vl 37, own_vl 97, own_vl 48, own_vl 35, own_vl 37, own_vl 55, own_vl 101, .int 0] (.int 0) := V39
      have K39 : Keep h0 h39 [] := K38.wr W39 (Or.inr sz_b)
      have N39 := Fr.snoc X39 NN38 g_b
      refine Go.pre st39 ?_
      obtain ⟨LL39, XX39, NN39⟩ := own_abs X39 N39
      show Go p e below _ (T39.setTop (mkF m 259 #[iv p0, iv p1, iv p2, iv p3, iv p4, iv (p0 &&& (3 : Int32)), iv (Int32.ofNat cu), iv (own_sb cu), iv (p1 &&& (2147483647 : Int32)), .unset, .unset, .unset] [(.ref b)]))
      refine Go.pre (fun _ k => XS.dup XX39.here hx rfl (hb hby at_259) rfl rfl k) ?_
      show Go p e below _ (T39.setTop (mkF m 260 #[iv p0, iv p1, iv p2, iv p3, iv p4, iv (p0 &&& (3 : Int32)), iv (Int32.ofNat cu), iv (own_sb cu), iv (p1 &&& (2147483647 : Int32)), .unset, .unset, .unset] [(.ref b), (.ref b)]))
      refine Go.pre (fun _ k => XS.bipush XX39.here hx rfl (hb hby at_260) k) ?_
      show Go p e below _ (T39.setTop (mkF m 262 #[iv p0, iv p1, iv p2, iv p3, iv p4, iv (p0 &&& (3 : Int32)), iv (Int32.ofNat cu), iv (own_sb cu), iv (p1 &&& (2147483647 : Int32)), .unset, .unset, .unset] [(.int (16 : Int32)), (.ref b), (.ref b)]))
      refine Go.pre (fun _ k => XS.iload XX39.here hx rfl (hb hby at_262) rfl k) ?_
      show Go p e below _ (T39.setTop (mkF m 264 #[iv p0, iv p1, iv p2, iv p3, iv p4, iv (p0 &&& (3 : Int32)), iv (Int32.ofNat cu), iv (own_sb cu), iv (p1 &&& (2147483647 : Int32)), .unset, .unset, .unset] [(.int p4), (.int (16 : Int32)), (.ref b), (.ref b)]))
      refine Go.pre (fun _ k => XS.i2b XX39.here hx rfl (hb hby at_264) rfl k) ?_
      show Go p e below _ (T39.setTop (mkF m 265 #[iv p0, iv p1, iv p2, iv p3, iv p4, iv (p0 &&& (3 : Int32)), iv (Int32.ofNat cu), iv (own_sb cu), iv (p1 &&& (2147483647 : Int32)), .unset, .unset, .unset] [(.int (p4.toInt8.toInt32)), (.int (16 : Int32)), (.ref b), (.ref b)]))
      obtain ⟨T40, h40, X40, e40, W40, V40, st40⟩ := own_putB XX39 hx hZ e39 V39 (j := (16 : Int32)) (by decide) 16 rfl (Nat.le_of_ble_eq_true rfl) (g := (mkF m 265 #[iv p0, iv p1, iv p2, iv p3, iv p4, iv (p0 &&& (3 : Int32)), iv (Int32.ofNat cu), iv (own_sb cu), iv (p1 &&& (2147483647 : Int32)), .unset, .unset, .unset] [(.int (p4.toInt8.toInt32)), (.int (16 : Int32)), (.ref b), (.ref b)])) rfl rfl (hb hby at_265)
      have V40 : Arv Z h40 b k23 .byte 17 [.int (nar .byte (p3.toInt8.toInt32)), own_vl 106, own_vl 98, own_vl 114, own_vl 58, own_vl 37, own_vl 52, own_vl 70, own_vl 63, own_vl 37, own_vl 97, own_vl 48, own_vl 35, own_vl 37, own_vl 55, own_vl 101, .int (nar .byte (p4.toInt8.toInt32))] (.int 0) := V40
      have K40 : Keep h0 h40 [] := K39.wr W40 (Or.inr sz_b)
      have N40 := Fr.snoc X40 NN39 g_b
      refine Go.pre st40 ?_
      obtain ⟨LL40, XX40, NN40⟩ := own_abs X40 N40
      show Go p e below _ (T40.setTop (mkF m 266 #[iv p0, iv p1, iv p2, iv p3, iv p4, iv (p0 &&& (3 : Int32)), iv (Int32.ofNat cu), iv (own_sb cu), iv (p1 &&& (2147483647 : Int32)), .unset, .unset, .unset] [(.ref b)]))
      refine Go.pre (fun _ k => XS.astore XX40.here hx rfl (hb hby at_266) rfl rfl (l' := #[iv p0, iv p1, iv p2, iv p3, iv p4, iv (p0 &&& (3 : Int32)), iv (Int32.ofNat cu), iv (own_sb cu), iv (p1 &&& (2147483647 : Int32)), rv b, .unset, .unset]) rfl k) ?_
      show Go p e below _ (T40.setTop (mkF m 268 #[iv p0, iv p1, iv p2, iv p3, iv p4, iv (p0 &&& (3 : Int32)), iv (Int32.ofNat cu), iv (own_sb cu), iv (p1 &&& (2147483647 : Int32)), rv b, .unset, .unset] []))
      refine Go.pre (fun _ k => XS.iload XX40.here hx rfl (hb hby at_268) rfl k) ?_
      show Go p e below _ (T40.setTop (mkF m 270 #[iv p0, iv p1, iv p2, iv p3, iv p4, iv (p0 &&& (3 : Int32)), iv (Int32.ofNat cu), iv (own_sb cu), iv (p1 &&& (2147483647 : Int32)), rv b, .unset, .unset] [(.int (p1 &&& (2147483647 : Int32)))]))
      refine Go.pre (fun _ k => XS.bipush XX40.here hx rfl (hb hby at_270) k) ?_
      show Go p e below _ (T40.setTop (mkF m 272 #[iv p0, iv p1, iv p2, iv p3, iv p4, iv (p0 &&& (3 : Int32)), iv (Int32.ofNat cu), iv (own_sb cu), iv (p1 &&& (2147483647 : Int32)), rv b, .unset, .unset] [(.int (15 : Int32)), (.int (p1 &&& (2147483647 : Int32)))]))
      refine Go.pre (fun _ k => XS.irem XX40.here hx rfl (hb hby at_272) rfl (by decide) k) ?_
      show Go p e below _ (T40.setTop (mkF m 273 #[iv p0, iv p1, iv p2, iv p3, iv p4, iv (p0 &&& (3 : Int32)), iv (Int32.ofNat cu), iv (own_sb cu), iv (p1 &&& (2147483647 : Int32)), rv b, .unset, .unset] [(.int ((p1 &&& (2147483647 : Int32)) - (p1 &&& (2147483647 : Int32)) / (15 : Int32) * (15 : Int32)))]))
      obtain ⟨ku, hku, ek⟩ := own_rem15 p1
      rw [ek]
      show Go p e below _ (T40.setTop (mkF m 273 #[iv p0, iv p1, iv p2, iv p3, iv p4, iv (p0 &&& (3 : Int32)), iv (Int32.ofNat cu), iv (own_sb cu), iv (p1 &&& (2147483647 : Int32)), rv b, .unset, .unset] [(.int (Int32.ofNat ku))]))
      refine Go.pre (fun _ k => XS.istore XX40.here hx rfl (hb hby at_273) rfl (l' := #[iv p0, iv p1, iv p2, iv p3, iv p4, iv (p0 &&& (3 : Int32)), iv (Int32.ofNat cu), iv (own_sb cu), iv (p1 &&& (2147483647 : Int32)), rv b, iv (Int32.ofNat ku), .unset]) rfl k) ?_
      show Go p e below _ (T40.setTop (mkF m 275 #[iv p0, iv p1, iv p2, iv p3, iv p4, iv (p0 &&& (3 : Int32)), iv (Int32.ofNat cu), iv (own_sb cu), iv (p1 &&& (2147483647 : Int32)), rv b, iv (Int32.ofNat ku), .unset] []))
      refine Go.pre (fun _ k => XS.aload XX40.here hx rfl (hb hby at_275) rfl rfl k) ?_
      show Go p e below _ (T40.setTop (mkF m 277 #[iv p0, iv p1, iv p2, iv p3, iv p4, iv (p0 &&& (3 : Int32)), iv (Int32.ofNat cu), iv (own_sb cu), iv (p1 &&& (2147483647 : Int32)), rv b, iv (Int32.ofNat ku), .unset] [(.ref b)]))
      refine Go.pre (fun _ k => XS.iconst XX40.here hx rfl (hb hby at_277) k) ?_
      show Go p e below _ (T40.setTop (mkF m 278 #[iv p0, iv p1, iv p2, iv p3, iv p4, iv (p0 &&& (3 : Int32)), iv (Int32.ofNat cu), iv (own_sb cu), iv (p1 &&& (2147483647 : Int32)), rv b, iv (Int32.ofNat ku), .unset] [(.int (1 : Int32)), (.ref b)]))
      refine Go.pre (fun _ k => XS.iload XX40.here hx rfl (hb hby at_278) rfl k) ?_
      show Go p e below _ (T40.setTop (mkF m 280 #[iv p0, iv p1, iv p2, iv p3, iv p4, iv (p0 &&& (3 : Int32)), iv (Int32.ofNat cu), iv (own_sb cu), iv (p1 &&& (2147483647 : Int32)), rv b, iv (Int32.ofNat ku), .unset] [(.int (Int32.ofNat ku)), (.int (1 : Int32)), (.ref b)]))
      refine Go.pre (fun _ k => XS.iadd XX40.here hx rfl (hb hby at_280) rfl k) ?_
      show Go p e below _ (T40.setTop (mkF m 281 #[iv p0, iv p1, iv p2, iv p3, iv p4, iv (p0 &&& (3 : Int32)), iv (Int32.ofNat cu), iv (own_sb cu), iv (p1 &&& (2147483647 : Int32)), rv b, iv (Int32.ofNat ku), .unset] [(.int ((Int32.ofNat 1) + (Int32.ofNat ku))), (.ref b)]))
      rw [own_oadd]
      show Go p e below _ (T40.setTop (mkF m 281 #[iv p0, iv p1, iv p2, iv p3, iv p4, iv (p0 &&& (3 : Int32)), iv (Int32.ofNat cu), iv (own_sb cu), iv (p1 &&& (2147483647 : Int32)), rv b, iv (Int32.ofNat ku), .unset] [(.int (Int32.ofNat (1 + ku))), (.ref b)]))
      refine Go.pre (fun _ k => XS.iload XX40.here hx rfl (hb hby at_281) rfl k) ?_
      show Go p e below _ (T40.setTop (mkF m 283 #[iv p0, iv p1, iv p2, iv p3, iv p4, iv (p0 &&& (3 : Int32)), iv (Int32.ofNat cu), iv (own_sb cu), iv (p1 &&& (2147483647 : Int32)), rv b, iv (Int32.ofNat ku), .unset] [(.int (own_sb cu)), (.int (Int32.ofNat (1 + ku))), (.ref b)]))
      have V41t : Arv Z h40 b k23 .byte 17 ((.int (nar .byte (p3.toInt8.toInt32))) :: (own_tB.map own_vl ++ [.int (nar .byte (p4.toInt8.toInt32))])) (.int 0) := by simp only [own_tB, List.map_cons, List.map_nil, List.cons_append, List.nil_append]; exact V40
      obtain ⟨T41, h41, X41, e41, W41, V41, st41⟩ := own_putB XX40 hx hZ e40 V41t (j := (Int32.ofNat (1 + ku))) ⟨own_nn (by omega), (own_ol (b := 17) (by omega) (by omega)).mpr (by omega)⟩ (1 + ku) (own_clamp (by omega)) (by simp only [own_tB, List.length_cons, List.length_append, List.length_map, List.length_nil]; omega) (g := (mkF m 283 #[iv p0, iv p1, iv p2, iv p3, iv p4, iv (p0 &&& (3 : Int32)), iv (Int32.ofNat cu), iv (own_sb cu), iv (p1 &&& (2147483647 : Int32)), rv b, iv (Int32.ofNat ku), .unset] [(.int (own_sb cu)), (.int (Int32.ofNat (1 + ku))), (.ref b)])) rfl rfl (hb hby at_283)
      have V41 : Arv Z h41 b k23 .byte 17 (((.int (nar .byte (p3.toInt8.toInt32))) :: (own_tB.map own_vl ++ [.int (nar .byte (p4.toInt8.toInt32))])).set (1 + ku) (.int (nar .byte (own_sb cu)))) (.int 0) := V41
      have B : Byt Z h41 b (own_b (own_tB.set ku cu)) 16 := own_byt V41 (by decide) (by decide) (fun i q1 q2 => own_vs own_tB _ _ _ ku cu i q1 (by simp only [own_tB, List.length_cons, List.length_nil]; omega))
      have K41 : Keep h0 h41 [] := K40.wr W41 (Or.inr sz_b)
      have N41 := Fr.snoc X41 NN40 g_b
      refine Go.pre st41 ?_
      obtain ⟨LL41, XX41, NN41⟩ := own_abs X41 N41
      show Go p e below _ (T41.setTop (mkF m 284 #[iv p0, iv p1, iv p2, iv p3, iv p4, iv (p0 &&& (3 : Int32)), iv (Int32.ofNat cu), iv (own_sb cu), iv (p1 &&& (2147483647 : Int32)), rv b, iv (Int32.ofNat ku), .unset] []))
      refine Go.pre (fun _ k => XS.aload XX41.here hx rfl (hb hby at_284) rfl rfl k) ?_
      show Go p e below _ (T41.setTop (mkF m 286 #[iv p0, iv p1, iv p2, iv p3, iv p4, iv (p0 &&& (3 : Int32)), iv (Int32.ofNat cu), iv (own_sb cu), iv (p1 &&& (2147483647 : Int32)), rv b, iv (Int32.ofNat ku), .unset] [(.ref b)]))
      refine Go.pre (fun _ k => XS.iconst XX41.here hx rfl (hb hby at_286) k) ?_
      show Go p e below _ (T41.setTop (mkF m 287 #[iv p0, iv p1, iv p2, iv p3, iv p4, iv (p0 &&& (3 : Int32)), iv (Int32.ofNat cu), iv (own_sb cu), iv (p1 &&& (2147483647 : Int32)), rv b, iv (Int32.ofNat ku), .unset] [(.int (1 : Int32)), (.ref b)]))
      refine Go.pre (fun _ k => XS.bipush XX41.here hx rfl (hb hby at_287) k) ?_
      show Go p e below _ (T41.setTop (mkF m 289 #[iv p0, iv p1, iv p2, iv p3, iv p4, iv (p0 &&& (3 : Int32)), iv (Int32.ofNat cu), iv (own_sb cu), iv (p1 &&& (2147483647 : Int32)), rv b, iv (Int32.ofNat ku), .unset] [(.int (16 : Int32)), (.int (1 : Int32)), (.ref b)]))
      obtain ⟨_, _, ⟨T42, L42, k42, n42⟩, -, X42, ⟨Lc42, hQ42, l42, y42, z42⟩, st42⟩ := Jvm.LawKit.callS XX41 hx (y := (⟨"com/example/entayl/entayl/input/IriTable", "isPlainIri", "([BII)Z"⟩ : MethodName)) hown (mvT hZ (hw _ (List.mem_of_getElem? (i := 2) rfl))) (mvT hZ (hw _ (List.mem_of_getElem? (i := 3) rfl))) (mvT hZ (hw _ (List.mem_of_getElem? (i := 4) rfl))) (mvT hZ (hw _ (List.mem_of_getElem? (i := 5) rfl))) (by decide) (backOf (W := 0) (rm_plain l Z a0 hw [] b (own_b (own_tB.set ku cu)) 16 ck h41 n0 (Nat.le_trans Z0 K41.1) B (own_b8 own_tB ku cu (by decide) hcu) (by omega) (own_staK SK K41) (own_kdK KD K41) (by omega)) hZ (hw _ (List.mem_of_getElem? (i := 5) rfl)) (hw _ (List.mem_of_getElem? (i := 4) rfl)) (by decide) (by decide)) (g := (mkF m 289 #[iv p0, iv p1, iv p2, iv p3, iv p4, iv (p0 &&& (3 : Int32)), iv (Int32.ofNat cu), iv (own_sb cu), iv (p1 &&& (2147483647 : Int32)), rv b, iv (Int32.ofNat ku), .unset] [(.int (16 : Int32)), (.int (1 : Int32)), (.ref b)])) rfl (by rw [hml]; rfl) (argsL := [(.ref b), (.int (1 : Int32)), (.int (16 : Int32))]) (rest := []) (lenOf pd_3 rfl) rfl (by show 2 * 0 + _ ≤ _; exact Nat.le_of_eq rfl) (hb hby at_289) (fun _ _ => ⟨rfl, e41, (by decide : 1 + 0 ≤ _), (by decide : 17 + 0 ≤ _)⟩)
      dsimp only [Pt.U, Pt.locs, Pt.cells, Pt.slots] at X42 l42 y42 z42 st42 hQ42
      subst l42 y42 z42
      refine Go.pre st42 ?_
      rcases hQ42 with ⟨hp42, rfl, N42q, eh42⟩ | ⟨hp42, rfl, N42q, eh42⟩
      · skip
        have N42 := Fr.app NN41 N42q
        show Go p e below _ (T42.setTop (mkF m 292 #[iv p0, iv p1, iv p2, iv p3, iv p4, iv (p0 &&& (3 : Int32)), iv (Int32.ofNat cu), iv (own_sb cu), iv (p1 &&& (2147483647 : Int32)), rv b, iv (Int32.ofNat ku), .unset] [(.int (1 : Int32))]))
        refine Go.pre (fun _ k => XS.iload X42.here hx rfl (hb hby at_292) rfl k) ?_
        show Go p e below _ (T42.setTop (mkF m 294 #[iv p0, iv p1, iv p2, iv p3, iv p4, iv (p0 &&& (3 : Int32)), iv (Int32.ofNat cu), iv (own_sb cu), iv (p1 &&& (2147483647 : Int32)), rv b, iv (Int32.ofNat ku), .unset] [(.int (Int32.ofNat ku)), (.int (1 : Int32))]))
        refine Go.pre (fun _ k => XS.iload X42.here hx rfl (hb hby at_294) rfl k) ?_
        show Go p e below _ (T42.setTop (mkF m 296 #[iv p0, iv p1, iv p2, iv p3, iv p4, iv (p0 &&& (3 : Int32)), iv (Int32.ofNat cu), iv (own_sb cu), iv (p1 &&& (2147483647 : Int32)), rv b, iv (Int32.ofNat ku), .unset] [(.int (Int32.ofNat cu)), (.int (Int32.ofNat ku)), (.int (1 : Int32))]))
        obtain ⟨_, _, ⟨T43, L43, k43, n43⟩, -, X43, ⟨Lc43, hQ43, l43, y43, z43⟩, st43⟩ := Jvm.LawKit.callS X42 hx (y := (⟨"com/example/entayl/entayl/input/IriTableIsPlainIriPinLaw", "expectB", "(II)Z"⟩ : MethodName)) hown (mvT hZ (hw _ (List.mem_of_getElem? (i := 39) rfl))) (mvT hZ (hw _ (List.mem_of_getElem? (i := 40) rfl))) (mvT hZ (hw _ (List.mem_of_getElem? (i := 19) rfl))) (mvT hZ (hw _ (List.mem_of_getElem? (i := 41) rfl))) (by decide) (backOf (W := 1) (rm_eB l Z a0 hw [] ku cu h41 n0 (Nat.le_trans Z0 K41.1) (by omega) hcu) hZ (hw _ (List.mem_of_getElem? (i := 41) rfl)) (hw _ (List.mem_of_getElem? (i := 19) rfl)) (by decide) (by decide)) (g := (mkF m 296 #[iv p0, iv p1, iv p2, iv p3, iv p4, iv (p0 &&& (3 : Int32)), iv (Int32.ofNat cu), iv (own_sb cu), iv (p1 &&& (2147483647 : Int32)), rv b, iv (Int32.ofNat ku), .unset] [(.int (Int32.ofNat cu)), (.int (Int32.ofNat ku)), (.int (1 : Int32))])) rfl (by rw [hml]; rfl) (argsL := [(.int (Int32.ofNat ku)), (.int (Int32.ofNat cu))]) (rest := [(.int (1 : Int32))]) (lenOf pd_4 rfl) rfl (by show 2 * 0 + _ ≤ _; exact Nat.le_of_eq rfl) (hb hby at_296) (fun _ _ => ⟨rfl, eh42, (by decide : 1 + 0 ≤ _), (by decide : 17 + 0 ≤ _)⟩)
        dsimp only [Pt.U, Pt.locs, Pt.cells, Pt.slots] at X43 l43 y43 z43 st43 hQ43
        subst l43 y43 z43
        refine Go.pre st43 ?_
        rcases hQ43 with ⟨hp43, rfl, N43q, eh43⟩ | ⟨hp43, rfl, N43q, eh43⟩
        · skip
          have N43 := Fr.app N42 N43q
          show Go p e below _ (T43.setTop (mkF m 299 #[iv p0, iv p1, iv p2, iv p3, iv p4, iv (p0 &&& (3 : Int32)), iv (Int32.ofNat cu), iv (own_sb cu), iv (p1 &&& (2147483647 : Int32)), rv b, iv (Int32.ofNat ku), .unset] [(.int (1 : Int32)), (.int (1 : Int32))]))
          refine Go.pre (fun _ k => XS.icmpNo X43.here hx rfl (hb hby at_299) rfl (teq (by decide : (1 : Int32) = (1 : Int32))).2 k) ?_
          show Go p e below _ (T43.setTop (mkF m 302 #[iv p0, iv p1, iv p2, iv p3, iv p4, iv (p0 &&& (3 : Int32)), iv (Int32.ofNat cu), iv (own_sb cu), iv (p1 &&& (2147483647 : Int32)), rv b, iv (Int32.ofNat ku), .unset] []))
          refine Go.pre (fun _ k => XS.iconst X43.here hx rfl (hb hby at_302) k) ?_
          show Go p e below _ (T43.setTop (mkF m 303 #[iv p0, iv p1, iv p2, iv p3, iv p4, iv (p0 &&& (3 : Int32)), iv (Int32.ofNat cu), iv (own_sb cu), iv (p1 &&& (2147483647 : Int32)), rv b, iv (Int32.ofNat ku), .unset] [(.int (1 : Int32))]))
          refine Go.pre (fun _ k => XS.goto X43.here hx rfl (pc0 := 303) (pc' := 307) rfl (hb hby at_303) (by decide) (by decide) k) ?_
          show Go p e below _ (T43.setTop (mkF m 307 #[iv p0, iv p1, iv p2, iv p3, iv p4, iv (p0 &&& (3 : Int32)), iv (Int32.ofNat cu), iv (own_sb cu), iv (p1 &&& (2147483647 : Int32)), rv b, iv (Int32.ofNat ku), .unset] [(.int (1 : Int32))]))
          obtain ⟨fs, hr, hrun, hended, hW, hsame⟩ := X43.leave (v := some (.int (1 : Int32))) (fun h => by rw [Bd.returns] at h; cases h)
          refine Go.fin (retN X43 hx (t := .boolean) Bd.returns (by simp) (hb hby at_307) hr) ⟨hrun, hended, _, _, rfl, ?_, ⟨_, rfl⟩, hW, hsame.mono (by decide) (by decide)⟩
          exact ⟨rfl, N43⟩
        · skip
          have N43 := Fr.app N42 N43q
          show Go p e below _ (T43.setTop (mkF m 299 #[iv p0, iv p1, iv p2, iv p3, iv p4, iv (p0 &&& (3 : Int32)), iv (Int32.ofNat cu), iv (own_sb cu), iv (p1 &&& (2147483647 : Int32)), rv b, iv (Int32.ofNat ku), .unset] [(.int (0 : Int32)), (.int (1 : Int32))]))
          refine Go.pre (fun _ k => XS.icmpYes X43.here hx rfl (pc0 := 299) (pc' := 306) rfl (hb hby at_299) rfl (feq (by decide : ¬ ((1 : Int32) = (0 : Int32)))).2 (by decide) (by decide) k) ?_
          show Go p e below _ (T43.setTop (mkF m 306 #[iv p0, iv p1, iv p2, iv p3, iv p4, iv (p0 &&& (3 : Int32)), iv (Int32.ofNat cu), iv (own_sb cu), iv (p1 &&& (2147483647 : Int32)), rv b, iv (Int32.ofNat ku), .unset] []))
          refine Go.pre (fun _ k => XS.iconst X43.here hx rfl (hb hby at_306) k) ?_
          show Go p e below _ (T43.setTop (mkF m 307 #[iv p0, iv p1, iv p2, iv p3, iv p4, iv (p0 &&& (3 : Int32)), iv (Int32.ofNat cu), iv (own_sb cu), iv (p1 &&& (2147483647 : Int32)), rv b, iv (Int32.ofNat ku), .unset] [(.int (0 : Int32))]))
          exact absurd ((own_use own_lawB hku hcu).symm.trans hp42) hp43
      · skip
        have N42 := Fr.app NN41 N42q
        show Go p e below _ (T42.setTop (mkF m 292 #[iv p0, iv p1, iv p2, iv p3, iv p4, iv (p0 &&& (3 : Int32)), iv (Int32.ofNat cu), iv (own_sb cu), iv (p1 &&& (2147483647 : Int32)), rv b, iv (Int32.ofNat ku), .unset] [(.int (0 : Int32))]))
        refine Go.pre (fun _ k => XS.iload X42.here hx rfl (hb hby at_292) rfl k) ?_
        show Go p e below _ (T42.setTop (mkF m 294 #[iv p0, iv p1, iv p2, iv p3, iv p4, iv (p0 &&& (3 : Int32)), iv (Int32.ofNat cu), iv (own_sb cu), iv (p1 &&& (2147483647 : Int32)), rv b, iv (Int32.ofNat ku), .unset] [(.int (Int32.ofNat ku)), (.int (0 : Int32))]))
        refine Go.pre (fun _ k => XS.iload X42.here hx rfl (hb hby at_294) rfl k) ?_
        show Go p e below _ (T42.setTop (mkF m 296 #[iv p0, iv p1, iv p2, iv p3, iv p4, iv (p0 &&& (3 : Int32)), iv (Int32.ofNat cu), iv (own_sb cu), iv (p1 &&& (2147483647 : Int32)), rv b, iv (Int32.ofNat ku), .unset] [(.int (Int32.ofNat cu)), (.int (Int32.ofNat ku)), (.int (0 : Int32))]))
        obtain ⟨_, _, ⟨T44, L44, k44, n44⟩, -, X44, ⟨Lc44, hQ44, l44, y44, z44⟩, st44⟩ := Jvm.LawKit.callS X42 hx (y := (⟨"com/example/entayl/entayl/input/IriTableIsPlainIriPinLaw", "expectB", "(II)Z"⟩ : MethodName)) hown (mvT hZ (hw _ (List.mem_of_getElem? (i := 39) rfl))) (mvT hZ (hw _ (List.mem_of_getElem? (i := 40) rfl))) (mvT hZ (hw _ (List.mem_of_getElem? (i := 19) rfl))) (mvT hZ (hw _ (List.mem_of_getElem? (i := 41) rfl))) (by decide) (backOf (W := 1) (rm_eB l Z a0 hw [] ku cu h41 n0 (Nat.le_trans Z0 K41.1) (by omega) hcu) hZ (hw _ (List.mem_of_getElem? (i := 41) rfl)) (hw _ (List.mem_of_getElem? (i := 19) rfl)) (by decide) (by decide)) (g := (mkF m 296 #[iv p0, iv p1, iv p2, iv p3, iv p4, iv (p0 &&& (3 : Int32)), iv (Int32.ofNat cu), iv (own_sb cu), iv (p1 &&& (2147483647 : Int32)), rv b, iv (Int32.ofNat ku), .unset] [(.int (Int32.ofNat cu)), (.int (Int32.ofNat ku)), (.int (0 : Int32))])) rfl (by rw [hml]; rfl) (argsL := [(.int (Int32.ofNat ku)), (.int (Int32.ofNat cu))]) (rest := [(.int (0 : Int32))]) (lenOf pd_4 rfl) rfl (by show 2 * 0 + _ ≤ _; exact Nat.le_of_eq rfl) (hb hby at_296) (fun _ _ => ⟨rfl, eh42, (by decide : 1 + 0 ≤ _), (by decide : 17 + 0 ≤ _)⟩)
        dsimp only [Pt.U, Pt.locs, Pt.cells, Pt.slots] at X44 l44 y44 z44 st44 hQ44
        subst l44 y44 z44
        refine Go.pre st44 ?_
        rcases hQ44 with ⟨hp44, rfl, N44q, eh44⟩ | ⟨hp44, rfl, N44q, eh44⟩
        · skip
          have N44 := Fr.app N42 N44q
          show Go p e below _ (T44.setTop (mkF m 299 #[iv p0, iv p1, iv p2, iv p3, iv p4, iv (p0 &&& (3 : Int32)), iv (Int32.ofNat cu), iv (own_sb cu), iv (p1 &&& (2147483647 : Int32)), rv b, iv (Int32.ofNat ku), .unset] [(.int (1 : Int32)), (.int (0 : Int32))]))
          refine Go.pre (fun _ k => XS.icmpYes X44.here hx rfl (pc0 := 299) (pc' := 306) rfl (hb hby at_299) rfl (feq (by decide : ¬ ((0 : Int32) = (1 : Int32)))).2 (by decide) (by decide) k) ?_
          show Go p e below _ (T44.setTop (mkF m 306 #[iv p0, iv p1, iv p2, iv p3, iv p4, iv (p0 &&& (3 : Int32)), iv (Int32.ofNat cu), iv (own_sb cu), iv (p1 &&& (2147483647 : Int32)), rv b, iv (Int32.ofNat ku), .unset] []))
          refine Go.pre (fun _ k => XS.iconst X44.here hx rfl (hb hby at_306) k) ?_
          show Go p e below _ (T44.setTop (mkF m 307 #[iv p0, iv p1, iv p2, iv p3, iv p4, iv (p0 &&& (3 : Int32)), iv (Int32.ofNat cu), iv (own_sb cu), iv (p1 &&& (2147483647 : Int32)), rv b, iv (Int32.ofNat ku), .unset] [(.int (0 : Int32))]))
          exact absurd ((own_use own_lawB hku hcu).trans hp44) hp42
        · skip
          have N44 := Fr.app N42 N44q
          show Go p e below _ (T44.setTop (mkF m 299 #[iv p0, iv p1, iv p2, iv p3, iv p4, iv (p0 &&& (3 : Int32)), iv (Int32.ofNat cu), iv (own_sb cu), iv (p1 &&& (2147483647 : Int32)), rv b, iv (Int32.ofNat ku), .unset] [(.int (0 : Int32)), (.int (0 : Int32))]))
          refine Go.pre (fun _ k => XS.icmpNo X44.here hx rfl (hb hby at_299) rfl (teq (by decide : (0 : Int32) = (0 : Int32))).2 k) ?_
          show Go p e below _ (T44.setTop (mkF m 302 #[iv p0, iv p1, iv p2, iv p3, iv p4, iv (p0 &&& (3 : Int32)), iv (Int32.ofNat cu), iv (own_sb cu), iv (p1 &&& (2147483647 : Int32)), rv b, iv (Int32.ofNat ku), .unset] []))
          refine Go.pre (fun _ k => XS.iconst X44.here hx rfl (hb hby at_302) k) ?_
          show Go p e below _ (T44.setTop (mkF m 303 #[iv p0, iv p1, iv p2, iv p3, iv p4, iv (p0 &&& (3 : Int32)), iv (Int32.ofNat cu), iv (own_sb cu), iv (p1 &&& (2147483647 : Int32)), rv b, iv (Int32.ofNat ku), .unset] [(.int (1 : Int32))]))
          refine Go.pre (fun _ k => XS.goto X44.here hx rfl (pc0 := 303) (pc' := 307) rfl (hb hby at_303) (by decide) (by decide) k) ?_
          show Go p e below _ (T44.setTop (mkF m 307 #[iv p0, iv p1, iv p2, iv p3, iv p4, iv (p0 &&& (3 : Int32)), iv (Int32.ofNat cu), iv (own_sb cu), iv (p1 &&& (2147483647 : Int32)), rv b, iv (Int32.ofNat ku), .unset] [(.int (1 : Int32))]))
          obtain ⟨fs, hr, hrun, hended, hW, hsame⟩ := X44.leave (v := some (.int (1 : Int32))) (fun h => by rw [Bd.returns] at h; cases h)
          refine Go.fin (retN X44 hx (t := .boolean) Bd.returns (by simp) (hb hby at_307) hr) ⟨hrun, hended, _, _, rfl, ?_, ⟨_, rfl⟩, hW, hsame.mono (by decide) (by decide)⟩
          exact ⟨rfl, N44⟩
    · skip
      refine Go.pre (fun _ k => XS.icmpYes X0.here hx rfl (pc0 := 162) (pc' := 308) rfl (hb hby at_162) rfl (feq hc162_22).2 (by decide) (by decide) k) ?_
      show Go p e below _ (s₁.setTop (mkF m 308 #[iv p0, iv p1, iv p2, iv p3, iv p4, iv (p0 &&& (3 : Int32)), iv (Int32.ofNat cu), iv (own_sb cu), iv (p1 &&& (2147483647 : Int32)), .unset, .unset, .unset] []))
      refine Go.pre (fun _ k => XS.iload X0.here hx rfl (hb hby at_308) rfl k) ?_
      show Go p e below _ (s₁.setTop (mkF m 310 #[iv p0, iv p1, iv p2, iv p3, iv p4, iv (p0 &&& (3 : Int32)), iv (Int32.ofNat cu), iv (own_sb cu), iv (p1 &&& (2147483647 : Int32)), .unset, .unset, .unset] [(.int (p0 &&& (3 : Int32)))]))
      refine Go.pre (fun _ k => XS.iconst X0.here hx rfl (hb hby at_310) k) ?_
      show Go p e below _ (s₁.setTop (mkF m 311 #[iv p0, iv p1, iv p2, iv p3, iv p4, iv (p0 &&& (3 : Int32)), iv (Int32.ofNat cu), iv (own_sb cu), iv (p1 &&& (2147483647 : Int32)), .unset, .unset, .unset] [(.int (2 : Int32)), (.int (p0 &&& (3 : Int32)))]))
      by_cases hc311_45 : (p0 &&& (3 : Int32)) = (2 : Int32)
      · skip
        refine Go.pre (fun _ k => XS.icmpNo X0.here hx rfl (hb hby at_311) rfl (teq hc311_45).2 k) ?_
        show Go p e below _ (s₁.setTop (mkF m 314 #[iv p0, iv p1, iv p2, iv p3, iv p4, iv (p0 &&& (3 : Int32)), iv (Int32.ofNat cu), iv (own_sb cu), iv (p1 &&& (2147483647 : Int32)), .unset, .unset, .unset] []))
        refine Go.pre (fun _ k => XS.bipush X0.here hx rfl (hb hby at_314) k) ?_
        show Go p e below _ (s₁.setTop (mkF m 316 #[iv p0, iv p1, iv p2, iv p3, iv p4, iv (p0 &&& (3 : Int32)), iv (Int32.ofNat cu), iv (own_sb cu), iv (p1 &&& (2147483647 : Int32)), .unset, .unset, .unset] [(.int (21 : Int32))]))
        obtain ⟨T46, h46, k46, X46, e46, Ex46, A46, st46⟩ := newP X0 hx hZ (hw _ (List.mem_of_getElem? (i := 1) rfl)) e0 (g := (mkF m 316 #[iv p0, iv p1, iv p2, iv p3, iv p4, iv (p0 &&& (3 : Int32)), iv (Int32.ofNat cu), iv (own_sb cu), iv (p1 &&& (2147483647 : Int32)), .unset, .unset, .unset] [(.int (21 : Int32))])) rfl (hb hby at_316) rfl (by decide) (cap := 21) (by decide) (by decide) (by decide) (by decide)
        obtain ⟨b, hb0⟩ : ∃ z, z = h0.size := ⟨_, rfl⟩
        rw [← hb0] at A46 st46
        have g_b : n0 ≤ b := by omega
        have sz_b : h0.size ≤ b := Nat.le_of_eq hb0.symm
        have V46 : Arv Z h46 b k46 .byte 21 [.int 0, .int 0, .int 0, .int 0, .int 0, .int 0, .int 0, .int 0, .int 0, .int 0, .int 0, .int 0, .int 0, .int 0, .int 0, .int 0, .int 0, .int 0, .int 0, .int 0, .int 0] (.int 0) := (Arv.new A46 (by decide)).pad (pad_rep [] (.int 0) 21)
        have K46 : Keep h0 h46 [] := (Keep.refl h0 []).ext Ex46
        refine Go.pre st46 ?_
        show Go p e below _ (T46.setTop (mkF m 318 #[iv p0, iv p1, iv p2, iv p3, iv p4, iv (p0 &&& (3 : Int32)), iv (Int32.ofNat cu), iv (own_sb cu), iv (p1 &&& (2147483647 : Int32)), .unset, .unset, .unset] [(.ref b)]))
        refine Go.pre (fun _ k => XS.dup X46.here hx rfl (hb hby at_318) rfl rfl k) ?_
        show Go p e below _ (T46.setTop (mkF m 319 #[iv p0, iv p1, iv p2, iv p3, iv p4, iv (p0 &&& (3 : Int32)), iv (Int32.ofNat cu), iv (own_sb cu), iv (p1 &&& (2147483647 : Int32)), .unset, .unset, .unset] [(.ref b), (.ref b)]))
        refine Go.pre (fun _ k => XS.iconst X46.here hx rfl (hb hby at_319) k) ?_
        show Go p e below _ (T46.setTop (mkF m 320 #[iv p0, iv p1, iv p2, iv p3, iv p4, iv (p0 &&& (3 : Int32)), iv (Int32.ofNat cu), iv (own_sb cu), iv (p1 &&& (2147483647 : Int32)), .unset, .unset, .unset] [(.int (0 : Int32)), (.ref b), (.ref b)]))
        refine Go.pre (fun _ k => XS.iloadN X46.here hx rfl (hb hby at_320) rfl k) ?_
        show Go p e below _ (T46.setTop (mkF m 321 #[iv p0, iv p1, iv p2, iv p3, iv p4, iv (p0 &&& (3 : Int32)), iv (Int32.ofNat cu), iv (own_sb cu), iv (p1 &&& (2147483647 : Int32)), .unset, .unset, .unset] [(.int p3), (.int (0 : Int32)), (.ref b), (.ref b)]))
        refine Go.pre (fun _ k => XS.i2b X46.here hx rfl (hb hby at_321) rfl k) ?_
        show Go p e below _ (T46.setTop (mkF m 322 #[iv p0, iv p1, iv p2, iv p3, iv p4, iv (p0 &&& (3 : Int32)), iv (Int32.ofNat cu), iv (own_sb cu), iv (p1 &&& (2147483647 : Int32)), .unset, .unset, .unset] [(.int (p3.toInt8.toInt32)), (.int (0 : Int32)), (.ref b), (.ref b)]))
        obtain ⟨T47, h47, X47, e47, W47, V47, st47⟩ := own_putB X46 hx hZ e46 V46 (j := (0 : Int32)) (by decide) 0 rfl (Nat.le_of_ble_eq_true rfl) (g := (mkF m 322 #[iv p0, iv p1, iv p2, iv p3, iv p4, iv (p0 &&& (3 : Int32)), iv (Int32.ofNat cu), iv (own_sb cu), iv (p1 &&& (2147483647 : Int32)), .unset, .unset, .unset] [(.int (p3.toInt8.toInt32)), (.int (0 : Int32)), (.ref b), (.ref b)])) rfl rfl (hb hby at_322)
        have V47 : Arv Z h47 b k46 .byte 21 [.int (nar .byte (p3.toInt8.toInt32)), .int 0, .int 0, .int 0, .int 0, .int 0, .int 0, .int 0, .int 0, .int 0, .int 0, .int 0, .int 0, .int 0, .int 0, .int 0, .int 0, .int 0, .int 0, .int 0, .int 0] (.int 0) := V47
        have K47 : Keep h0 h47 [] := K46.wr W47 (Or.inr sz_b)
        have N47 := Fr.snoc X47 N0 g_b
        refine Go.pre st47 ?_
        obtain ⟨LL47, XX47, NN47⟩ := own_abs X47 N47
        show Go p e below _ (T47.setTop (mkF m 323 #[iv p0, iv p1, iv p2, iv p3, iv p4, iv (p0 &&& (3 : Int32)), iv (Int32.ofNat cu), iv (own_sb cu), iv (p1 &&& (2147483647 : Int32)), .unset, .unset, .unset] [(.ref b)]))
        refine Go.pre (fun _ k => XS.dup XX47.here hx rfl (hb hby at_323) rfl rfl k) ?_
        show Go p e below _ (T47.setTop (mkF m 324 #[iv p0, iv p1, iv p2, iv p3, iv p4, iv (p0 &&& (3 : Int32)), iv (Int32.ofNat cu), iv (own_sb cu), iv (p1 &&& (2147483647 : Int32)), .unset, .unset, .unset] [(.ref b), (.ref b)]))
        refine Go.pre (fun _ k => XS.iconst XX47.here hx rfl (hb hby at_324) k) ?_
        show Go p e below _ (T47.setTop (mkF m 325 #[iv p0, iv p1, iv p2, iv p3, iv p4, iv (p0 &&& (3 : Int32)), iv (Int32.ofNat cu), iv (own_sb cu), iv (p1 &&& (2147483647 : Int32)), .unset, .unset, .unset] [(.int (1 : Int32)), (.ref b), (.ref b)]))
        refine Go.pre (fun _ k => XS.bipush XX47.here hx rfl (hb hby at_325) k) ?_
        show Go p e below _ (T47.setTop (mkF m 327 #[iv p0, iv p1, iv p2, iv p3, iv p4, iv (p0 &&& (3 : Int32)), iv (Int32.ofNat cu), iv (own_sb cu), iv (p1 &&& (2147483647 : Int32)), .unset, .unset, .unset] [(.int (115 : Int32)), (.int (1 : Int32)), (.ref b), (.ref b)]))
        obtain ⟨T48, h48, X48, e48, W48, V48, st48⟩ := own_putB XX47 hx hZ e47 V47 (j := (1 : Int32)) (by decide) 1 rfl (Nat.le_of_ble_eq_true rfl) (g := (mkF m 327 #[iv p0, iv p1, iv p2, iv p3, iv p4, iv (p0 &&& (3 : Int32)), iv (Int32.ofNat cu), iv (own_sb cu), iv (p1 &&& (2147483647 : Int32)), .unset, .unset, .unset] [(.int (115 : Int32)), (.int (1 : Int32)), (.ref b), (.ref b)])) rfl rfl (hb hby at_327)
        have V48 : Arv Z h48 b k46 .byte 21 [.int (nar .byte (p3.toInt8.toInt32)), own_vl 115, .int 0, .int 0, .int 0, .int 0, .int 0, .int 0, .int 0, .int 0, .int 0, .int 0, .int 0, .int 0, .int 0, .int 0, .int 0, .int 0, .int 0, .int 0, .int 0] (.int 0) := V48
        have K48 : Keep h0 h48 [] := K47.wr W48 (Or.inr sz_b)
        have N48 := Fr.snoc X48 NN47 g_b
        refine Go.pre st48 ?_
        obtain ⟨LL48, XX48, NN48⟩ := own_abs X48 N48
        show Go p e below _ (T48.setTop (mkF m 328 #[iv p0, iv p1, iv p2, iv p3, iv p4, iv (p0 &&& (3 : Int32)), iv (Int32.ofNat cu), iv (own_sb cu), iv (p1 &&& (2147483647 : Int32)), .unset, .unset, .unset] [(.ref b)]))
        refine Go.pre (fun _ k => XS.dup XX48.here hx rfl (hb hby at_328) rfl rfl k) ?_
        show Go p e below _ (T48.setTop (mkF m 329 #[iv p0, iv p1, iv p2, iv p3, iv p4, iv (p0 &&& (3 : Int32)), iv (Int32.ofNat cu), iv (own_sb cu), iv (p1 &&& (2147483647 : Int32)), .unset, .unset, .unset] [(.ref b), (.ref b)]))
        refine Go.pre (fun _ k => XS.iconst XX48.here hx rfl (hb hby at_329) k) ?_
        show Go p e below _ (T48.setTop (mkF m 330 #[iv p0, iv p1, iv p2, iv p3, iv p4, iv (p0 &&& (3 : Int32)), iv (Int32.ofNat cu), iv (own_sb cu), iv (p1 &&& (2147483647 : Int32)), .unset, .unset, .unset] [(.int (2 : Int32)), (.ref b), (.ref b)]))
        refine Go.pre (fun _ k => XS.bipush XX48.here hx rfl (hb hby at_330) k) ?_
        show Go p e below _ (T48.setTop (mkF m 332 #[iv p0, iv p1, iv p2, iv p3, iv p4, iv (p0 &&& (3 : Int32)), iv (Int32.ofNat cu), iv (own_sb cu), iv (p1 &&& (2147483647 : Int32)), .unset, .unset, .unset] [(.int (58 : Int32)), (.int (2 : Int32)), (.ref b), (.ref b)]))
        obtain ⟨T49, h49, X49, e49, W49, V49, st49⟩ := own_putB XX48 hx hZ e48 V48 (j := (2 : Int32)) (by decide) 2 rfl (Nat.le_of_ble_eq_true rfl) (g := (mkF m 332 #[iv p0, iv p1, iv p2, iv p3, iv p4, iv (p0 &&& (3 : Int32)), iv (Int32.ofNat cu), iv (own_sb cu), iv (p1 &&& (2147483647 : Int32)), .unset, .unset, .unset] [(.int (58 : Int32)), (.int (2 : Int32)), (.ref b), (.ref b)])) rfl rfl (hb hby at_332)
        have V49 : Arv Z h49 b k46 .byte 21 [.int (nar .byte (p3.toInt8.toInt32)), own_vl 115, own_vl 58, .int 0, .int 0, .int 0, .int 0, .int 0, .int 0, .int 0, .int 0, .int 0, .int 0, .int 0, .int 0, .int 0, .int 0, .int 0, .int 0, .int 0, .int 0] (.int 0) := V49
        have K49 : Keep h0 h49 [] := K48.wr W49 (Or.inr sz_b)
        have N49 := Fr.snoc X49 NN48 g_b
        refine Go.pre st49 ?_
        obtain ⟨LL49, XX49, NN49⟩ := own_abs X49 N49
        show Go p e below _ (T49.setTop (mkF m 333 #[iv p0, iv p1, iv p2, iv p3, iv p4, iv (p0 &&& (3 : Int32)), iv (Int32.ofNat cu), iv (own_sb cu), iv (p1 &&& (2147483647 : Int32)), .unset, .unset, .unset] [(.ref b)]))
        refine Go.pre (fun _ k => XS.dup XX49.here hx rfl (hb hby at_333) rfl rfl k) ?_
        show Go p e below _ (T49.setTop (mkF m 334 #[iv p0, iv p1, iv p2, iv p3, iv p4, iv (p0 &&& (3 : Int32)), iv (Int32.ofNat cu), iv (own_sb cu), iv (p1 &&& (2147483647 : Int32)), .unset, .unset, .unset] [(.ref b), (.ref b)]))
        refine Go.pre (fun _ k => XS.iconst XX49.here hx rfl (hb hby at_334) k) ?_
        show Go p e below _ (T49.setTop (mkF m 335 #[iv p0, iv p1, iv p2, iv p3, iv p4, iv (p0 &&& (3 : Int32)), iv (Int32.ofNat cu), iv (own_sb cu), iv (p1 &&& (2147483647 : Int32)), .unset, .unset, .unset] [(.int (3 : Int32)), (.ref b), (.ref b)]))
        refine Go.pre (fun _ k => XS.bipush XX49.here hx rfl (hb hby at_335) k) ?_
        show Go p e below _ (T49.setTop (mkF m 337 #[iv p0, iv p1, iv p2, iv p3, iv p4, iv (p0 &&& (3 : Int32)), iv (Int32.ofNat cu), iv (own_sb cu), iv (p1 &&& (2147483647 : Int32)), .unset, .unset, .unset] [(.int (47 : Int32)), (.int (3 : Int32)), (.ref b), (.ref b)]))
        obtain ⟨T50, h50, X50, e50, W50, V50, st50⟩ := own_putB XX49 hx hZ e49 V49 (j := (3 : Int32)) (by decide) 3 rfl (Nat.le_of_ble_eq_true rfl) (g := (mkF m 337 #[iv p0, iv p1, iv p2, iv p3, iv p4, iv (p0 &&& (3 : Int32)), iv (Int32.ofNat cu), iv (own_sb cu), iv (p1 &&& (2147483647 : Int32)), .unset, .unset, .unset] [(.int (47 : Int32)), (.int (3 : Int32)), (.ref b), (.ref b)])) rfl rfl (hb hby at_337)
        have V50 : Arv Z h50 b k46 .byte 21 [.int (nar .byte (p3.toInt8.toInt32)), own_vl 115, own_vl 58, own_vl 47, .int 0, .int 0, .int 0, .int 0, .int 0, .int 0, .int 0, .int 0, .int 0, .int 0, .int 0, .int 0, .int 0, .int 0, .int 0, .int 0, .int 0] (.int 0) := V50
        have K50 : Keep h0 h50 [] := K49.wr W50 (Or.inr sz_b)
        have N50 := Fr.snoc X50 NN49 g_b
        refine Go.pre st50 ?_
        obtain ⟨LL50, XX50, NN50⟩ := own_abs X50 N50
        show Go p e below _ (T50.setTop (mkF m 338 #[iv p0, iv p1, iv p2, iv p3, iv p4, iv (p0 &&& (3 : Int32)), iv (Int32.ofNat cu), iv (own_sb cu), iv (p1 &&& (2147483647 : Int32)), .unset, .unset, .unset] [(.ref b)]))
        refine Go.pre (fun _ k => XS.dup XX50.here hx rfl (hb hby at_338) rfl rfl k) ?_
        show Go p e below _ (T50.setTop (mkF m 339 #[iv p0, iv p1, iv p2, iv p3, iv p4, iv (p0 &&& (3 : Int32)), iv (Int32.ofNat cu), iv (own_sb cu), iv (p1 &&& (2147483647 : Int32)), .unset, .unset, .unset] [(.ref b), (.ref b)]))
        refine Go.pre (fun _ k => XS.iconst XX50.here hx rfl (hb hby at_339) k) ?_
        show Go p e below _ (T50.setTop (mkF m 340 #[iv p0, iv p1, iv p2, iv p3, iv p4, iv (p0 &&& (3 : Int32)), iv (Int32.ofNat cu), iv (own_sb cu), iv (p1 &&& (2147483647 : Int32)), .unset, .unset, .unset] [(.int (4 : Int32)), (.ref b), (.ref b)]))
        refine Go.pre (fun _ k => XS.bipush XX50.here hx rfl (hb hby at_340) k) ?_
        show Go p e below _ (T50.setTop (mkF m 342 #[iv p0, iv p1, iv p2, iv p3, iv p4, iv (p0 &&& (3 : Int32)), iv (Int32.ofNat cu), iv (own_sb cu), iv (p1 &&& (2147483647 : Int32)), .unset, .unset, .unset] [(.int (47 : Int32)), (.int (4 : Int32)), (.ref b), (.ref b)]))
        obtain ⟨T51, h51, X51, e51, W51, V51, st51⟩ := own_putB XX50 hx hZ e50 V50 (j := (4 : Int32)) (by decide) 4 rfl (Nat.le_of_ble_eq_true rfl) (g := (mkF m 342 #[iv p0, iv p1, iv p2, iv p3, iv p4, iv (p0 &&& (3 : Int32)), iv (Int32.ofNat cu), iv (own_sb cu), iv (p1 &&& (2147483647 : Int32)), .unset, .unset, .unset] [(.int (47 : Int32)), (.int (4 : Int32)), (.ref b), (.ref b)])) rfl rfl (hb hby at_342)
        have V51 : Arv Z h51 b k46 .byte 21 [.int (nar .byte (p3.toInt8.toInt32)), own_vl 115, own_vl 58, own_vl 47, own_vl 47, .int 0, .int 0, .int 0, .int 0, .int 0, .int 0, .int 0, .int 0, .int 0, .int 0, .int 0, .int 0, .int 0, .int 0, .int 0, .int 0] (.int 0) := V51
        have K51 : Keep h0 h51 [] := K50.wr W51 (Or.inr sz_b)
        have N51 := Fr.snoc X51 NN50 g_b
        refine Go.pre st51 ?_
        obtain ⟨LL51, XX51, NN51⟩ := own_abs X51 N51
        show Go p e below _ (T51.setTop (mkF m 343 #[iv p0, iv p1, iv p2, iv p3, iv p4, iv (p0 &&& (3 : Int32)), iv (Int32.ofNat cu), iv (own_sb cu), iv (p1 &&& (2147483647 : Int32)), .unset, .unset, .unset] [(.ref b)]))
        refine Go.pre (fun _ k => XS.dup XX51.here hx rfl (hb hby at_343) rfl rfl k) ?_
        show Go p e below _ (T51.setTop (mkF m 344 #[iv p0, iv p1, iv p2, iv p3, iv p4, iv (p0 &&& (3 : Int32)), iv (Int32.ofNat cu), iv (own_sb cu), iv (p1 &&& (2147483647 : Int32)), .unset, .unset, .unset] [(.ref b), (.ref b)]))
        refine Go.pre (fun _ k => XS.iconst XX51.here hx rfl (hb hby at_344) k) ?_
        show Go p e below _ (T51.setTop (mkF m 345 #[iv p0, iv p1, iv p2, iv p3, iv p4, iv (p0 &&& (3 : Int32)), iv (Int32.ofNat cu), iv (own_sb cu), iv (p1 &&& (2147483647 : Int32)), .unset, .unset, .unset] [(.int (5 : Int32)), (.ref b), (.ref b)]))
        refine Go.pre (fun _ k => XS.bipush XX51.here hx rfl (hb hby at_345) k) ?_
        show Go p e below _ (T51.setTop (mkF m 347 #[iv p0, iv p1, iv p2, iv p3, iv p4, iv (p0 &&& (3 : Int32)), iv (Int32.ofNat cu), iv (own_sb cu), iv (p1 &&& (2147483647 : Int32)), .unset, .unset, .unset] [(.int (104 : Int32)), (.int (5 : Int32)), (.ref b), (.ref b)]))
        obtain ⟨T52, h52, X52, e52, W52, V52, st52⟩ := own_putB XX51 hx hZ e51 V51 (j := (5 : Int32)) (by decide) 5 rfl (Nat.le_of_ble_eq_true rfl) (g := (mkF m 347 #[iv p0, iv p1, iv p2, iv p3, iv p4, iv (p0 &&& (3 : Int32)), iv (Int32.ofNat cu), iv (own_sb cu), iv (p1 &&& (2147483647 : Int32)), .unset, .unset, .unset] [(.int (104 : Int32)), (.int (5 : Int32)), (.ref b), (.ref b)])) rfl rfl (hb hby at_347)
        have V52 : Arv Z h52 b k46 .byte 21 [.int (nar .byte (p3.toInt8.toInt32)), own_vl 115, own_vl 58, own_vl 47, own_vl 47, own_vl 104, .int 0, .int 0, .int 0, .int 0, .int 0, .int 0, .int 0, .int 0, .int 0, .int 0, .int 0, .int 0, .int 0, .int 0, .int 0] (.int 0) := V52
        have K52 : Keep h0 h52 [] := K51.wr W52 (Or.inr sz_b)
        have N52 := Fr.snoc X52 NN51 g_b
        refine Go.pre st52 ?_
        obtain ⟨LL52, XX52, NN52⟩ := own_abs X52 N52
        show Go p e below _ (T52.setTop (mkF m 348 #[iv p0, iv p1, iv p2, iv p3, iv p4, iv (p0 &&& (3 : Int32)), iv (Int32.ofNat cu), iv (own_sb cu), iv (p1 &&& (2147483647 : Int32)), .unset, .unset, .unset] [(.ref b)]))
        refine Go.pre (fun _ k => XS.dup XX52.here hx rfl (hb hby at_348) rfl rfl k) ?_
        show Go p e below _ (T52.setTop (mkF m 349 #[iv p0, iv p1, iv p2, iv p3, iv p4, iv (p0 &&& (3 : Int32)), iv (Int32.ofNat cu), iv (own_sb cu), iv (p1 &&& (2147483647 : Int32)), .unset, .unset, .unset] [(.ref b), (.ref b)]))
        refine Go.pre (fun _ k => XS.bipush XX52.here hx rfl (hb hby at_349) k) ?_
        show Go p e below _ (T52.setTop (mkF m 351 #[iv p0, iv p1, iv p2, iv p3, iv p4, iv (p0 &&& (3 : Int32)), iv (Int32.ofNat cu), iv (own_sb cu), iv (p1 &&& (2147483647 : Int32)), .unset, .unset, .unset] [(.int (6 : Int32)), (.ref b), (.ref b)]))
        refine Go.pre (fun _ k => XS.bipush XX52.here hx rfl (hb hby at_351) k) ?_
        show Go p e below _ (T52.setTop (mkF m 353 #[iv p0, iv p1, iv p2, iv p3, iv p4, iv (p0 &&& (3 : Int32)), iv (Int32.ofNat cu), iv (own_sb cu), iv (p1 &&& (2147483647 : Int32)), .unset, .unset, .unset] [(.int (37 : Int32)), (.int (6 : Int32)), (.ref b), (.ref b)]))
        obtain ⟨T53, h53, X53, e53, W53, V53, st53⟩ := own_putB XX52 hx hZ e52 V52 (j := (6 : Int32)) (by decide) 6 rfl (Nat.le_of_ble_eq_true rfl) (g := (mkF m 353 #[iv p0, iv p1, iv p2, iv p3, iv p4, iv (p0 &&& (3 : Int32)), iv (Int32.ofNat cu), iv (own_sb cu), iv (p1 &&& (2147483647 : Int32)), .unset, .unset, .unset] [(.int (37 : Int32)), (.int (6 : Int32)), (.ref b), (.ref b)])) rfl rfl (hb hby at_353)
        have V53 : Arv Z h53 b k46 .byte 21 [.int (nar .byte (p3.toInt8.toInt32)), own_vl 115, own_vl 58, own_vl 47, own_vl 47, own_vl 104, own_vl 37, .int 0, .int 0, .int 0, .int 0, .int 0, .int 0, .int 0, .int 0, .int 0, .int 0, .int 0, .int 0, .int 0, .int 0] (.int 0) := V53
        have K53 : Keep h0 h53 [] := K52.wr W53 (Or.inr sz_b)
        have N53 := Fr.snoc X53 NN52 g_b
        refine Go.pre st53 ?_
        obtain ⟨LL53, XX53, NN53⟩ := own_abs X53 N53
        show Go p e below _ (T53.setTop (mkF m 354 #[iv p0, iv p1, iv p2, iv p3, iv p4, iv (p0 &&& (3 : Int32)), iv (Int32.ofNat cu), iv (own_sb cu), iv (p1 &&& (2147483647 : Int32)), .unset, .unset, .unset] [(.ref b)]))
        refine Go.pre (fun _ k => XS.dup XX53.here hx rfl (hb hby at_354) rfl rfl k) ?_
        show Go p e below _ (T53.setTop (mkF m 355 #[iv p0, iv p1, iv p2, iv p3, iv p4, iv (p0 &&& (3 : Int32)), iv (Int32.ofNat cu), iv (own_sb cu), iv (p1 &&& (2147483647 : Int32)), .unset, .unset, .unset] [(.ref b), (.ref b)]))
        refine Go.pre (fun _ k => XS.bipush XX53.here hx rfl (hb hby at_355) k) ?_
        show Go p e below _ (T53.setTop (mkF m 357 #[iv p0, iv p1, iv p2, iv p3, iv p4, iv (p0 &&& (3 : Int32)), iv (Int32.ofNat cu), iv (own_sb cu), iv (p1 &&& (2147483647 : Int32)), .unset, .unset, .unset] [(.int (7 : Int32)), (.ref b), (.ref b)]))
        refine Go.pre (fun _ k => XS.bipush XX53.here hx rfl (hb hby at_357) k) ?_
        show Go p e below _ (T53.setTop (mkF m 359 #[iv p0, iv p1, iv p2, iv p3, iv p4, iv (p0 &&& (3 : Int32)), iv (Int32.ofNat cu), iv (own_sb cu), iv (p1 &&& (2147483647 : Int32)), .unset, .unset, .unset] [(.int (50 : Int32)), (.int (7 : Int32)), (.ref b), (.ref b)]))
        obtain ⟨T54, h54, X54, e54, W54, V54, st54⟩ := own_putB XX53 hx hZ e53 V53 (j := (7 : Int32)) (by decide) 7 rfl (Nat.le_of_ble_eq_true rfl) (g := (mkF m 359 #[iv p0, iv p1, iv p2, iv p3, iv p4, iv (p0 &&& (3 : Int32)), iv (Int32.ofNat cu), iv (own_sb cu), iv (p1 &&& (2147483647 : Int32)), .unset, .unset, .unset] [(.int (50 : Int32)), (.int (7 : Int32)), (.ref b), (.ref b)])) rfl rfl (hb hby at_359)
        have V54 : Arv Z h54 b k46 .byte 21 [.int (nar .byte (p3.toInt8.toInt32)), own_vl 115, own_vl 58, own_vl 47, own_vl 47, own_vl 104, own_vl 37, own_vl 50, .int 0, .int 0, .int 0, .int 0, .int 0, .int 0, .int 0, .int 0, .int 0, .int 0, .int 0, .int 0, .int 0] (.int 0) := V54
        have K54 : Keep h0 h54 [] := K53.wr W54 (Or.inr sz_b)
        have N54 := Fr.snoc X54 NN53 g_b
        refine Go.pre st54 ?_
        obtain ⟨LL54, XX54, NN54⟩ := own_abs X54 N54
        show Go p e below _ (T54.setTop (mkF m 360 #[iv p0, iv p1, iv p2, iv p3, iv p4, iv (p0 &&& (3 : Int32)), iv (Int32.ofNat cu), iv (own_sb cu), iv (p1 &&& (2147483647 : Int32)), .unset, .unset, .unset] [(.ref b)]))
        refine Go.pre (fun _ k => XS.dup XX54.here hx rfl (hb hby at_360) rfl rfl k) ?_
        show Go p e below _ (T54.setTop (mkF m 361 #[iv p0, iv p1, iv p2, iv p3, iv p4, iv (p0 &&& (3 : Int32)), iv (Int32.ofNat cu), iv (own_sb cu), iv (p1 &&& (2147483647 : Int32)), .unset, .unset, .unset] [(.ref b), (.ref b)]))
        refine Go.pre (fun _ k => XS.bipush XX54.here hx rfl (hb hby at_361) k) ?_
        show Go p e below _ (T54.setTop (mkF m 363 #[iv p0, iv p1, iv p2, iv p3, iv p4, iv (p0 &&& (3 : Int32)), iv (Int32.ofNat cu), iv (own_sb cu), iv (p1 &&& (2147483647 : Int32)), .unset, .unset, .unset] [(.int (8 : Int32)), (.ref b), (.ref b)]))
        refine Go.pre (fun _ k => XS.bipush XX54.here hx rfl (hb hby at_363) k) ?_
        show Go p e below _ (T54.setTop (mkF m 365 #[iv p0, iv p1, iv p2, iv p3, iv p4, iv (p0 &&& (3 : Int32)), iv (Int32.ofNat cu), iv (own_sb cu), iv (p1 &&& (2147483647 : Int32)), .unset, .unset, .unset] [(.int (97 : Int32)), (.int (8 : Int32)), (.ref b), (.ref b)]))
        obtain ⟨T55, h55, X55, e55, W55, V55, st55⟩ := own_putB XX54 hx hZ e54 V54 (j := (8 : Int32)) (by decide) 8 rfl (Nat.le_of_ble_eq_true rfl) (g := (mkF m 365 #[iv p0, iv p1, iv p2, iv p3, iv p4, iv (p0 &&& (3 : Int32)), iv (Int32.ofNat cu), iv (own_sb cu), iv (p1 &&& (2147483647 : Int32)), .unset, .unset, .unset] [(.int (97 : Int32)), (.int (8 : Int32)), (.ref b), (.ref b)])) rfl rfl (hb hby at_365)
        have V55 : Arv Z h55 b k46 .byte 21 [.int (nar .byte (p3.toInt8.toInt32)), own_vl 115, own_vl 58, own_vl 47, own_vl 47, own_vl 104, own_vl 37, own_vl 50, own_vl 97, .int 0, .int 0, .int 0, .int 0, .int 0, .int 0, .int 0, .int 0, .int 0, .int 0, .int 0, .int 0] (.int 0) := V55
        have K55 : Keep h0 h55 [] := K54.wr W55 (Or.inr sz_b)
        have N55 := Fr.snoc X55 NN54 g_b
        refine Go.pre st55 ?_
        obtain ⟨LL55, XX55, NN55⟩ := own_abs X55 N55
        show Go p e below _ (T55.setTop (mkF m 366 #[iv p0, iv p1, iv p2, iv p3, iv p4, iv (p0 &&& (3 : Int32)), iv (Int32.ofNat cu), iv (own_sb cu), iv (p1 &&& (2147483647 : Int32)), .unset, .unset, .unset] [(.ref b)]))
        refine Go.pre (fun _ k => XS.dup XX55.here hx rfl (hb hby at_366) rfl rfl k) ?_
        show Go p e below _ (T55.setTop (mkF m 367 #[iv p0, iv p1, iv p2, iv p3, iv p4, iv (p0 &&& (3 : Int32)), iv (Int32.ofNat cu), iv (own_sb cu), iv (p1 &&& (2147483647 : Int32)), .unset, .unset, .unset] [(.ref b), (.ref b)]))
        refine Go.pre (fun _ k => XS.bipush XX55.here hx rfl (hb hby at_367) k) ?_
        show Go p e below _ (T55.setTop (mkF m 369 #[iv p0, iv p1, iv p2, iv p3, iv p4, iv (p0 &&& (3 : Int32)), iv (Int32.ofNat cu), iv (own_sb cu), iv (p1 &&& (2147483647 : Int32)), .unset, .unset, .unset] [(.int (9 : Int32)), (.ref b), (.ref b)]))
        refine Go.pre (fun _ k => XS.bipush XX55.here hx rfl (hb hby at_369) k) ?_
        show Go p e below _ (T55.setTop (mkF m 371 #[iv p0, iv p1, iv p2, iv p3, iv p4, iv (p0 &&& (3 : Int32)), iv (Int32.ofNat cu), iv (own_sb cu), iv (p1 &&& (2147483647 : Int32)), .unset, .unset, .unset] [(.int (58 : Int32)), (.int (9 : Int32)), (.ref b), (.ref b)]))
        obtain ⟨T56, h56, X56, e56, W56, V56, st56⟩ := own_putB XX55 hx hZ e55 V55 (j := (9 : Int32)) (by decide) 9 rfl (Nat.le_of_ble_eq_true rfl) (g := (mkF m 371 #[iv p0, iv p1, iv p2, iv p3, iv p4, iv (p0 &&& (3 : Int32)), iv (Int32.ofNat cu), iv (own_sb cu), iv (p1 &&& (2147483647 : Int32)), .unset, .unset, .unset] [(.int (58 : Int32)), (.int (9 : Int32)), (.ref b), (.ref b)])) rfl rfl (hb hby at_371)
        have V56 : Arv Z h56 b k46 .byte 21 [.int (nar .byte (p3.toInt8.toInt32)), own_vl 115, own_vl 58, own_vl 47, own_vl 47, own_vl 104, own_vl 37, own_vl 50, own_vl 97, own_vl 58, .int 0, .int 0, .int 0, .int 0, .int 0, .int 0, .int 0, .int 0, .int 0, .int 0, .int 0] (.int 0) := V56
        have K56 : Keep h0 h56 [] := K55.wr W56 (Or.inr sz_b)
        have N56 := Fr.snoc X56 NN55 g_b
        refine Go.pre st56 ?_
        obtain ⟨LL56, XX56, NN56⟩ := own_abs X56 N56
        show Go p e below _ (T56.setTop (mkF m 372 #[iv p0, iv p1, iv p2, iv p3, iv p4, iv (p0 &&& (3 : Int32)), iv (Int32.ofNat cu), iv (own_sb cu), iv (p1 &&& (2147483647 : Int32)), .unset, .unset, .unset] [(.ref b)]))
        refine Go.pre (fun _ k => XS.dup XX56.here hx rfl (hb hby at_372) rfl rfl k) ?_
        show Go p e below _ (T56.setTop (mkF m 373 #[iv p0, iv p1, iv p2, iv p3, iv p4, iv (p0 &&& (3 : Int32)), iv (Int32.ofNat cu), iv (own_sb cu), iv (p1 &&& (2147483647 : Int32)), .unset, .unset, .unset] [(.ref b), (.ref b)]))
        refine Go.pre (fun _ k => XS.bipush XX56.here hx rfl (hb hby at_373) k) ?_
        show Go p e below _ (T56.setTop (mkF m 375 #[iv p0, iv p1, iv p2, iv p3, iv p4, iv (p0 &&& (3 : Int32)), iv (Int32.ofNat cu), iv (own_sb cu), iv (p1 &&& (2147483647 : Int32)), .unset, .unset, .unset] [(.int (10 : Int32)), (.ref b), (.ref b)]))
        refine Go.pre (fun _ k => XS.bipush XX56.here hx rfl (hb hby at_375) k) ?_
        show Go p e below _ (T56.setTop (mkF m 377 #[iv p0, iv p1, iv p2, iv p3, iv p4, iv (p0 &&& (3 : Int32)), iv (Int32.ofNat cu), iv (own_sb cu), iv (p1 &&& (2147483647 : Int32)), .unset, .unset, .unset] [(.int (49 : Int32)), (.int (10 : Int32)), (.ref b), (.ref b)]))
        obtain ⟨T57, h57, X57, e57, W57, V57, st57⟩ := own_putB XX56 hx hZ e56 V56 (j := (10 : Int32)) (by decide) 10 rfl (Nat.le_of_ble_eq_true rfl) (g := (mkF m 377 #[iv p0, iv p1, iv p2, iv p3, iv p4, iv (p0 &&& (3 : Int32)), iv (Int32.ofNat cu), iv (own_sb cu), iv (p1 &&& (2147483647 : Int32)), .unset, .unset, .unset] [(.int (49 : Int32)), (.int (10 : Int32)), (.ref b), (.ref b)])) rfl rfl (hb hby at_377)
        have V57 : Arv Z h57 b k46 .byte 21 [.int (nar .byte (p3.toInt8.toInt32)), own_vl 115, own_vl 58, own_vl 47, own_vl 47, own_vl 104, own_vl 37, own_vl 50, own_vl 97, own_vl 58, own_vl 49, .int 0, .int 0, .int 0, .int 0, .int 0, .int 0, .int 0, .int 0, .int 0, .int 0] (.int 0) := V57
        have K57 : Keep h0 h57 [] := K56.wr W57 (Or.inr sz_b)
        have N57 := Fr.snoc X57 NN56 g_b
        refine Go.pre st57 ?_
        obtain ⟨LL57, XX57, NN57⟩ := own_abs X57 N57
        show Go p e below _ (T57.setTop (mkF m 378 #[iv p0, iv p1, iv p2, iv p3, iv p4, iv (p0 &&& (3 : Int32)), iv (Int32.ofNat cu), iv (own_sb cu), iv (p1 &&& (2147483647 : Int32)), .unset, .unset, .unset] [(.ref b)]))
        refine Go.pre (fun _ k => XS.dup XX57.here hx rfl (hb hby at_378) rfl rfl k) ?_
        show Go p e below _ (T57.setTop (mkF m 379 #[iv p0, iv p1, iv p2, iv p3, iv p4, iv (p0 &&& (3 : Int32)), iv (Int32.ofNat cu), iv (own_sb cu), iv (p1 &&& (2147483647 : Int32)), .unset, .unset, .unset] [(.ref b), (.ref b)]))
        refine Go.pre (fun _ k => XS.bipush XX57.here hx rfl (hb hby at_379) k) ?_
        show Go p e below _ (T57.setTop (mkF m 381 #[iv p0, iv p1, iv p2, iv p3, iv p4, iv (p0 &&& (3 : Int32)), iv (Int32.ofNat cu), iv (own_sb cu), iv (p1 &&& (2147483647 : Int32)), .unset, .unset, .unset] [(.int (11 : Int32)), (.ref b), (.ref b)]))
        refine Go.pre (fun _ k => XS.bipush XX57.here hx rfl (hb hby at_381) k) ?_
        show Go p e below _ (T57.setTop (mkF m 383 #[iv p0, iv p1, iv p2, iv p3, iv p4, iv (p0 &&& (3 : Int32)), iv (Int32.ofNat cu), iv (own_sb cu), iv (p1 &&& (2147483647 : Int32)), .unset, .unset, .unset] [(.int (50 : Int32)), (.int (11 : Int32)), (.ref b), (.ref b)]))
        obtain ⟨T58, h58, X58, e58, W58, V58, st58⟩ := own_putB XX57 hx hZ e57 V57 (j := (11 : Int32)) (by decide) 11 rfl (Nat.le_of_ble_eq_true rfl) (g := (mkF m 383 #[iv p0, iv p1, iv p2, iv p3, iv p4, iv (p0 &&& (3 : Int32)), iv (Int32.ofNat cu), iv (own_sb cu), iv (p1 &&& (2147483647 : Int32)), .unset, .unset, .unset] [(.int (50 : Int32)), (.int (11 : Int32)), (.ref b), (.ref b)])) rfl rfl (hb hby at_383)
        have V58 : Arv Z h58 b k46 .byte 21 [.int (nar .byte (p3.toInt8.toInt32)), own_vl 115, own_vl 58, own_vl 47, own_vl 47, own_vl 104, own_vl 37, own_vl 50, own_vl 97, own_vl 58, own_vl 49, own_vl 50, .int 0, .int 0, .int 0, .int 0, .int 0, .int 0, .int 0, .int 0, .int 0] (.int 0) := V58
        have K58 : Keep h0 h58 [] := K57.wr W58 (Or.inr sz_b)
        have N58 := Fr.snoc X58 NN57 g_b
        refine Go.pre st58 ?_
        obtain ⟨LL58, XX58, NN58⟩ := own_abs X58 N58
        show Go p e below _ (T58.setTop (mkF m 384 #[iv p0, iv p1, iv p2, iv p3, iv p4, iv (p0 &&& (3 : Int32)), iv (Int32.ofNat cu), iv (own_sb cu), iv (p1 &&& (2147483647 : Int32)), .unset, .unset, .unset] [(.ref b)]))
        refine Go.pre (fun _ k => XS.dup XX58.here hx rfl (hb hby at_384) rfl rfl k) ?_
        show Go p e below _ (T58.setTop (mkF m 385 #[iv p0, iv p1, iv p2, iv p3, iv p4, iv (p0 &&& (3 : Int32)), iv (Int32.ofNat cu), iv (own_sb cu), iv (p1 &&& (2147483647 : Int32)), .unset, .unset, .unset] [(.ref b), (.ref b)]))
        refine Go.pre (fun _ k => XS.bipush XX58.here hx rfl (hb hby at_385) k) ?_
        show Go p e below _ (T58.setTop (mkF m 387 #[iv p0, iv p1, iv p2, iv p3, iv p4, iv (p0 &&& (3 : Int32)), iv (Int32.ofNat cu), iv (own_sb cu), iv (p1 &&& (2147483647 : Int32)), .unset, .unset, .unset] [(.int (12 : Int32)), (.ref b), (.ref b)]))
        refine Go.pre (fun _ k => XS.bipush XX58.here hx rfl (hb hby at_387) k) ?_
        show Go p e below _ (T58.setTop (mkF m 389 #[iv p0, iv p1, iv p2, iv p3, iv p4, iv (p0 &&& (3 : Int32)), iv (Int32.ofNat cu), iv (own_sb cu), iv (p1 &&& (2147483647 : Int32)), .unset, .unset, .unset] [(.int (51 : Int32)), (.int (12 : Int32)), (.ref b), (.ref b)]))
        obtain ⟨T59, h59, X59, e59, W59, V59, st59⟩ := own_putB XX58 hx hZ e58 V58 (j := (12 : Int32)) (by decide) 12 rfl (Nat.le_of_ble_eq_true rfl) (g := (mkF m 389 #[iv p0, iv p1, iv p2, iv p3, iv p4, iv (p0 &&& (3 : Int32)), iv (Int32.ofNat cu), iv (own_sb cu), iv (p1 &&& (2147483647 : Int32)), .unset, .unset, .unset] [(.int (51 : Int32)), (.int (12 : Int32)), (.ref b), (.ref b)])) rfl rfl (hb hby at_389)
        have V59 : Arv Z h59 b k46 .byte 21 [.int (nar .byte (p3.toInt8.toInt32)), own_vl 115, own_vl 58, own_vl 47, own_vl 47, own_vl 104, own_vl 37, own_vl 50, own_vl 97, own_vl 58, own_vl 49, own_vl 50, own_vl 51, .int 0, .int 0, .int 0, .int 0, .int 0, .int 0, .int 0, .int 0] (.int 0) := V59
        have K59 : Keep h0 h59 [] := K58.wr W59 (Or.inr sz_b)
        have N59 := Fr.snoc X59 NN58 g_b
        refine Go.pre st59 ?_
        obtain ⟨LL59, XX59, NN59⟩ := own_abs X59 N59
        show Go p e below _ (T59.setTop (mkF m 390 #[iv p0, iv p1, iv p2, iv p3, iv p4, iv (p0 &&& (3 : Int32)), iv (Int32.ofNat cu), iv (own_sb cu), iv (p1 &&& (2147483647 : Int32)), .unset, .unset, .unset] [(.ref b)]))
        refine Go.pre (fun _ k => XS.dup XX59.here hx rfl (hb hby at_390) rfl rfl k) ?_
        show Go p e below _ (T59.setTop (mkF m 391 #[iv p0, iv p1, iv p2, iv p3, iv p4, iv (p0 &&& (3 : Int32)), iv (Int32.ofNat cu), iv (own_sb cu), iv (p1 &&& (2147483647 : Int32)), .unset, .unset, .unset] [(.ref b), (.ref b)]))
        refine Go.pre (fun _ k => XS.bipush XX59.here hx rfl (hb hby at_391) k) ?_
        show Go p e below _ (T59.setTop (mkF m 393 #[iv p0, iv p1, iv p2, iv p3, iv p4, iv (p0 &&& (3 : Int32)), iv (Int32.ofNat cu), iv (own_sb cu), iv (p1 &&& (2147483647 : Int32)), .unset, .unset, .unset] [(.int (13 : Int32)), (.ref b), (.ref b)]))
        refine Go.pre (fun _ k => XS.bipush XX59.here hx rfl (hb hby at_393) k) ?_
        show Go p e below _ (T59.setTop (mkF m 395 #[iv p0, iv p1, iv p2, iv p3, iv p4, iv (p0 &&& (3 : Int32)), iv (Int32.ofNat cu), iv (own_sb cu), iv (p1 &&& (2147483647 : Int32)), .unset, .unset, .unset] [(.int (52 : Int32)), (.int (13 : Int32)), (.ref b), (.ref b)]))
        obtain ⟨T60, h60, X60, e60, W60, V60, st60⟩ := own_putB XX59 hx hZ e59 V59 (j := (13 : Int32)) (by decide) 13 rfl (Nat.le_of_ble_eq_true rfl) (g := (mkF m 395 #[iv p0, iv p1, iv p2, iv p3, iv p4, iv (p0 &&& (3 : Int32)), iv (Int32.ofNat cu), iv (own_sb cu), iv (p1 &&& (2147483647 : Int32)), .unset, .unset, .unset] [(.int (52 : Int32)), (.int (13 : Int32)), (.ref b), (.ref b)])) rfl rfl (hb hby at_395)
        have V60 : Arv Z h60 b k46 .byte 21 [.int (nar .byte (p3.toInt8.toInt32)), own_vl 115, own_vl 58, own_vl 47, own_vl 47, own_vl 104, own_vl 37, own_vl 50, own_vl 97, own_vl 58, own_vl 49, own_vl 50, own_vl 51, own_vl 52, .int 0, .int 0, .int 0, .int 0, .int 0, .int 0, .int 0] (.int 0) := V60
        have K60 : Keep h0 h60 [] := K59.wr W60 (Or.inr sz_b)
        have N60 := Fr.snoc X60 NN59 g_b
        refine Go.pre st60 ?_
        obtain ⟨LL60, XX60, NN60⟩ := own_abs X60 N60
        show Go p e below _ (T60.setTop (mkF m 396 #[iv p0, iv p1, iv p2, iv p3, iv p4, iv (p0 &&& (3 : Int32)), iv (Int32.ofNat cu), iv (own_sb cu), iv (p1 &&& (2147483647 : Int32)), .unset, .unset, .unset] [(.ref b)]))
        refine Go.pre (fun _ k => XS.dup XX60.here hx rfl (hb hby at_396) rfl rfl k) ?_
        show Go p e below _ (T60.setTop (mkF m 397 #[iv p0, iv p1, iv p2, iv p3, iv p4, iv (p0 &&& (3 : Int32)), iv (Int32.ofNat cu), iv (own_sb cu), iv (p1 &&& (2147483647 : Int32)), .unset, .unset, .unset] [(.ref b), (.ref b)]))
        refine Go.pre (fun _ k => XS.bipush XX60.here hx rfl (hb hby at_397) k) ?_
        show Go p e below _ (T60.setTop (mkF m 399 #[iv p0, iv p1, iv p2, iv p3, iv p4, iv (p0 &&& (3 : Int32)), iv (Int32.ofNat cu), iv (own_sb cu), iv (p1 &&& (2147483647 : Int32)), .unset, .unset, .unset] [(.int (14 : Int32)), (.ref b), (.ref b)]))
        refine Go.pre (fun _ k => XS.bipush XX60.here hx rfl (hb hby at_399) k) ?_
        show Go p e below _ (T60.setTop (mkF m 401 #[iv p0, iv p1, iv p2, iv p3, iv p4, iv (p0 &&& (3 : Int32)), iv (Int32.ofNat cu), iv (own_sb cu), iv (p1 &&& (2147483647 : Int32)), .unset, .unset, .unset] [(.int (53 : Int32)), (.int (14 : Int32)), (.ref b), (.ref b)]))
        obtain ⟨T61, h61, X61, e61, W61, V61, st61⟩ := own_putB XX60 hx hZ e60 V60 (j := (14 : Int32)) (by decide) 14 rfl (Nat.le_of_ble_eq_true rfl) (g := (mkF m 401 #[iv p0, iv p1, iv p2, iv p3, iv p4, iv (p0 &&& (3 : Int32)), iv (Int32.ofNat cu), iv (own_sb cu), iv (p1 &&& (2147483647 : Int32)), .unset, .unset, .unset] [(.int (53 : Int32)), (.int (14 : Int32)), (.ref b), (.ref b)])) rfl rfl (hb hby at_401)
        have V61 : Arv Z h61 b k46 .byte 21 [.int (nar .byte (p3.toInt8.toInt32)), own_vl 115, own_vl 58, own_vl 47, own_vl 47, own_vl 104, own_vl 37, own_vl 50, own_vl 97, own_vl 58, own_vl 49, own_vl 50, own_vl 51, own_vl 52, own_vl 53, .int 0, .int 0, .int 0, .int 0, .int 0, .int 0] (.int 0) := V61
        have K61 : Keep h0 h61 [] := K60.wr W61 (Or.inr sz_b)
        have N61 := Fr.snoc X61 NN60 g_b
        refine Go.pre st61 ?_
        obtain ⟨LL61, XX61, NN61⟩ := own_abs X61 N61
        show Go p e below _ (T61.setTop (mkF m 402 #[iv p0, iv p1, iv p2, iv p3, iv p4, iv (p0 &&& (3 : Int32)), iv (Int32.ofNat cu), iv (own_sb cu), iv (p1 &&& (2147483647 : Int32)), .unset, .unset, .unset] [(.ref b)]))
        refine Go.pre (fun _ k => XS.dup XX61.here hx rfl (hb hby at_402) rfl rfl k) ?_
        show Go p e below _ (T61.setTop (mkF m 403 #[iv p0, iv p1, iv p2, iv p3, iv p4, iv (p0 &&& (3 : Int32)), iv (Int32.ofNat cu), iv (own_sb cu), iv (p1 &&& (2147483647 : Int32)), .unset, .unset, .unset] [(.ref b), (.ref b)]))
        refine Go.pre (fun _ k => XS.bipush XX61.here hx rfl (hb hby at_403) k) ?_
        show Go p e below _ (T61.setTop (mkF m 405 #[iv p0, iv p1, iv p2, iv p3, iv p4, iv (p0 &&& (3 : Int32)), iv (Int32.ofNat cu), iv (own_sb cu), iv (p1 &&& (2147483647 : Int32)), .unset, .unset, .unset] [(.int (15 : Int32)), (.ref b), (.ref b)]))
        refine Go.pre (fun _ k => XS.bipush XX61.here hx rfl (hb hby at_405) k) ?_
        show Go p e below _ (T61.setTop (mkF m 407 #[iv p0, iv p1, iv p2, iv p3, iv p4, iv (p0 &&& (3 : Int32)), iv (Int32.ofNat cu), iv (own_sb cu), iv (p1 &&& (2147483647 : Int32)), .unset, .unset, .unset] [(.int (54 : Int32)), (.int (15 : Int32)), (.ref b), (.ref b)]))
        obtain ⟨T62, h62, X62, e62, W62, V62, st62⟩ := own_putB XX61 hx hZ e61 V61 (j := (15 : Int32)) (by decide) 15 rfl (Nat.le_of_ble_eq_true rfl) (g := (mkF m 407 #[iv p0, iv p1, iv p2, iv p3, iv p4, iv (p0 &&& (3 : Int32)), iv (Int32.ofNat cu), iv (own_sb cu), iv (p1 &&& (2147483647 : Int32)), .unset, .unset, .unset] [(.int (54 : Int32)), (.int (15 : Int32)), (.ref b), (.ref b)])) rfl rfl (hb hby at_407)
        have V62 : Arv Z h62 b k46 .byte 21 [.int (nar .byte (p3.toInt8.toInt32)), own_vl 115, own_vl 58, own_vl 47, own_vl 47, own_vl 104, own_vl 37, own_vl 50, own_vl 97, own_vl 58, own_vl 49, own_vl 50, own_vl 51, own_vl 52, own_vl 53, own_vl 54, .int 0, .int 0, .int 0, .int 0, .int 0] (.int 0) := V62
        have K62 : Keep h0 h62 [] := K61.wr W62 (Or.inr sz_b)
        have N62 := Fr.snoc X62 NN61 g_b
        refine Go.pre st62 ?_
        obtain ⟨LL62, XX62, NN62⟩ := own_abs X62 N62
        show Go p e below _ (T62.setTop (mkF m 408 #[iv p0, iv p1, iv p2, iv p3, iv p4, iv (p0 &&& (3 : Int32)), iv (Int32.ofNat cu), iv (own_sb cu), iv (p1 &&& (2147483647 : Int32)), .unset, .unset, .unset] [(.ref b)]))
        refine Go.pre (fun _ k => XS.dup XX62.here hx rfl (hb hby at_408) rfl rfl k) ?_
        show Go p e below _ (T62.setTop (mkF m 409 #[iv p0, iv p1, iv p2, iv p3, iv p4, iv (p0 &&& (3 : Int32)), iv (Int32.ofNat cu), iv (own_sb cu), iv (p1 &&& (2147483647 : Int32)), .unset, .unset, .unset] [(.ref b), (.ref b)]))
        refine Go.pre (fun _ k => XS.bipush XX62.here hx rfl (hb hby at_409) k) ?_
        show Go p e below _ (T62.setTop (mkF m 411 #[iv p0, iv p1, iv p2, iv p3, iv p4, iv (p0 &&& (3 : Int32)), iv (Int32.ofNat cu), iv (own_sb cu), iv (p1 &&& (2147483647 : Int32)), .unset, .unset, .unset] [(.int (16 : Int32)), (.ref b), (.ref b)]))
        refine Go.pre (fun _ k => XS.bipush XX62.here hx rfl (hb hby at_411) k) ?_
        show Go p e below _ (T62.setTop (mkF m 413 #[iv p0, iv p1, iv p2, iv p3, iv p4, iv (p0 &&& (3 : Int32)), iv (Int32.ofNat cu), iv (own_sb cu), iv (p1 &&& (2147483647 : Int32)), .unset, .unset, .unset] [(.int (55 : Int32)), (.int (16 : Int32)), (.ref b), (.ref b)]))
        obtain ⟨T63, h63, X63, e63, W63, V63, st63⟩ := own_putB XX62 hx hZ e62 V62 (j := (16 : Int32)) (by decide) 16 rfl (Nat.le_of_ble_eq_true rfl) (g := (mkF m 413 #[iv p0, iv p1, iv p2, iv p3, iv p4, iv (p0 &&& (3 : Int32)), iv (Int32.ofNat cu), iv (own_sb cu), iv (p1 &&& (2147483647 : Int32)), .unset, .unset, .unset] [(.int (55 : Int32)), (.int (16 : Int32)), (.ref b), (.ref b)])) rfl rfl (hb hby at_413)
        have V63 : Arv Z h63 b k46 .byte 21 [.int (nar .byte (p3.toInt8.toInt32)), own_vl 115, own_vl 58, own_vl 47, own_vl 47, own_vl 104, own_vl 37, own_vl 50, own_vl 97, own_vl 58, own_vl 49, own_vl 50, own_vl 51, own_vl 52, own_vl 53, own_vl 54, own_vl 55, .int 0, .int 0, .int 0, .int 0] (.int 0) := V63
        have K63 : Keep h0 h63 [] := K62.wr W63 (Or.inr sz_b)
        have N63 := Fr.snoc X63 NN62 g_b
        refine Go.pre st63 ?_
        obtain ⟨LL63, XX63, NN63⟩ := own_abs X63 N63
        show Go p e below _ (T63.setTop (mkF m 414 #[iv p0, iv p1, iv p2, iv p3, iv p4, iv (p0 &&& (3 : Int32)), iv (Int32.ofNat cu), iv (own_sb cu), iv (p1 &&& (2147483647 : Int32)), .unset, .unset, .unset] [(.ref b)]))
        refine Go.pre (fun _ k => XS.dup XX63.here hx rfl (hb hby at_414) rfl rfl k) ?_
        show Go p e below _ (T63.setTop (mkF m 415 #[iv p0, iv p1, iv p2, iv p3, iv p4, iv (p0 &&& (3 : Int32)), iv (Int32.ofNat cu), iv (own_sb cu), iv (p1 &&& (2147483647 : Int32)), .unset, .unset, .unset] [(.ref b), (.ref b)]))
        refine Go.pre (fun _ k => XS.bipush XX63.here hx rfl (hb hby at_415) k) ?_
        show Go p e below _ (T63.setTop (mkF m 417 #[iv p0, iv p1, iv p2, iv p3, iv p4, iv (p0 &&& (3 : Int32)), iv (Int32.ofNat cu), iv (own_sb cu), iv (p1 &&& (2147483647 : Int32)), .unset, .unset, .unset] [(.int (17 : Int32)), (.ref b), (.ref b)]))
        refine Go.pre (fun _ k => XS.bipush XX63.here hx rfl (hb hby at_417) k) ?_
        show Go p e below _ (T63.setTop (mkF m 419 #[iv p0, iv p1, iv p2, iv p3, iv p4, iv (p0 &&& (3 : Int32)), iv (Int32.ofNat cu), iv (own_sb cu), iv (p1 &&& (2147483647 : Int32)), .unset, .unset, .unset] [(.int (56 : Int32)), (.int (17 : Int32)), (.ref b), (.ref b)]))
        obtain ⟨T64, h64, X64, e64, W64, V64, st64⟩ := own_putB XX63 hx hZ e63 V63 (j := (17 : Int32)) (by decide) 17 rfl (Nat.le_of_ble_eq_true rfl) (g := (mkF m 419 #[iv p0, iv p1, iv p2, iv p3, iv p4, iv (p0 &&& (3 : Int32)), iv (Int32.ofNat cu), iv (own_sb cu), iv (p1 &&& (2147483647 : Int32)), .unset, .unset, .unset] [(.int (56 : Int32)), (.int (17 : Int32)), (.ref b), (.ref b)])) rfl rfl (hb hby at_419)
        have V64 : Arv Z h64 b k46 .byte 21 [.int (nar .byte (p3.toInt8.toInt32)), own_vl 115, own_vl 58, own_vl 47, own_vl 47, own_vl 104, own_vl 37, own_vl 50, own_vl 97, own_vl 58, own_vl 49, own_vl 50, own_vl 51, own_vl 52, own_vl 53, own_vl 54, own_vl 55, own_vl 56, .int 0, .int 0, .int 0] (.int 0) := V64
        have K64 : Keep h0 h64 [] := K63.wr W64 (Or.inr sz_b)
        have N64 := Fr.snoc X64 NN63 g_b
        refine Go.pre st64 ?_
        obtain ⟨LL64, XX64, NN64⟩ := own_abs X64 N64
        show Go p e below _ (T64.setTop (mkF m 420 #[iv p0, iv p1, iv p2, iv p3, iv p4, iv (p0 &&& (3 : Int32)), iv (Int32.ofNat cu), iv (own_sb cu), iv (p1 &&& (2147483647 : Int32)), .unset, .unset, .unset] [(.ref b)]))
        refine Go.pre (fun _ k => XS.dup XX64.here hx rfl (hb hby at_420) rfl rfl k) ?_
        show Go p e below _ (T64.setTop (mkF m 421 #[iv p0, iv p1, iv p2, iv p3, iv p4, iv (p0 &&& (3 : Int32)), iv (Int32.ofNat cu), iv (own_sb cu), iv (p1 &&& (2147483647 : Int32)), .unset, .unset, .unset] [(.ref b), (.ref b)]))
        refine Go.pre (fun _ k => XS.bipush XX64.here hx rfl (hb hby at_421) k) ?_
        show Go p e below _ (T64.setTop (mkF m 423 #[iv p0, iv p1, iv p2, iv p3, iv p4, iv (p0 &&& (3 : Int32)), iv (Int32.ofNat cu), iv (own_sb cu), iv (p1 &&& (2147483647 : Int32)), .unset, .unset, .unset] [(.int (18 : Int32)), (.ref b), (.ref b)]))
        refine Go.pre (fun _ k => XS.bipush XX64.here hx rfl (hb hby at_423) k) ?_
        show Go p e below _ (T64.setTop (mkF m 425 #[iv p0, iv p1, iv p2, iv p3, iv p4, iv (p0 &&& (3 : Int32)), iv (Int32.ofNat cu), iv (own_sb cu), iv (p1 &&& (2147483647 : Int32)), .unset, .unset, .unset] [(.int (57 : Int32)), (.int (18 : Int32)), (.ref b), (.ref b)]))
        obtain ⟨T65, h65, X65, e65, W65, V65, st65⟩ := own_putB XX64 hx hZ e64 V64 (j := (18 : Int32)) (by decide) 18 rfl (Nat.le_of_ble_eq_true rfl) (g := (mkF m 425 #[iv p0, iv p1, iv p2, iv p3, iv p4, iv (p0 &&& (3 : Int32)), iv (Int32.ofNat cu), iv (own_sb cu), iv (p1 &&& (2147483647 : Int32)), .unset, .unset, .unset] [(.int (57 : Int32)), (.int (18 : Int32)), (.ref b), (.ref b)])) rfl rfl (hb hby at_425)
        have V65 : Arv Z h65 b k46 .byte 21 [.int (nar .byte (p3.toInt8.toInt32)), own_vl 115, own_vl 58, own_vl 47, own_vl 47, own_vl 104, own_vl 37, own_vl 50, own_vl 97, own_vl 58, own_vl 49, own_vl 50, own_vl 51, own_vl 52, own_vl 53, own_vl 54, own_vl 55, own_vl 56, own_vl 57, .int 0, .int 0] (.int 0) := V65
        have K65 : Keep h0 h65 [] := K64.wr W65 (Or.inr sz_b)
        have N65 := Fr.snoc X65 NN64 g_b
        refine Go.pre st65 ?_
        obtain ⟨LL65, XX65, NN65⟩ := own_abs X65 N65
        show Go p e below _ (T65.setTop (mkF m 426 #[iv p0, iv p1, iv p2, iv p3, iv p4, iv (p0 &&& (3 : Int32)), iv (Int32.ofNat cu), iv (own_sb cu), iv (p1 &&& (2147483647 : Int32)), .unset, .unset, .unset] [(.ref b)]))
        refine Go.pre (fun _ k => XS.dup XX65.here hx rfl (hb hby at_426) rfl rfl k) ?_
        show Go p e below _ (T65.setTop (mkF m 427 #[iv p0, iv p1, iv p2, iv p3, iv p4, iv (p0 &&& (3 : Int32)), iv (Int32.ofNat cu), iv (own_sb cu), iv (p1 &&& (2147483647 : Int32)), .unset, .unset, .unset] [(.ref b), (.ref b)]))
        refine Go.pre (fun _ k => XS.bipush XX65.here hx rfl (hb hby at_427) k) ?_
        show Go p e below _ (T65.setTop (mkF m 429 #[iv p0, iv p1, iv p2, iv p3, iv p4, iv (p0 &&& (3 : Int32)), iv (Int32.ofNat cu), iv (own_sb cu), iv (p1 &&& (2147483647 : Int32)), .unset, .unset, .unset] [(.int (19 : Int32)), (.ref b), (.ref b)]))
        refine Go.pre (fun _ k => XS.bipush XX65.here hx rfl (hb hby at_429) k) ?_
        show Go p e below _ (T65.setTop (mkF m 431 #[iv p0, iv p1, iv p2, iv p3, iv p4, iv (p0 &&& (3 : Int32)), iv (Int32.ofNat cu), iv (own_sb cu), iv (p1 &&& (2147483647 : Int32)), .unset, .unset, .unset] [(.int (48 : Int32)), (.int (19 : Int32)), (.ref b), (.ref b)]))
        obtain ⟨T66, h66, X66, e66, W66, V66, st66⟩ := own_putB XX65 hx hZ e65 V65 (j := (19 : Int32)) (by decide) 19 rfl (Nat.le_of_ble_eq_true rfl) (g := (mkF m 431 #[iv p0, iv p1, iv p2, iv p3, iv p4, iv (p0 &&& (3 : Int32)), iv (Int32.ofNat cu), iv (own_sb cu), iv (p1 &&& (2147483647 : Int32)), .unset, .unset, .unset] [(.int (48 : Int32)), (.int (19 : Int32)), (.ref b), (.ref b)])) rfl rfl (hb hby at_431)
        have V66 : Arv Z h66 b k46 .byte 21 [.int (nar .byte (p3.toInt8.toInt32)), own_vl 115, own_vl 58, own_vl 47, own_vl 47, own_vl 104, own_vl 37, own_vl 50, own_vl 97, own_vl 58, own_vl 49, own_vl 50, own_vl 51, own_vl 52, own_vl 53, own_vl 54, own_vl 55, own_vl 56, own_vl 57, own_vl 48, .int 0] (.int 0) := V66
        have K66 : Keep h0 h66 [] := K65.wr W66 (Or.inr sz_b)
        have N66 := Fr.snoc X66 NN65 g_b
        refine Go.pre st66 ?_
        obtain ⟨LL66, XX66, NN66⟩ := own_abs X66 N66
        show Go p e below _ (T66.setTop (mkF m 432 #[iv p0, iv p1, iv p2, iv p3, iv p4, iv (p0 &&& (3 : Int32)), iv (Int32.ofNat cu), iv (own_sb cu), iv (p1 &&& (2147483647 : Int32)), .unset, .unset, .unset] [(.ref b)]))
        refine Go.pre (fun _ k => XS.dup XX66.here hx rfl (hb hby at_432) rfl rfl k) ?_
        show Go p e below _ (T66.setTop (mkF m 433 #[iv p0, iv p1, iv p2, iv p3, iv p4, iv (p0 &&& (3 : Int32)), iv (Int32.ofNat cu), iv (own_sb cu), iv (p1 &&& (2147483647 : Int32)), .unset, .unset, .unset] [(.ref b), (.ref b)]))
        refine Go.pre (fun _ k => XS.bipush XX66.here hx rfl (hb hby at_433) k) ?_
        show Go p e below _ (T66.setTop (mkF m 435 #[iv p0, iv p1, iv p2, iv p3, iv p4, iv (p0 &&& (3 : Int32)), iv (Int32.ofNat cu), iv (own_sb cu), iv (p1 &&& (2147483647 : Int32)), .unset, .unset, .unset] [(.int (20 : Int32)), (.ref b), (.ref b)]))
        refine Go.pre (fun _ k => XS.iload XX66.here hx rfl (hb hby at_435) rfl k) ?_
        show Go p e below _ (T66.setTop (mkF m 437 #[iv p0, iv p1, iv p2, iv p3, iv p4, iv (p0 &&& (3 : Int32)), iv (Int32.ofNat cu), iv (own_sb cu), iv (p1 &&& (2147483647 : Int32)), .unset, .unset, .unset] [(.int p4), (.int (20 : Int32)), (.ref b), (.ref b)]))
        refine Go.pre (fun _ k => XS.i2b XX66.here hx rfl (hb hby at_437) rfl k) ?_
        show Go p e below _ (T66.setTop (mkF m 438 #[iv p0, iv p1, iv p2, iv p3, iv p4, iv (p0 &&& (3 : Int32)), iv (Int32.ofNat cu), iv (own_sb cu), iv (p1 &&& (2147483647 : Int32)), .unset, .unset, .unset] [(.int (p4.toInt8.toInt32)), (.int (20 : Int32)), (.ref b), (.ref b)]))
        obtain ⟨T67, h67, X67, e67, W67, V67, st67⟩ := own_putB XX66 hx hZ e66 V66 (j := (20 : Int32)) (by decide) 20 rfl (Nat.le_of_ble_eq_true rfl) (g := (mkF m 438 #[iv p0, iv p1, iv p2, iv p3, iv p4, iv (p0 &&& (3 : Int32)), iv (Int32.ofNat cu), iv (own_sb cu), iv (p1 &&& (2147483647 : Int32)), .unset, .unset, .unset] [(.int (p4.toInt8.toInt32)), (.int (20 : Int32)), (.ref b), (.ref b)])) rfl rfl (hb hby at_438)
        have V67 : Arv Z h67 b k46 .byte 21 [.int (nar .byte (p3.toInt8.toInt32)), own_vl 115, own_vl 58, own_vl 47, own_vl 47, own_vl 104, own_vl 37, own_vl 50, own_vl 97, own_vl 58, own_vl 49, own_vl 50, own_vl 51, own_vl 52, own_vl 53, own_vl 54, own_vl 55, own_vl 56, own_vl 57, own_vl 48, .int (nar .byte (p4.toInt8.toInt32))] (.int 0) := V67
        have K67 : Keep h0 h67 [] := K66.wr W67 (Or.inr sz_b)
        have N67 := Fr.snoc X67 NN66 g_b
        refine Go.pre st67 ?_
        obtain ⟨LL67, XX67, NN67⟩ := own_abs X67 N67
        show Go p e below _ (T67.setTop (mkF m 439 #[iv p0, iv p1, iv p2, iv p3, iv p4, iv (p0 &&& (3 : Int32)), iv (Int32.ofNat cu), iv (own_sb cu), iv (p1 &&& (2147483647 : Int32)), .unset, .unset, .unset] [(.ref b)]))
        refine Go.pre (fun _ k => XS.astore XX67.here hx rfl (hb hby at_439) rfl rfl (l' := #[iv p0, iv p1, iv p2, iv p3, iv p4, iv (p0 &&& (3 : Int32)), iv (Int32.ofNat cu), iv (own_sb cu), iv (p1 &&& (2147483647 : Int32)), rv b, .unset, .unset]) rfl k) ?_
        show Go p e below _ (T67.setTop (mkF m 441 #[iv p0, iv p1, iv p2, iv p3, iv p4, iv (p0 &&& (3 : Int32)), iv (Int32.ofNat cu), iv (own_sb cu), iv (p1 &&& (2147483647 : Int32)), rv b, .unset, .unset] []))
        refine Go.pre (fun _ k => XS.iload XX67.here hx rfl (hb hby at_441) rfl k) ?_
        show Go p e below _ (T67.setTop (mkF m 443 #[iv p0, iv p1, iv p2, iv p3, iv p4, iv (p0 &&& (3 : Int32)), iv (Int32.ofNat cu), iv (own_sb cu), iv (p1 &&& (2147483647 : Int32)), rv b, .unset, .unset] [(.int (p1 &&& (2147483647 : Int32)))]))
        refine Go.pre (fun _ k => XS.bipush XX67.here hx rfl (hb hby at_443) k) ?_
        show Go p e below _ (T67.setTop (mkF m 445 #[iv p0, iv p1, iv p2, iv p3, iv p4, iv (p0 &&& (3 : Int32)), iv (Int32.ofNat cu), iv (own_sb cu), iv (p1 &&& (2147483647 : Int32)), rv b, .unset, .unset] [(.int (19 : Int32)), (.int (p1 &&& (2147483647 : Int32)))]))
        refine Go.pre (fun _ k => XS.irem XX67.here hx rfl (hb hby at_445) rfl (by decide) k) ?_
        show Go p e below _ (T67.setTop (mkF m 446 #[iv p0, iv p1, iv p2, iv p3, iv p4, iv (p0 &&& (3 : Int32)), iv (Int32.ofNat cu), iv (own_sb cu), iv (p1 &&& (2147483647 : Int32)), rv b, .unset, .unset] [(.int ((p1 &&& (2147483647 : Int32)) - (p1 &&& (2147483647 : Int32)) / (19 : Int32) * (19 : Int32)))]))
        obtain ⟨ku, hku, ek⟩ := own_rem19 p1
        rw [ek]
        show Go p e below _ (T67.setTop (mkF m 446 #[iv p0, iv p1, iv p2, iv p3, iv p4, iv (p0 &&& (3 : Int32)), iv (Int32.ofNat cu), iv (own_sb cu), iv (p1 &&& (2147483647 : Int32)), rv b, .unset, .unset] [(.int (Int32.ofNat ku))]))
        refine Go.pre (fun _ k => XS.istore XX67.here hx rfl (hb hby at_446) rfl (l' := #[iv p0, iv p1, iv p2, iv p3, iv p4, iv (p0 &&& (3 : Int32)), iv (Int32.ofNat cu), iv (own_sb cu), iv (p1 &&& (2147483647 : Int32)), rv b, iv (Int32.ofNat ku), .unset]) rfl k) ?_
        show Go p e below _ (T67.setTop (mkF m 448 #[iv p0, iv p1, iv p2, iv p3, iv p4, iv (p0 &&& (3 : Int32)), iv (Int32.ofNat cu), iv (own_sb cu), iv (p1 &&& (2147483647 : Int32)), rv b, iv (Int32.ofNat ku), .unset] []))
        refine Go.pre (fun _ k => XS.aload XX67.here hx rfl (hb hby at_448) rfl rfl k) ?_
        show Go p e below _ (T67.setTop (mkF m 450 #[iv p0, iv p1, iv p2, iv p3, iv p4, iv (p0 &&& (3 : Int32)), iv (Int32.ofNat cu), iv (own_sb cu), iv (p1 &&& (2147483647 : Int32)), rv b, iv (Int32.ofNat ku), .unset] [(.ref b)]))
        refine Go.pre (fun _ k => XS.iconst XX67.here hx rfl (hb hby at_450) k) ?_
        show Go p e below _ (T67.setTop (mkF m 451 #[iv p0, iv p1, iv p2, iv p3, iv p4, iv (p0 &&& (3 : Int32)), iv (Int32.ofNat cu), iv (own_sb cu), iv (p1 &&& (2147483647 : Int32)), rv b, iv (Int32.ofNat ku), .unset] [(.int (1 : Int32)), (.ref b)]))
        refine Go.pre (fun _ k => XS.iload XX67.here hx rfl (hb hby at_451) rfl k) ?_
        show Go p e below _ (T67.setTop (mkF m 453 #[iv p0, iv p1, iv p2, iv p3, iv p4, iv (p0 &&& (3 : Int32)), iv (Int32.ofNat cu), iv (own_sb cu), iv (p1 &&& (2147483647 : Int32)), rv b, iv (Int32.ofNat ku), .unset] [(.int (Int32.ofNat ku)), (.int (1 : Int32)), (.ref b)]))
        refine Go.pre (fun _ k => XS.iadd XX67.here hx rfl (hb hby at_453) rfl k) ?_
        show Go p e below _ (T67.setTop (mkF m 454 #[iv p0, iv p1, iv p2, iv p3, iv p4, iv (p0 &&& (3 : Int32)), iv (Int32.ofNat cu), iv (own_sb cu), iv (p1 &&& (2147483647 : Int32)), rv b, iv (Int32.ofNat ku), .unset] [(.int ((Int32.ofNat 1) + (Int32.ofNat ku))), (.ref b)]))
        rw [own_oadd]
        show Go p e below _ (T67.setTop (mkF m 454 #[iv p0, iv p1, iv p2, iv p3, iv p4, iv (p0 &&& (3 : Int32)), iv (Int32.ofNat cu), iv (own_sb cu), iv (p1 &&& (2147483647 : Int32)), rv b, iv (Int32.ofNat ku), .unset] [(.int (Int32.ofNat (1 + ku))), (.ref b)]))
        refine Go.pre (fun _ k => XS.iload XX67.here hx rfl (hb hby at_454) rfl k) ?_
        show Go p e below _ (T67.setTop (mkF m 456 #[iv p0, iv p1, iv p2, iv p3, iv p4, iv (p0 &&& (3 : Int32)), iv (Int32.ofNat cu), iv (own_sb cu), iv (p1 &&& (2147483647 : Int32)), rv b, iv (Int32.ofNat ku), .unset] [(.int (own_sb cu)), (.int (Int32.ofNat (1 + ku))), (.ref b)]))
        have V68t : Arv Z h67 b k46 .byte 21 ((.int (nar .byte (p3.toInt8.toInt32))) :: (own_tC.map own_vl ++ [.int (nar .byte (p4.toInt8.toInt32))])) (.int 0) := by simp only [own_tC, List.map_cons, List.map_nil, List.cons_append, List.nil_append]; exact V67
        obtain ⟨T68, h68, X68, e68, W68, V68, st68⟩ := own_putB XX67 hx hZ e67 V68t (j := (Int32.ofNat (1 + ku))) ⟨own_nn (by omega), (own_ol (b := 21) (by omega) (by omega)).mpr (by omega)⟩ (1 + ku) (own_clamp (by omega)) (by simp only [own_tC, List.length_cons, List.length_append, List.length_map, List.length_nil]; omega) (g := (mkF m 456 #[iv p0, iv p1, iv p2, iv p3, iv p4, iv (p0 &&& (3 : Int32)), iv (Int32.ofNat cu), iv (own_sb cu), iv (p1 &&& (2147483647 : Int32)), rv b, iv (Int32.ofNat ku), .unset] [(.int (own_sb cu)), (.int (Int32.ofNat (1 + ku))), (.ref b)])) rfl rfl (hb hby at_456)
        have V68 : Arv Z h68 b k46 .byte 21 (((.int (nar .byte (p3.toInt8.toInt32))) :: (own_tC.map own_vl ++ [.int (nar .byte (p4.toInt8.toInt32))])).set (1 + ku) (.int (nar .byte (own_sb cu)))) (.int 0) := V68
        have B : Byt Z h68 b (own_b (own_tC.set ku cu)) 20 := own_byt V68 (by decide) (by decide) (fun i q1 q2 => own_vs own_tC _ _ _ ku cu i q1 (by simp only [own_tC, List.length_cons, List.length_nil]; omega))
        have K68 : Keep h0 h68 [] := K67.wr W68 (Or.inr sz_b)
        have N68 := Fr.snoc X68 NN67 g_b
        refine Go.pre st68 ?_
        obtain ⟨LL68, XX68, NN68⟩ := own_abs X68 N68
        show Go p e below _ (T68.setTop (mkF m 457 #[iv p0, iv p1, iv p2, iv p3, iv p4, iv (p0 &&& (3 : Int32)), iv (Int32.ofNat cu), iv (own_sb cu), iv (p1 &&& (2147483647 : Int32)), rv b, iv (Int32.ofNat ku), .unset] []))
        refine Go.pre (fun _ k => XS.aload XX68.here hx rfl (hb hby at_457) rfl rfl k) ?_
        show Go p e below _ (T68.setTop (mkF m 459 #[iv p0, iv p1, iv p2, iv p3, iv p4, iv (p0 &&& (3 : Int32)), iv (Int32.ofNat cu), iv (own_sb cu), iv (p1 &&& (2147483647 : Int32)), rv b, iv (Int32.ofNat ku), .unset] [(.ref b)]))
        refine Go.pre (fun _ k => XS.iconst XX68.here hx rfl (hb hby at_459) k) ?_
        show Go p e below _ (T68.setTop (mkF m 460 #[iv p0, iv p1, iv p2, iv p3, iv p4, iv (p0 &&& (3 : Int32)), iv (Int32.ofNat cu), iv (own_sb cu), iv (p1 &&& (2147483647 : Int32)), rv b, iv (Int32.ofNat ku), .unset] [(.int (1 : Int32)), (.ref b)]))
        refine Go.pre (fun _ k => XS.bipush XX68.here hx rfl (hb hby at_460) k) ?_
        show Go p e below _ (T68.setTop (mkF m 462 #[iv p0, iv p1, iv p2, iv p3, iv p4, iv (p0 &&& (3 : Int32)), iv (Int32.ofNat cu), iv (own_sb cu), iv (p1 &&& (2147483647 : Int32)), rv b, iv (Int32.ofNat ku), .unset] [(.int (20 : Int32)), (.int (1 : Int32)), (.ref b)]))
        obtain ⟨_, _, ⟨T69, L69, k69, n69⟩, -, X69, ⟨Lc69, hQ69, l69, y69, z69⟩, st69⟩ := Jvm.LawKit.callS XX68 hx (y := (⟨"com/example/entayl/entayl/input/IriTable", "isPlainIri", "([BII)Z"⟩ : MethodName)) hown (mvT hZ (hw _ (List.mem_of_getElem? (i := 2) rfl))) (mvT hZ (hw _ (List.mem_of_getElem? (i := 3) rfl))) (mvT hZ (hw _ (List.mem_of_getElem? (i := 4) rfl))) (mvT hZ (hw _ (List.mem_of_getElem? (i := 5) rfl))) (by decide) (backOf (W := 0) (rm_plain l Z a0 hw [] b (own_b (own_tC.set ku cu)) 20 ck h68 n0 (Nat.le_trans Z0 K68.1) B (own_b8 own_tC ku cu (by decide) hcu) (by omega) (own_staK SK K68) (own_kdK KD K68) (by omega)) hZ (hw _ (List.mem_of_getElem? (i := 5) rfl)) (hw _ (List.mem_of_getElem? (i := 4) rfl)) (by decide) (by decide)) (g := (mkF m 462 #[iv p0, iv p1, iv p2, iv p3, iv p4, iv (p0 &&& (3 : Int32)), iv (Int32.ofNat cu), iv (own_sb cu), iv (p1 &&& (2147483647 : Int32)), rv b, iv (Int32.ofNat ku), .unset] [(.int (20 : Int32)), (.int (1 : Int32)), (.ref b)])) rfl (by rw [hml]; rfl) (argsL := [(.ref b), (.int (1 : Int32)), (.int (20 : Int32))]) (rest := []) (lenOf pd_3 rfl) rfl (by show 2 * 0 + _ ≤ _; exact Nat.le_of_eq rfl) (hb hby at_462) (fun _ _ => ⟨rfl, e68, (by decide : 1 + 0 ≤ _), (by decide : 21 + 0 ≤ _)⟩)
        dsimp only [Pt.U, Pt.locs, Pt.cells, Pt.slots] at X69 l69 y69 z69 st69 hQ69
        subst l69 y69 z69
        refine Go.pre st69 ?_
        rcases hQ69 with ⟨hp69, rfl, N69q, eh69⟩ | ⟨hp69, rfl, N69q, eh69⟩
        · skip
          have N69 := Fr.app NN68 N69q
          show Go p e below _ (T69.setTop (mkF m 465 #[iv p0, iv p1, iv p2, iv p3, iv p4, iv (p0 &&& (3 : Int32)), iv (Int32.ofNat cu), iv (own_sb cu), iv (p1 &&& (2147483647 : Int32)), rv b, iv (Int32.ofNat ku), .unset] [(.int (1 : Int32))]))
          refine Go.pre (fun _ k => XS.iload X69.here hx rfl (hb hby at_465) rfl k) ?_
          show Go p e below _ (T69.setTop (mkF m 467 #[iv p0, iv p1, iv p2, iv p3, iv p4, iv (p0 &&& (3 : Int32)), iv (Int32.ofNat cu), iv (own_sb cu), iv (p1 &&& (2147483647 : Int32)), rv b, iv (Int32.ofNat ku), .unset] [(.int (Int32.ofNat ku)), (.int (1 : Int32))]))
          refine Go.pre (fun _ k => XS.iload X69.here hx rfl (hb hby at_467) rfl k) ?_
          show Go p e below _ (T69.setTop (mkF m 469 #[iv p0, iv p1, iv p2, iv p3, iv p4, iv (p0 &&& (3 : Int32)), iv (Int32.ofNat cu), iv (own_sb cu), iv (p1 &&& (2147483647 : Int32)), rv b, iv (Int32.ofNat ku), .unset] [(.int (Int32.ofNat cu)), (.int (Int32.ofNat ku)), (.int (1 : Int32))]))
          obtain ⟨_, _, ⟨T70, L70, k70, n70⟩, -, X70, ⟨Lc70, hQ70, l70, y70, z70⟩, st70⟩ := Jvm.LawKit.callS X69 hx (y := (⟨"com/example/entayl/entayl/input/IriTableIsPlainIriPinLaw", "expectC", "(II)Z"⟩ : MethodName)) hown (mvT hZ (hw _ (List.mem_of_getElem? (i := 36) rfl))) (mvT hZ (hw _ (List.mem_of_getElem? (i := 37) rfl))) (mvT hZ (hw _ (List.mem_of_getElem? (i := 19) rfl))) (mvT hZ (hw _ (List.mem_of_getElem? (i := 38) rfl))) (by decide) (backOf (W := 1) (rm_eC l Z a0 hw [] ku cu h68 n0 (Nat.le_trans Z0 K68.1) (by omega) hcu) hZ (hw _ (List.mem_of_getElem? (i := 38) rfl)) (hw _ (List.mem_of_getElem? (i := 19) rfl)) (by decide) (by decide)) (g := (mkF m 469 #[iv p0, iv p1, iv p2, iv p3, iv p4, iv (p0 &&& (3 : Int32)), iv (Int32.ofNat cu), iv (own_sb cu), iv (p1 &&& (2147483647 : Int32)), rv b, iv (Int32.ofNat ku), .unset] [(.int (Int32.ofNat cu)), (.int (Int32.ofNat ku)), (.int (1 : Int32))])) rfl (by rw [hml]; rfl) (argsL := [(.int (Int32.ofNat ku)), (.int (Int32.ofNat cu))]) (rest := [(.int (1 : Int32))]) (lenOf pd_4 rfl) rfl (by show 2 * 0 + _ ≤ _; exact Nat.le_of_eq rfl) (hb hby at_469) (fun _ _ => ⟨rfl, eh69, (by decide : 1 + 0 ≤ _), (by decide : 21 + 0 ≤ _)⟩)
          dsimp only [Pt.U, Pt.locs, Pt.cells, Pt.slots] at X70 l70 y70 z70 st70 hQ70
          subst l70 y70 z70
          refine Go.pre st70 ?_
          rcases hQ70 with ⟨hp70, rfl, N70q, eh70⟩ | ⟨hp70, rfl, N70q, eh70⟩
          · skip
            have N70 := Fr.app N69 N70q
            show Go p e below _ (T70.setTop (mkF m 472 #[iv p0, iv p1, iv p2, iv p3, iv p4, iv (p0 &&& (3 : Int32)), iv (Int32.ofNat cu), iv (own_sb cu), iv (p1 &&& (2147483647 : Int32)), rv b, iv (Int32.ofNat ku), .unset] [(.int (1 : Int32)), (.int (1 : Int32))]))
            refine Go.pre (fun _ k => XS.icmpNo X70.here hx rfl (hb hby at_472) rfl (teq (by decide : (1 : Int32) = (1 : Int32))).2 k) ?_
            show Go p e below _ (T70.setTop (mkF m 475 #[iv p0, iv p1, iv p2, iv p3, iv p4, iv (p0 &&& (3 : Int32)), iv (Int32.ofNat cu), iv (own_sb cu), iv (p1 &&& (2147483647 : Int32)), rv b, iv (Int32.ofNat ku), .unset] []))
            refine Go.pre (fun _ k => XS.iconst X70.here hx rfl (hb hby at_475) k) ?_
            show Go p e below _ (T70.setTop (mkF m 476 #[iv p0, iv p1, iv p2, iv p3, iv p4, iv (p0 &&& (3 : Int32)), iv (Int32.ofNat cu), iv (own_sb cu), iv (p1 &&& (2147483647 : Int32)), rv b, iv (Int32.ofNat ku), .unset] [(.int (1 : Int32))]))
            refine Go.pre (fun _ k => XS.goto X70.here hx rfl (pc0 := 476) (pc' := 480) rfl (hb hby at_476) (by decide) (by decide) k) ?_
            show Go p e below _ (T70.setTop (mkF m 480 #[iv p0, iv p1, iv p2, iv p3, iv p4, iv (p0 &&& (3 : Int32)), iv (Int32.ofNat cu), iv (own_sb cu), iv (p1 &&& (2147483647 : Int32)), rv b, iv (Int32.ofNat ku), .unset] [(.int (1 : Int32))]))
            obtain ⟨fs, hr, hrun, hended, hW, hsame⟩ := X70.leave (v := some (.int (1 : Int32))) (fun h => by rw [Bd.returns] at h; cases h)
            refine Go.fin (retN X70 hx (t := .boolean) Bd.returns (by simp) (hb hby at_480) hr) ⟨hrun, hended, _, _, rfl, ?_, ⟨_, rfl⟩, hW, hsame.mono (by decide) (by decide)⟩
            exact ⟨rfl, N70⟩
          · skip
            have N70 := Fr.app N69 N70q
            show Go p e below _ (T70.setTop (mkF m 472 #[iv p0, iv p1, iv p2, iv p3, iv p4, iv (p0 &&& (3 : Int32)), iv (Int32.ofNat cu), iv (own_sb cu), iv (p1 &&& (2147483647 : Int32)), rv b, iv (Int32.ofNat ku), .unset] [(.int (0 : Int32)), (.int (1 : Int32))]))
            refine Go.pre (fun _ k => XS.icmpYes X70.here hx rfl (pc0 := 472) (pc' := 479) rfl (hb hby at_472) rfl (feq (by decide : ¬ ((1 : Int32) = (0 : Int32)))).2 (by decide) (by decide) k) ?_
            show Go p e below _ (T70.setTop (mkF m 479 #[iv p0, iv p1, iv p2, iv p3, iv p4, iv (p0 &&& (3 : Int32)), iv (Int32.ofNat cu), iv (own_sb cu), iv (p1 &&& (2147483647 : Int32)), rv b, iv (Int32.ofNat ku), .unset] []))
            refine Go.pre (fun _ k => XS.iconst X70.here hx rfl (hb hby at_479) k) ?_
            show Go p e below _ (T70.setTop (mkF m 480 #[iv p0, iv p1, iv p2, iv p3, iv p4, iv (p0 &&& (3 : Int32)), iv (Int32.ofNat cu), iv (own_sb cu), iv (p1 &&& (2147483647 : Int32)), rv b, iv (Int32.ofNat ku), .unset] [(.int (0 : Int32))]))
            exact absurd ((own_use own_lawC hku hcu).symm.trans hp69) hp70
        · skip
          have N69 := Fr.app NN68 N69q
          show Go p e below _ (T69.setTop (mkF m 465 #[iv p0, iv p1, iv p2, iv p3, iv p4, iv (p0 &&& (3 : Int32)), iv (Int32.ofNat cu), iv (own_sb cu), iv (p1 &&& (2147483647 : Int32)), rv b, iv (Int32.ofNat ku), .unset] [(.int (0 : Int32))]))
          refine Go.pre (fun _ k => XS.iload X69.here hx rfl (hb hby at_465) rfl k) ?_
          show Go p e below _ (T69.setTop (mkF m 467 #[iv p0, iv p1, iv p2, iv p3, iv p4, iv (p0 &&& (3 : Int32)), iv (Int32.ofNat cu), iv (own_sb cu), iv (p1 &&& (2147483647 : Int32)), rv b, iv (Int32.ofNat ku), .unset] [(.int (Int32.ofNat ku)), (.int (0 : Int32))]))
          refine Go.pre (fun _ k => XS.iload X69.here hx rfl (hb hby at_467) rfl k) ?_
          show Go p e below _ (T69.setTop (mkF m 469 #[iv p0, iv p1, iv p2, iv p3, iv p4, iv (p0 &&& (3 : Int32)), iv (Int32.ofNat cu), iv (own_sb cu), iv (p1 &&& (2147483647 : Int32)), rv b, iv (Int32.ofNat ku), .unset] [(.int (Int32.ofNat cu)), (.int (Int32.ofNat ku)), (.int (0 : Int32))]))
          obtain ⟨_, _, ⟨T71, L71, k71, n71⟩, -, X71, ⟨Lc71, hQ71, l71, y71, z71⟩, st71⟩ := Jvm.LawKit.callS X69 hx (y := (⟨"com/example/entayl/entayl/input/IriTableIsPlainIriPinLaw", "expectC", "(II)Z"⟩ : MethodName)) hown (mvT hZ (hw _ (List.mem_of_getElem? (i := 36) rfl))) (mvT hZ (hw _ (List.mem_of_getElem? (i := 37) rfl))) (mvT hZ (hw _ (List.mem_of_getElem? (i := 19) rfl))) (mvT hZ (hw _ (List.mem_of_getElem? (i := 38) rfl))) (by decide) (backOf (W := 1) (rm_eC l Z a0 hw [] ku cu h68 n0 (Nat.le_trans Z0 K68.1) (by omega) hcu) hZ (hw _ (List.mem_of_getElem? (i := 38) rfl)) (hw _ (List.mem_of_getElem? (i := 19) rfl)) (by decide) (by decide)) (g := (mkF m 469 #[iv p0, iv p1, iv p2, iv p3, iv p4, iv (p0 &&& (3 : Int32)), iv (Int32.ofNat cu), iv (own_sb cu), iv (p1 &&& (2147483647 : Int32)), rv b, iv (Int32.ofNat ku), .unset] [(.int (Int32.ofNat cu)), (.int (Int32.ofNat ku)), (.int (0 : Int32))])) rfl (by rw [hml]; rfl) (argsL := [(.int (Int32.ofNat ku)), (.int (Int32.ofNat cu))]) (rest := [(.int (0 : Int32))]) (lenOf pd_4 rfl) rfl (by show 2 * 0 + _ ≤ _; exact Nat.le_of_eq rfl) (hb hby at_469) (fun _ _ => ⟨rfl, eh69, (by decide : 1 + 0 ≤ _), (by decide : 21 + 0 ≤ _)⟩)
          dsimp only [Pt.U, Pt.locs, Pt.cells, Pt.slots] at X71 l71 y71 z71 st71 hQ71
          subst l71 y71 z71
          refine Go.pre st71 ?_
          rcases hQ71 with ⟨hp71, rfl, N71q, eh71⟩ | ⟨hp71, rfl, N71q, eh71⟩
          · skip
            have N71 := Fr.app N69 N71q
            show Go p e below _ (T71.setTop (mkF m 472 #[iv p0, iv p1, iv p2, iv p3, iv p4, iv (p0 &&& (3 : Int32)), iv (Int32.ofNat cu), iv (own_sb cu), iv (p1 &&& (2147483647 : Int32)), rv b, iv (Int32.ofNat ku), .unset] [(.int (1 : Int32)), (.int (0 : Int32))]))
            refine Go.pre (fun _ k => XS.icmpYes X71.here hx rfl (pc0 := 472) (pc' := 479) rfl (hb hby at_472) rfl (feq (by decide : ¬ ((0 : Int32) = (1 : Int32)))).2 (by decide) (by decide) k) ?_
            show Go p e below _ (T71.setTop (mkF m 479 #[iv p0, iv p1, iv p2, iv p3, iv p4, iv (p0 &&& (3 : Int32)), iv (Int32.ofNat cu), iv (own_sb cu), iv (p1 &&& (2147483647 : Int32)), rv b, iv (Int32.ofNat ku), .unset] []))
            refine Go.pre (fun _ k => XS.iconst X71.here hx rfl (hb hby at_479) k) ?_
            show Go p e below _ (T71.setTop (mkF m 480 #[iv p0, iv p1, iv p2, iv p3, iv p4, iv (p0 &&& (3 : Int32)), iv (Int32.ofNat cu), iv (own_sb cu), iv (p1 &&& (2147483647 : Int32)), rv b, iv (Int32.ofNat ku), .unset] [(.int (0 : Int32))]))
            exact absurd ((own_use own_lawC hku hcu).trans hp71) hp69
          · skip
            have N71 := Fr.app N69 N71q
            show Go p e below _ (T71.setTop (mkF m 472 #[iv p0, iv p1, iv p2, iv p3, iv p4, iv (p0 &&& (3 : Int32)), iv (Int32.ofNat cu), iv (own_sb cu), iv (p1 &&& (2147483647 : Int32)), rv b, iv (Int32.ofNat ku), .unset] [(.int (0 : Int32)), (.int (0 : Int32))]))
            refine Go.pre (fun _ k => XS.icmpNo X71.here hx rfl (hb hby at_472) rfl (teq (by decide : (0 : Int32) = (0 : Int32))).2 k) ?_
            show Go p e below _ (T71.setTop (mkF m 475 #[iv p0, iv p1, iv p2, iv p3, iv p4, iv (p0 &&& (3 : Int32)), iv (Int32.ofNat cu), iv (own_sb cu), iv (p1 &&& (2147483647 : Int32)), rv b, iv (Int32.ofNat ku), .unset] []))
            refine Go.pre (fun _ k => XS.iconst X71.here hx rfl (hb hby at_475) k) ?_
            show Go p e below _ (T71.setTop (mkF m 476 #[iv p0, iv p1, iv p2, iv p3, iv p4, iv (p0 &&& (3 : Int32)), iv (Int32.ofNat cu), iv (own_sb cu), iv (p1 &&& (2147483647 : Int32)), rv b, iv (Int32.ofNat ku), .unset] [(.int (1 : Int32))]))
            refine Go.pre (fun _ k => XS.goto X71.here hx rfl (pc0 := 476) (pc' := 480) rfl (hb hby at_476) (by decide) (by decide) k) ?_
            show Go p e below _ (T71.setTop (mkF m 480 #[iv p0, iv p1, iv p2, iv p3, iv p4, iv (p0 &&& (3 : Int32)), iv (Int32.ofNat cu), iv (own_sb cu), iv (p1 &&& (2147483647 : Int32)), rv b, iv (Int32.ofNat ku), .unset] [(.int (1 : Int32))]))
            obtain ⟨fs, hr, hrun, hended, hW, hsame⟩ := X71.leave (v := some (.int (1 : Int32))) (fun h => by rw [Bd.returns] at h; cases h)
            refine Go.fin (retN X71 hx (t := .boolean) Bd.returns (by simp) (hb hby at_480) hr) ⟨hrun, hended, _, _, rfl, ?_, ⟨_, rfl⟩, hW, hsame.mono (by decide) (by decide)⟩
            exact ⟨rfl, N71⟩
      · skip
        refine Go.pre (fun _ k => XS.icmpYes X0.here hx rfl (pc0 := 311) (pc' := 481) rfl (hb hby at_311) rfl (feq hc311_45).2 (by decide) (by decide) k) ?_
        show Go p e below _ (s₁.setTop (mkF m 481 #[iv p0, iv p1, iv p2, iv p3, iv p4, iv (p0 &&& (3 : Int32)), iv (Int32.ofNat cu), iv (own_sb cu), iv (p1 &&& (2147483647 : Int32)), .unset, .unset, .unset] []))
        refine Go.pre (fun _ k => XS.bipush X0.here hx rfl (hb hby at_481) k) ?_
        show Go p e below _ (s₁.setTop (mkF m 483 #[iv p0, iv p1, iv p2, iv p3, iv p4, iv (p0 &&& (3 : Int32)), iv (Int32.ofNat cu), iv (own_sb cu), iv (p1 &&& (2147483647 : Int32)), .unset, .unset, .unset] [(.int (15 : Int32))]))
        obtain ⟨T72, h72, k72, X72, e72, Ex72, A72, st72⟩ := newP X0 hx hZ (hw _ (List.mem_of_getElem? (i := 1) rfl)) e0 (g := (mkF m 483 #[iv p0, iv p1, iv p2, iv p3, iv p4, iv (p0 &&& (3 : Int32)), iv (Int32.ofNat cu), iv (own_sb cu), iv (p1 &&& (2147483647 : Int32)), .unset, .unset, .unset] [(.int (15 : Int32))])) rfl (hb hby at_483) rfl (by decide) (cap := 15) (by decide) (by decide) (by decide) (by decide)
        obtain ⟨b, hb0⟩ : ∃ z, z = h0.size := ⟨_, rfl⟩
        rw [← hb0] at A72 st72
        have g_b : n0 ≤ b := by omega
        have sz_b : h0.size ≤ b := Nat.le_of_eq hb0.symm
        have V72 : Arv Z h72 b k72 .byte 15 [.int 0, .int 0, .int 0, .int 0, .int 0, .int 0, .int 0, .int 0, .int 0, .int 0, .int 0, .int 0, .int 0, .int 0, .int 0] (.int 0) := (Arv.new A72 (by decide)).pad (pad_rep [] (.int 0) 15)
        have K72 : Keep h0 h72 [] := (Keep.refl h0 []).ext Ex72
        refine Go.pre st72 ?_
        show Go p e below _ (T72.setTop (mkF m 485 #[iv p0, iv p1, iv p2, iv p3, iv p4, iv (p0 &&& (3 : Int32)), iv (Int32.ofNat cu), iv (own_sb cu), iv (p1 &&& (2147483647 : Int32)), .unset, .unset, .unset] [(.ref b)]))
        refine Go.pre (fun _ k => XS.dup X72.here hx rfl (hb hby at_485) rfl rfl k) ?_
        show Go p e below _ (T72.setTop (mkF m 486 #[iv p0, iv p1, iv p2, iv p3, iv p4, iv (p0 &&& (3 : Int32)), iv (Int32.ofNat cu), iv (own_sb cu), iv (p1 &&& (2147483647 : Int32)), .unset, .unset, .unset] [(.ref b), (.ref b)]))
        refine Go.pre (fun _ k => XS.iconst X72.here hx rfl (hb hby at_486) k) ?_
        show Go p e below _ (T72.setTop (mkF m 487 #[iv p0, iv p1, iv p2, iv p3, iv p4, iv (p0 &&& (3 : Int32)), iv (Int32.ofNat cu), iv (own_sb cu), iv (p1 &&& (2147483647 : Int32)), .unset, .unset, .unset] [(.int (0 : Int32)), (.ref b), (.ref b)]))
        refine Go.pre (fun _ k => XS.iloadN X72.here hx rfl (hb hby at_487) rfl k) ?_
        show Go p e below _ (T72.setTop (mkF m 488 #[iv p0, iv p1, iv p2, iv p3, iv p4, iv (p0 &&& (3 : Int32)), iv (Int32.ofNat cu), iv (own_sb cu), iv (p1 &&& (2147483647 : Int32)), .unset, .unset, .unset] [(.int p3), (.int (0 : Int32)), (.ref b), (.ref b)]))
        refine Go.pre (fun _ k => XS.i2b X72.here hx rfl (hb hby at_488) rfl k) ?_
        show Go p e below _ (T72.setTop (mkF m 489 #[iv p0, iv p1, iv p2, iv p3, iv p4, iv (p0 &&& (3 : Int32)), iv (Int32.ofNat cu), iv (own_sb cu), iv (p1 &&& (2147483647 : Int32)), .unset, .unset, .unset] [(.int (p3.toInt8.toInt32)), (.int (0 : Int32)), (.ref b), (.ref b)]))
        obtain ⟨T73, h73, X73, e73, W73, V73, st73⟩ := own_putB X72 hx hZ e72 V72 (j := (0 : Int32)) (by decide) 0 rfl (Nat.le_of_ble_eq_true rfl) (g := (mkF m 489 #[iv p0, iv p1, iv p2, iv p3, iv p4, iv (p0 &&& (3 : Int32)), iv (Int32.ofNat cu), iv (own_sb cu), iv (p1 &&& (2147483647 : Int32)), .unset, .unset, .unset] [(.int (p3.toInt8.toInt32)), (.int (0 : Int32)), (.ref b), (.ref b)])) rfl rfl (hb hby at_489)
        have V73 : Arv Z h73 b k72 .byte 15 [.int (nar .byte (p3.toInt8.toInt32)), .int 0, .int 0, .int 0, .int 0, .int 0, .int 0, .int 0, .int 0, .int 0, .int 0, .int 0, .int 0, .int 0, .int 0] (.int 0) := V73
        have K73 : Keep h0 h73 [] := K72.wr W73 (Or.inr sz_b)
        have N73 := Fr.snoc X73 N0 g_b
        refine Go.pre st73 ?_
        obtain ⟨LL73, XX73, NN73⟩ := own_abs X73 N73
        show Go p e below _ (T73.setTop (mkF m 490 #[iv p0, iv p1, iv p2, iv p3, iv p4, iv (p0 &&& (3 : Int32)), iv (Int32.ofNat cu), iv (own_sb cu), iv (p1 &&& (2147483647 : Int32)), .unset, .unset, .unset] [(.ref b)]))
        refine Go.pre (fun _ k => XS.dup XX73.here hx rfl (hb hby at_490) rfl rfl k) ?_
        show Go p e below _ (T73.setTop (mkF m 491 #[iv p0, iv p1, iv p2, iv p3, iv p4, iv (p0 &&& (3 : Int32)), iv (Int32.ofNat cu), iv (own_sb cu), iv (p1 &&& (2147483647 : Int32)), .unset, .unset, .unset] [(.ref b), (.ref b)]))
        refine Go.pre (fun _ k => XS.iconst XX73.here hx rfl (hb hby at_491) k) ?_
        show Go p e below _ (T73.setTop (mkF m 492 #[iv p0, iv p1, iv p2, iv p3, iv p4, iv (p0 &&& (3 : Int32)), iv (Int32.ofNat cu), iv (own_sb cu), iv (p1 &&& (2147483647 : Int32)), .unset, .unset, .unset] [(.int (1 : Int32)), (.ref b), (.ref b)]))
        refine Go.pre (fun _ k => XS.bipush XX73.here hx rfl (hb hby at_492) k) ?_
        show Go p e below _ (T73.setTop (mkF m 494 #[iv p0, iv p1, iv p2, iv p3, iv p4, iv (p0 &&& (3 : Int32)), iv (Int32.ofNat cu), iv (own_sb cu), iv (p1 &&& (2147483647 : Int32)), .unset, .unset, .unset] [(.int (104 : Int32)), (.int (1 : Int32)), (.ref b), (.ref b)]))
        obtain ⟨T74, h74, X74, e74, W74, V74, st74⟩ := own_putB XX73 hx hZ e73 V73 (j := (1 : Int32)) (by decide) 1 rfl (Nat.le_of_ble_eq_true rfl) (g := (mkF m 494 #[iv p0, iv p1, iv p2, iv p3, iv p4, iv (p0 &&& (3 : Int32)), iv (Int32.ofNat cu), iv (own_sb cu), iv (p1 &&& (2147483647 : Int32)), .unset, .unset, .unset] [(.int (104 : Int32)), (.int (1 : Int32)), (.ref b), (.ref b)])) rfl rfl (hb hby at_494)
        have V74 : Arv Z h74 b k72 .byte 15 [.int (nar .byte (p3.toInt8.toInt32)), own_vl 104, .int 0, .int 0, .int 0, .int 0, .int 0, .int 0, .int 0, .int 0, .int 0, .int 0, .int 0, .int 0, .int 0] (.int 0) := V74
        have K74 : Keep h0 h74 [] := K73.wr W74 (Or.inr sz_b)
        have N74 := Fr.snoc X74 NN73 g_b
        refine Go.pre st74 ?_
        obtain ⟨LL74, XX74, NN74⟩ := own_abs X74 N74
        show Go p e below _ (T74.setTop (mkF m 495 #[iv p0, iv p1, iv p2, iv p3, iv p4, iv (p0 &&& (3 : Int32)), iv (Int32.ofNat cu), iv (own_sb cu), iv (p1 &&& (2147483647 : Int32)), .unset, .unset, .unset] [(.ref b)]))
        refine Go.pre (fun _ k => XS.dup XX74.here hx rfl (hb hby at_495) rfl rfl k) ?_
        show Go p e below _ (T74.setTop (mkF m 496 #[iv p0, iv p1, iv p2, iv p3, iv p4, iv (p0 &&& (3 : Int32)), iv (Int32.ofNat cu), iv (own_sb cu), iv (p1 &&& (2147483647 : Int32)), .unset, .unset, .unset] [(.ref b), (.ref b)]))
        refine Go.pre (fun _ k => XS.iconst XX74.here hx rfl (hb hby at_496) k) ?_
        show Go p e below _ (T74.setTop (mkF m 497 #[iv p0, iv p1, iv p2, iv p3, iv p4, iv (p0 &&& (3 : Int32)), iv (Int32.ofNat cu), iv (own_sb cu), iv (p1 &&& (2147483647 : Int32)), .unset, .unset, .unset] [(.int (2 : Int32)), (.ref b), (.ref b)]))
        refine Go.pre (fun _ k => XS.bipush XX74.here hx rfl (hb hby at_497) k) ?_
        show Go p e below _ (T74.setTop (mkF m 499 #[iv p0, iv p1, iv p2, iv p3, iv p4, iv (p0 &&& (3 : Int32)), iv (Int32.ofNat cu), iv (own_sb cu), iv (p1 &&& (2147483647 : Int32)), .unset, .unset, .unset] [(.int (58 : Int32)), (.int (2 : Int32)), (.ref b), (.ref b)]))
        obtain ⟨T75, h75, X75, e75, W75, V75, st75⟩ := own_putB XX74 hx hZ e74 V74 (j := (2 : Int32)) (by decide) 2 rfl (Nat.le_of_ble_eq_true rfl) (g := (mkF m 499 #[iv p0, iv p1, iv p2, iv p3, iv p4, iv (p0 &&& (3 : Int32)), iv (Int32.ofNat cu), iv (own_sb cu), iv (p1 &&& (2147483647 : Int32)), .unset, .unset, .unset] [(.int (58 : Int32)), (.int (2 : Int32)), (.ref b), (.ref b)])) rfl rfl (hb hby at_499)
        have V75 : Arv Z h75 b k72 .byte 15 [.int (nar .byte (p3.toInt8.toInt32)), own_vl 104, own_vl 58, .int 0, .int 0, .int 0, .int 0, .int 0, .int 0, .int 0, .int 0, .int 0, .int 0, .int 0, .int 0] (.int 0) := V75
        have K75 : Keep h0 h75 [] := K74.wr W75 (Or.inr sz_b)
        have N75 := Fr.snoc X75 NN74 g_b
        refine Go.pre st75 ?_
        obtain ⟨LL75, XX75, NN75⟩ := own_abs X75 N75
        show Go p e below _ (T75.setTop (mkF m 500 #[iv p0, iv p1, iv p2, iv p3, iv p4, iv (p0 &&& (3 : Int32)), iv (Int32.ofNat cu), iv (own_sb cu), iv (p1 &&& (2147483647 : Int32)), .unset, .unset, .unset] [(.ref b)]))
        refine Go.pre (fun _ k => XS.dup XX75.here hx rfl (hb hby at_500) rfl rfl k) ?_
        show Go p e below _ (T75.setTop (mkF m 501 #[iv p0, iv p1, iv p2, iv p3, iv p4, iv (p0 &&& (3 : Int32)), iv (Int32.ofNat cu), iv (own_sb cu), iv (p1 &&& (2147483647 : Int32)), .unset, .unset, .unset] [(.ref b), (.ref b)]))
        refine Go.pre (fun _ k => XS.iconst XX75.here hx rfl (hb hby at_501) k) ?_
        show Go p e below _ (T75.setTop (mkF m 502 #[iv p0, iv p1, iv p2, iv p3, iv p4, iv (p0 &&& (3 : Int32)), iv (Int32.ofNat cu), iv (own_sb cu), iv (p1 &&& (2147483647 : Int32)), .unset, .unset, .unset] [(.int (3 : Int32)), (.ref b), (.ref b)]))
        refine Go.pre (fun _ k => XS.bipush XX75.here hx rfl (hb hby at_502) k) ?_
        show Go p e below _ (T75.setTop (mkF m 504 #[iv p0, iv p1, iv p2, iv p3, iv p4, iv (p0 &&& (3 : Int32)), iv (Int32.ofNat cu), iv (own_sb cu), iv (p1 &&& (2147483647 : Int32)), .unset, .unset, .unset] [(.int (47 : Int32)), (.int (3 : Int32)), (.ref b), (.ref b)]))
        obtain ⟨T76, h76, X76, e76, W76, V76, st76⟩ := own_putB XX75 hx hZ e75 V75 (j := (3 : Int32)) (by decide) 3 rfl (Nat.le_of_ble_eq_true rfl) (g := (mkF m 504 #[iv p0, iv p1, iv p2, iv p3, iv p4, iv (p0 &&& (3 : Int32)), iv (Int32.ofNat cu), iv (own_sb cu), iv (p1 &&& (2147483647 : Int32)), .unset, .unset, .unset] [(.int (47 : Int32)), (.int (3 : Int32)), (.ref b), (.ref b)])) rfl rfl (hb hby at_504)
        have V76 : Arv Z h76 b k72 .byte 15 [.int (nar .byte (p3.toInt8.toInt32)), own_vl 104, own_vl 58, own_vl 47, .int 0, .int 0, .int 0, .int 0, .int 0, .int 0, .int 0, .int 0, .int 0, .int 0, .int 0] (.int 0) := V76
        have K76 : Keep h0 h76 [] := K75.wr W76 (Or.inr sz_b)
        have N76 := Fr.snoc X76 NN75 g_b
        refine Go.pre st76 ?_
        obtain ⟨LL76, XX76, NN76⟩ := own_abs X76 N76
        show Go p e below _ (T76.setTop (mkF m 505 #[iv p0, iv p1, iv p2, iv p3, iv p4, iv (p0 &&& (3 : Int32)), iv (Int32.ofNat cu), iv (own_sb cu), iv (p1 &&& (2147483647 : Int32)), .unset, .unset, .unset] [(.ref b)]))
        refine Go.pre (fun _ k => XS.dup XX76.here hx rfl (hb hby at_505) rfl rfl k) ?_
        show Go p e below _ (T76.setTop (mkF m 506 #[iv p0, iv p1, iv p2, iv p3, iv p4, iv (p0 &&& (3 : Int32)), iv (Int32.ofNat cu), iv (own_sb cu), iv (p1 &&& (2147483647 : Int32)), .unset, .unset, .unset] [(.ref b), (.ref b)]))
        refine Go.pre (fun _ k => XS.iconst XX76.here hx rfl (hb hby at_506) k) ?_
        show Go p e below _ (T76.setTop (mkF m 507 #[iv p0, iv p1, iv p2, iv p3, iv p4, iv (p0 &&& (3 : Int32)), iv (Int32.ofNat cu), iv (own_sb cu), iv (p1 &&& (2147483647 : Int32)), .unset, .unset, .unset] [(.int (4 : Int32)), (.ref b), (.ref b)]))
        refine Go.pre (fun _ k => XS.bipush XX76.here hx rfl (hb hby at_507) k) ?_
        show Go p e below _ (T76.setTop (mkF m 509 #[iv p0, iv p1, iv p2, iv p3, iv p4, iv (p0 &&& (3 : Int32)), iv (Int32.ofNat cu), iv (own_sb cu), iv (p1 &&& (2147483647 : Int32)), .unset, .unset, .unset] [(.int (47 : Int32)), (.int (4 : Int32)), (.ref b), (.ref b)]))
        obtain ⟨T77, h77, X77, e77, W77, V77, st77⟩ := own_putB XX76 hx hZ e76 V76 (j := (4 : Int32)) (by decide) 4 rfl (Nat.le_of_ble_eq_true rfl) (g := (mkF m 509 #[iv p0, iv p1, iv p2, iv p3, iv p4, iv (p0 &&& (3 : Int32)), iv (Int32.ofNat cu), iv (own_sb cu), iv (p1 &&& (2147483647 : Int32)), .unset, .unset, .unset] [(.int (47 : Int32)), (.int (4 : Int32)), (.ref b), (.ref b)])) rfl rfl (hb hby at_509)
        have V77 : Arv Z h77 b k72 .byte 15 [.int (nar .byte (p3.toInt8.toInt32)), own_vl 104, own_vl 58, own_vl 47, own_vl 47, .int 0, .int 0, .int 0, .int 0, .int 0, .int 0, .int 0, .int 0, .int 0, .int 0] (.int 0) := V77
        have K77 : Keep h0 h77 [] := K76.wr W77 (Or.inr sz_b)
        have N77 := Fr.snoc X77 NN76 g_b
        refine Go.pre st77 ?_
        obtain ⟨LL77, XX77, NN77⟩ := own_abs X77 N77
        show Go p e below _ (T77.setTop (mkF m 510 #[iv p0, iv p1, iv p2, iv p3, iv p4, iv (p0 &&& (3 : Int32)), iv (Int32.ofNat cu), iv (own_sb cu), iv (p1 &&& (2147483647 : Int32)), .unset, .unset, .unset] [(.ref b)]))
        refine Go.pre (fun _ k => XS.dup XX77.here hx rfl (hb hby at_510) rfl rfl k) ?_
        show Go p e below _ (T77.setTop (mkF m 511 #[iv p0, iv p1, iv p2, iv p3, iv p4, iv (p0 &&& (3 : Int32)), iv (Int32.ofNat cu), iv (own_sb cu), iv (p1 &&& (2147483647 : Int32)), .unset, .unset, .unset] [(.ref b), (.ref b)]))
        refine Go.pre (fun _ k => XS.iconst XX77.here hx rfl (hb hby at_511) k) ?_
        show Go p e below _ (T77.setTop (mkF m 512 #[iv p0, iv p1, iv p2, iv p3, iv p4, iv (p0 &&& (3 : Int32)), iv (Int32.ofNat cu), iv (own_sb cu), iv (p1 &&& (2147483647 : Int32)), .unset, .unset, .unset] [(.int (5 : Int32)), (.ref b), (.ref b)]))
        refine Go.pre (fun _ k => XS.bipush XX77.here hx rfl (hb hby at_512) k) ?_
        show Go p e below _ (T77.setTop (mkF m 514 #[iv p0, iv p1, iv p2, iv p3, iv p4, iv (p0 &&& (3 : Int32)), iv (Int32.ofNat cu), iv (own_sb cu), iv (p1 &&& (2147483647 : Int32)), .unset, .unset, .unset] [(.int (120 : Int32)), (.int (5 : Int32)), (.ref b), (.ref b)]))
        obtain ⟨T78, h78, X78, e78, W78, V78, st78⟩ := own_putB XX77 hx hZ e77 V77 (j := (5 : Int32)) (by decide) 5 rfl (Nat.le_of_ble_eq_true rfl) (g := (mkF m 514 #[iv p0, iv p1, iv p2, iv p3, iv p4, iv (p0 &&& (3 : Int32)), iv (Int32.ofNat cu), iv (own_sb cu), iv (p1 &&& (2147483647 : Int32)), .unset, .unset, .unset] [(.int (120 : Int32)), (.int (5 : Int32)), (.ref b), (.ref b)])) rfl rfl (hb hby at_514)
        have V78 : Arv Z h78 b k72 .byte 15 [.int (nar .byte (p3.toInt8.toInt32)), own_vl 104, own_vl 58, own_vl 47, own_vl 47, own_vl 120, .int 0, .int 0, .int 0, .int 0, .int 0, .int 0, .int 0, .int 0, .int 0] (.int 0) := V78
        have K78 : Keep h0 h78 [] := K77.wr W78 (Or.inr sz_b)
        have N78 := Fr.snoc X78 NN77 g_b
        refine Go.pre st78 ?_
        obtain ⟨LL78, XX78, NN78⟩ := own_abs X78 N78
        show Go p e below _ (T78.setTop (mkF m 515 #[iv p0, iv p1, iv p2, iv p3, iv p4, iv (p0 &&& (3 : Int32)), iv (Int32.ofNat cu), iv (own_sb cu), iv (p1 &&& (2147483647 : Int32)), .unset, .unset, .unset] [(.ref b)]))
        refine Go.pre (fun _ k => XS.dup XX78.here hx rfl (hb hby at_515) rfl rfl k) ?_
        show Go p e below _ (T78.setTop (mkF m 516 #[iv p0, iv p1, iv p2, iv p3, iv p4, iv (p0 &&& (3 : Int32)), iv (Int32.ofNat cu), iv (own_sb cu), iv (p1 &&& (2147483647 : Int32)), .unset, .unset, .unset] [(.ref b), (.ref b)]))
        refine Go.pre (fun _ k => XS.bipush XX78.here hx rfl (hb hby at_516) k) ?_
        show Go p e below _ (T78.setTop (mkF m 518 #[iv p0, iv p1, iv p2, iv p3, iv p4, iv (p0 &&& (3 : Int32)), iv (Int32.ofNat cu), iv (own_sb cu), iv (p1 &&& (2147483647 : Int32)), .unset, .unset, .unset] [(.int (6 : Int32)), (.ref b), (.ref b)]))
        refine Go.pre (fun _ k => XS.bipush XX78.here hx rfl (hb hby at_518) k) ?_
        show Go p e below _ (T78.setTop (mkF m 520 #[iv p0, iv p1, iv p2, iv p3, iv p4, iv (p0 &&& (3 : Int32)), iv (Int32.ofNat cu), iv (own_sb cu), iv (p1 &&& (2147483647 : Int32)), .unset, .unset, .unset] [(.int (58 : Int32)), (.int (6 : Int32)), (.ref b), (.ref b)]))
        obtain ⟨T79, h79, X79, e79, W79, V79, st79⟩ := own_putB XX78 hx hZ e78 V78 (j := (6 : Int32)) (by decide) 6 rfl (Nat.le_of_ble_eq_true rfl) (g := (mkF m 520 #[iv p0, iv p1, iv p2, iv p3, iv p4, iv (p0 &&& (3 : Int32)), iv (Int32.ofNat cu), iv (own_sb cu), iv (p1 &&& (2147483647 : Int32)), .unset, .unset, .unset] [(.int (58 : Int32)), (.int (6 : Int32)), (.ref b), (.ref b)])) rfl rfl (hb hby at_520)
        have V79 : Arv Z h79 b k72 .byte 15 [.int (nar .byte (p3.toInt8.toInt32)), own_vl 104, own_vl 58, own_vl 47, own_vl 47, own_vl 120, own_vl 58, .int 0, .int 0, .int 0, .int 0, .int 0, .int 0, .int 0, .int 0] (.int 0) := V79
        have K79 : Keep h0 h79 [] := K78.wr W79 (Or.inr sz_b)
        have N79 := Fr.snoc X79 NN78 g_b
        refine Go.pre st79 ?_
        obtain ⟨LL79, XX79, NN79⟩ := own_abs X79 N79
        show Go p e below _ (T79.setTop (mkF m 521 #[iv p0, iv p1, iv p2, iv p3, iv p4, iv (p0 &&& (3 : Int32)), iv (Int32.ofNat cu), iv (own_sb cu), iv (p1 &&& (2147483647 : Int32)), .unset, .unset, .unset] [(.ref b)]))
        refine Go.pre (fun _ k => XS.dup XX79.here hx rfl (hb hby at_521) rfl rfl k) ?_
        show Go p e below _ (T79.setTop (mkF m 522 #[iv p0, iv p1, iv p2, iv p3, iv p4, iv (p0 &&& (3 : Int32)), iv (Int32.ofNat cu), iv (own_sb cu), iv (p1 &&& (2147483647 : Int32)), .unset, .unset, .unset] [(.ref b), (.ref b)]))
        refine Go.pre (fun _ k => XS.bipush XX79.here hx rfl (hb hby at_522) k) ?_
        show Go p e below _ (T79.setTop (mkF m 524 #[iv p0, iv p1, iv p2, iv p3, iv p4, iv (p0 &&& (3 : Int32)), iv (Int32.ofNat cu), iv (own_sb cu), iv (p1 &&& (2147483647 : Int32)), .unset, .unset, .unset] [(.int (7 : Int32)), (.ref b), (.ref b)]))
        refine Go.pre (fun _ k => XS.bipush XX79.here hx rfl (hb hby at_524) k) ?_
        show Go p e below _ (T79.setTop (mkF m 526 #[iv p0, iv p1, iv p2, iv p3, iv p4, iv (p0 &&& (3 : Int32)), iv (Int32.ofNat cu), iv (own_sb cu), iv (p1 &&& (2147483647 : Int32)), .unset, .unset, .unset] [(.int (49 : Int32)), (.int (7 : Int32)), (.ref b), (.ref b)]))
        obtain ⟨T80, h80, X80, e80, W80, V80, st80⟩ := own_putB XX79 hx hZ e79 V79 (j := (7 : Int32)) (by decide) 7 rfl (Nat.le_of_ble_eq_true rfl) (g := (mkF m 526 #[iv p0, iv p1, iv p2, iv p3, iv p4, iv (p0 &&& (3 : Int32)), iv (Int32.ofNat cu), iv (own_sb cu), iv (p1 &&& (2147483647 : Int32)), .unset, .unset, .unset] [(.int (49 : Int32)), (.int (7 : Int32)), (.ref b), (.ref b)])) rfl rfl (hb hby at_526)
        have V80 : Arv Z h80 b k72 .byte 15 [.int (nar .byte (p3.toInt8.toInt32)), own_vl 104, own_vl 58, own_vl 47, own_vl 47, own_vl 120, own_vl 58, own_vl 49, .int 0, .int 0, .int 0, .int 0, .int 0, .int 0, .int 0] (.int 0) := V80
        have K80 : Keep h0 h80 [] := K79.wr W80 (Or.inr sz_b)
        have N80 := Fr.snoc X80 NN79 g_b
        refine Go.pre st80 ?_
        obtain ⟨LL80, XX80, NN80⟩ := own_abs X80 N80
        show Go p e below _ (T80.setTop (mkF m 527 #[iv p0, iv p1, iv p2, iv p3, iv p4, iv (p0 &&& (3 : Int32)), iv (Int32.ofNat cu), iv (own_sb cu), iv (p1 &&& (2147483647 : Int32)), .unset, .unset, .unset] [(.ref b)]))
        refine Go.pre (fun _ k => XS.dup XX80.here hx rfl (hb hby at_527) rfl rfl k) ?_
        show Go p e below _ (T80.setTop (mkF m 528 #[iv p0, iv p1, iv p2, iv p3, iv p4, iv (p0 &&& (3 : Int32)), iv (Int32.ofNat cu), iv (own_sb cu), iv (p1 &&& (2147483647 : Int32)), .unset, .unset, .unset] [(.ref b), (.ref b)]))
        refine Go.pre (fun _ k => XS.bipush XX80.here hx rfl (hb hby at_528) k) ?_
        show Go p e below _ (T80.setTop (mkF m 530 #[iv p0, iv p1, iv p2, iv p3, iv p4, iv (p0 &&& (3 : Int32)), iv (Int32.ofNat cu), iv (own_sb cu), iv (p1 &&& (2147483647 : Int32)), .unset, .unset, .unset] [(.int (8 : Int32)), (.ref b), (.ref b)]))
        refine Go.pre (fun _ k => XS.bipush XX80.here hx rfl (hb hby at_530) k) ?_
        show Go p e below _ (T80.setTop (mkF m 532 #[iv p0, iv p1, iv p2, iv p3, iv p4, iv (p0 &&& (3 : Int32)), iv (Int32.ofNat cu), iv (own_sb cu), iv (p1 &&& (2147483647 : Int32)), .unset, .unset, .unset] [(.int (47 : Int32)), (.int (8 : Int32)), (.ref b), (.ref b)]))
        obtain ⟨T81, h81, X81, e81, W81, V81, st81⟩ := own_putB XX80 hx hZ e80 V80 (j := (8 : Int32)) (by decide) 8 rfl (Nat.le_of_ble_eq_true rfl) (g := (mkF m 532 #[iv p0, iv p1, iv p2, iv p3, iv p4, iv (p0 &&& (3 : Int32)), iv (Int32.ofNat cu), iv (own_sb cu), iv (p1 &&& (2147483647 : Int32)), .unset, .unset, .unset] [(.int (47 : Int32)), (.int (8 : Int32)), (.ref b), (.ref b)])) rfl rfl (hb hby at_532)
        have V81 : Arv Z h81 b k72 .byte 15 [.int (nar .byte (p3.toInt8.toInt32)), own_vl 104, own_vl 58, own_vl 47, own_vl 47, own_vl 120, own_vl 58, own_vl 49, own_vl 47, .int 0, .int 0, .int 0, .int 0, .int 0, .int 0] (.int 0) := V81
        have K81 : Keep h0 h81 [] := K80.wr W81 (Or.inr sz_b)
        have N81 := Fr.snoc X81 NN80 g_b
        refine Go.pre st81 ?_
        obtain ⟨LL81, XX81, NN81⟩ := own_abs X81 N81
        show Go p e below _ (T81.setTop (mkF m 533 #[iv p0, iv p1, iv p2, iv p3, iv p4, iv (p0 &&& (3 : Int32)), iv (Int32.ofNat cu), iv (own_sb cu), iv (p1 &&& (2147483647 : Int32)), .unset, .unset, .unset] [(.ref b)]))
        refine Go.pre (fun _ k => XS.dup XX81.here hx rfl (hb hby at_533) rfl rfl k) ?_
        show Go p e below _ (T81.setTop (mkF m 534 #[iv p0, iv p1, iv p2, iv p3, iv p4, iv (p0 &&& (3 : Int32)), iv (Int32.ofNat cu), iv (own_sb cu), iv (p1 &&& (2147483647 : Int32)), .unset, .unset, .unset] [(.ref b), (.ref b)]))
        refine Go.pre (fun _ k => XS.bipush XX81.here hx rfl (hb hby at_534) k) ?_
        show Go p e below _ (T81.setTop (mkF m 536 #[iv p0, iv p1, iv p2, iv p3, iv p4, iv (p0 &&& (3 : Int32)), iv (Int32.ofNat cu), iv (own_sb cu), iv (p1 &&& (2147483647 : Int32)), .unset, .unset, .unset] [(.int (9 : Int32)), (.ref b), (.ref b)]))
        refine Go.pre (fun _ k => XS.bipush XX81.here hx rfl (hb hby at_536) k) ?_
        show Go p e below _ (T81.setTop (mkF m 538 #[iv p0, iv p1, iv p2, iv p3, iv p4, iv (p0 &&& (3 : Int32)), iv (Int32.ofNat cu), iv (own_sb cu), iv (p1 &&& (2147483647 : Int32)), .unset, .unset, .unset] [(.int (112 : Int32)), (.int (9 : Int32)), (.ref b), (.ref b)]))
        obtain ⟨T82, h82, X82, e82, W82, V82, st82⟩ := own_putB XX81 hx hZ e81 V81 (j := (9 : Int32)) (by decide) 9 rfl (Nat.le_of_ble_eq_true rfl) (g := (mkF m 538 #[iv p0, iv p1, iv p2, iv p3, iv p4, iv (p0 &&& (3 : Int32)), iv (Int32.ofNat cu), iv (own_sb cu), iv (p1 &&& (2147483647 : Int32)), .unset, .unset, .unset] [(.int (112 : Int32)), (.int (9 : Int32)), (.ref b), (.ref b)])) rfl rfl (hb hby at_538)
        have V82 : Arv Z h82 b k72 .byte 15 [.int (nar .byte (p3.toInt8.toInt32)), own_vl 104, own_vl 58, own_vl 47, own_vl 47, own_vl 120, own_vl 58, own_vl 49, own_vl 47, own_vl 112, .int 0, .int 0, .int 0, .int 0, .int 0] (.int 0) := V82
        have K82 : Keep h0 h82 [] := K81.wr W82 (Or.inr sz_b)
        have N82 := Fr.snoc X82 NN81 g_b
        refine Go.pre st82 ?_
        obtain ⟨LL82, XX82, NN82⟩ := own_abs X82 N82
        show Go p e below _ (T82.setTop (mkF m 539 #[iv p0, iv p1, iv p2, iv p3, iv p4, iv (p0 &&& (3 : Int32)), iv (Int32.ofNat cu), iv (own_sb cu), iv (p1 &&& (2147483647 : Int32)), .unset, .unset, .unset] [(.ref b)]))
        refine Go.pre (fun _ k => XS.dup XX82.here hx rfl (hb hby at_539) rfl rfl k) ?_
        show Go p e below _ (T82.setTop (mkF m 540 #[iv p0, iv p1, iv p2, iv p3, iv p4, iv (p0 &&& (3 : Int32)), iv (Int32.ofNat cu), iv (own_sb cu), iv (p1 &&& (2147483647 : Int32)), .unset, .unset, .unset] [(.ref b), (.ref b)]))
        refine Go.pre (fun _ k => XS.bipush XX82.here hx rfl (hb hby at_540) k) ?_
        show Go p e below _ (T82.setTop (mkF m 542 #[iv p0, iv p1, iv p2, iv p3, iv p4, iv (p0 &&& (3 : Int32)), iv (Int32.ofNat cu), iv (own_sb cu), iv (p1 &&& (2147483647 : Int32)), .unset, .unset, .unset] [(.int (10 : Int32)), (.ref b), (.ref b)]))
        refine Go.pre (fun _ k => XS.bipush XX82.here hx rfl (hb hby at_542) k) ?_
        show Go p e below _ (T82.setTop (mkF m 544 #[iv p0, iv p1, iv p2, iv p3, iv p4, iv (p0 &&& (3 : Int32)), iv (Int32.ofNat cu), iv (own_sb cu), iv (p1 &&& (2147483647 : Int32)), .unset, .unset, .unset] [(.int (63 : Int32)), (.int (10 : Int32)), (.ref b), (.ref b)]))
        obtain ⟨T83, h83, X83, e83, W83, V83, st83⟩ := own_putB XX82 hx hZ e82 V82 (j := (10 : Int32)) (by decide) 10 rfl (Nat.le_of_ble_eq_true rfl) (g := (mkF m 544 #[iv p0, iv p1, iv p2, iv p3, iv p4, iv (p0 &&& (3 : Int32)), iv (Int32.ofNat cu), iv (own_sb cu), iv (p1 &&& (2147483647 : Int32)), .unset, .unset, .unset] [(.int (63 : Int32)), (.int (10 : Int32)), (.ref b), (.ref b)])) rfl rfl (hb hby at_544)
        have V83 : Arv Z h83 b k72 .byte 15 [.int (nar .byte (p3.toInt8.toInt32)), own_vl 104, own_vl 58, own_vl 47, own_vl 47, own_vl 120, own_vl 58, own_vl 49, own_vl 47, own_vl 112, own_vl 63, .int 0, .int 0, .int 0, .int 0] (.int 0) := V83
        have K83 : Keep h0 h83 [] := K82.wr W83 (Or.inr sz_b)
        have N83 := Fr.snoc X83 NN82 g_b
        refine Go.pre st83 ?_
        obtain ⟨LL83, XX83, NN83⟩ := own_abs X83 N83
        show Go p e below _ (T83.setTop (mkF m 545 #[iv p0, iv p1, iv p2, iv p3, iv p4, iv (p0 &&& (3 : Int32)), iv (Int32.ofNat cu), iv (own_sb cu), iv (p1 &&& (2147483647 : Int32)), .unset, .unset, .unset] [(.ref b)]))
        refine Go.pre (fun _ k => XS.dup XX83.here hx rfl (hb hby at_545) rfl rfl k) ?_
        show Go p e below _ (T83.setTop (mkF m 546 #[iv p0, iv p1, iv p2, iv p3, iv p4, iv (p0 &&& (3 : Int32)), iv (Int32.ofNat cu), iv (own_sb cu), iv (p1 &&& (2147483647 : Int32)), .unset, .unset, .unset] [(.ref b), (.ref b)]))
        refine Go.pre (fun _ k => XS.bipush XX83.here hx rfl (hb hby at_546) k) ?_
        show Go p e below _ (T83.setTop (mkF m 548 #[iv p0, iv p1, iv p2, iv p3, iv p4, iv (p0 &&& (3 : Int32)), iv (Int32.ofNat cu), iv (own_sb cu), iv (p1 &&& (2147483647 : Int32)), .unset, .unset, .unset] [(.int (11 : Int32)), (.ref b), (.ref b)]))
        refine Go.pre (fun _ k => XS.bipush XX83.here hx rfl (hb hby at_548) k) ?_
        show Go p e below _ (T83.setTop (mkF m 550 #[iv p0, iv p1, iv p2, iv p3, iv p4, iv (p0 &&& (3 : Int32)), iv (Int32.ofNat cu), iv (own_sb cu), iv (p1 &&& (2147483647 : Int32)), .unset, .unset, .unset] [(.int (113 : Int32)), (.int (11 : Int32)), (.ref b), (.ref b)]))
        obtain ⟨T84, h84, X84, e84, W84, V84, st84⟩ := own_putB XX83 hx hZ e83 V83 (j := (11 : Int32)) (by decide) 11 rfl (Nat.le_of_ble_eq_true rfl) (g := (mkF m 550 #[iv p0, iv p1, iv p2, iv p3, iv p4, iv (p0 &&& (3 : Int32)), iv (Int32.ofNat cu), iv (own_sb cu), iv (p1 &&& (2147483647 : Int32)), .unset, .unset, .unset] [(.int (113 : Int32)), (.int (11 : Int32)), (.ref b), (.ref b)])) rfl rfl (hb hby at_550)
        have V84 : Arv Z h84 b k72 .byte 15 [.int (nar .byte (p3.toInt8.toInt32)), own_vl 104, own_vl 58, own_vl 47, own_vl 47, own_vl 120, own_vl 58, own_vl 49, own_vl 47, own_vl 112, own_vl 63, own_vl 113, .int 0, .int 0, .int 0] (.int 0) := V84
        have K84 : Keep h0 h84 [] := K83.wr W84 (Or.inr sz_b)
        have N84 := Fr.snoc X84 NN83 g_b
        refine Go.pre st84 ?_
        obtain ⟨LL84, XX84, NN84⟩ := own_abs X84 N84
        show Go p e below _ (T84.setTop (mkF m 551 #[iv p0, iv p1, iv p2, iv p3, iv p4, iv (p0 &&& (3 : Int32)), iv (Int32.ofNat cu), iv (own_sb cu), iv (p1 &&& (2147483647 : Int32)), .unset, .unset, .unset] [(.ref b)]))
        refine Go.pre (fun _ k => XS.dup XX84.here hx rfl (hb hby at_551) rfl rfl k) ?_
        show Go p e below _ (T84.setTop (mkF m 552 #[iv p0, iv p1, iv p2, iv p3, iv p4, iv (p0 &&& (3 : Int32)), iv (Int32.ofNat cu), iv (own_sb cu), iv (p1 &&& (2147483647 : Int32)), .unset, .unset, .unset] [(.ref b), (.ref b)]))
        refine Go.pre (fun _ k => XS.bipush XX84.here hx rfl (hb hby at_552) k) ?_
        show Go p e below _ (T84.setTop (mkF m 554 #[iv p0, iv p1, iv p2, iv p3, iv p4, iv (p0 &&& (3 : Int32)), iv (Int32.ofNat cu), iv (own_sb cu), iv (p1 &&& (2147483647 : Int32)), .unset, .unset, .unset] [(.int (12 : Int32)), (.ref b), (.ref b)]))
        refine Go.pre (fun _ k => XS.bipush XX84.here hx rfl (hb hby at_554) k) ?_
        show Go p e below _ (T84.setTop (mkF m 556 #[iv p0, iv p1, iv p2, iv p3, iv p4, iv (p0 &&& (3 : Int32)), iv (Int32.ofNat cu), iv (own_sb cu), iv (p1 &&& (2147483647 : Int32)), .unset, .unset, .unset] [(.int (35 : Int32)), (.int (12 : Int32)), (.ref b), (.ref b)]))
        obtain ⟨T85, h85, X85, e85, W85, V85, st85⟩ := own_putB XX84 hx hZ e84 V84 (j := (12 : Int32)) (by decide) 12 rfl (Nat.le_of_ble_eq_true rfl) (g := (mkF m 556 #[iv p0, iv p1, iv p2, iv p3, iv p4, iv (p0 &&& (3 : Int32)), iv (Int32.ofNat cu), iv (own_sb cu), iv (p1 &&& (2147483647 : Int32)), .unset, .unset, .unset] [(.int (35 : Int32)), (.int (12 : Int32)), (.ref b), (.ref b)])) rfl rfl (hb hby at_556)
        have V85 : Arv Z h85 b k72 .byte 15 [.int (nar .byte (p3.toInt8.toInt32)), own_vl 104, own_vl 58, own_vl 47, own_vl 47, own_vl 120, own_vl 58, own_vl 49, own_vl 47, own_vl 112, own_vl 63, own_vl 113, own_vl 35, .int 0, .int 0] (.int 0) := V85
        have K85 : Keep h0 h85 [] := K84.wr W85 (Or.inr sz_b)
        have N85 := Fr.snoc X85 NN84 g_b
        refine Go.pre st85 ?_
        obtain ⟨LL85, XX85, NN85⟩ := own_abs X85 N85
        show Go p e below _ (T85.setTop (mkF m 557 #[iv p0, iv p1, iv p2, iv p3, iv p4, iv (p0 &&& (3 : Int32)), iv (Int32.ofNat cu), iv (own_sb cu), iv (p1 &&& (2147483647 : Int32)), .unset, .unset, .unset] [(.ref b)]))
        refine Go.pre (fun _ k => XS.dup XX85.here hx rfl (hb hby at_557) rfl rfl k) ?_
        show Go p e below _ (T85.setTop (mkF m 558 #[iv p0, iv p1, iv p2, iv p3, iv p4, iv (p0 &&& (3 : Int32)), iv (Int32.ofNat cu), iv (own_sb cu), iv (p1 &&& (2147483647 : Int32)), .unset, .unset, .unset] [(.ref b), (.ref b)]))
        refine Go.pre (fun _ k => XS.bipush XX85.here hx rfl (hb hby at_558) k) ?_
        show Go p e below _ (T85.setTop (mkF m 560 #[iv p0, iv p1, iv p2, iv p3, iv p4, iv (p0 &&& (3 : Int32)), iv (Int32.ofNat cu), iv (own_sb cu), iv (p1 &&& (2147483647 : Int32)), .unset, .unset, .unset] [(.int (13 : Int32)), (.ref b), (.ref b)]))
        refine Go.pre (fun _ k => XS.bipush XX85.here hx rfl (hb hby at_560) k) ?_
        show Go p e below _ (T85.setTop (mkF m 562 #[iv p0, iv p1, iv p2, iv p3, iv p4, iv (p0 &&& (3 : Int32)), iv (Int32.ofNat cu), iv (own_sb cu), iv (p1 &&& (2147483647 : Int32)), .unset, .unset, .unset] [(.int (102 : Int32)), (.int (13 : Int32)), (.ref b), (.ref b)]))
        obtain ⟨T86, h86, X86, e86, W86, V86, st86⟩ := own_putB XX85 hx hZ e85 V85 (j := (13 : Int32)) (by decide) 13 rfl (Nat.le_of_ble_eq_true rfl) (g := (mkF m 562 #[iv p0, iv p1, iv p2, iv p3, iv p4, iv (p0 &&& (3 : Int32)), iv (Int32.ofNat cu), iv (own_sb cu), iv (p1 &&& (2147483647 : Int32)), .unset, .unset, .unset] [(.int (102 : Int32)), (.int (13 : Int32)), (.ref b), (.ref b)])) rfl rfl (hb hby at_562)
        have V86 : Arv Z h86 b k72 .byte 15 [.int (nar .byte (p3.toInt8.toInt32)), own_vl 104, own_vl 58, own_vl 47, own_vl 47, own_vl 120, own_vl 58, own_vl 49, own_vl 47, own_vl 112, own_vl 63, own_vl 113, own_vl 35, own_vl 102, .int 0] (.int 0) := V86
        have K86 : Keep h0 h86 [] := K85.wr W86 (Or.inr sz_b)
        have N86 := Fr.snoc X86 NN85 g_b
        refine Go.pre st86 ?_
        obtain ⟨LL86, XX86, NN86⟩ := own_abs X86 N86
        show Go p e below _ (T86.setTop (mkF m 563 #[iv p0, iv p1, iv p2, iv p3, iv p4, iv (p0 &&& (3 : Int32)), iv (Int32.ofNat cu), iv (own_sb cu), iv (p1 &&& (2147483647 : Int32)), .unset, .unset, .unset] [(.ref b)]))
        refine Go.pre (fun _ k => XS.dup XX86.here hx rfl (hb hby at_563) rfl rfl k) ?_
        show Go p e below _ (T86.setTop (mkF m 564 #[iv p0, iv p1, iv p2, iv p3, iv p4, iv (p0 &&& (3 : Int32)), iv (Int32.ofNat cu), iv (own_sb cu), iv (p1 &&& (2147483647 : Int32)), .unset, .unset, .unset] [(.ref b), (.ref b)]))
        refine Go.pre (fun _ k => XS.bipush XX86.here hx rfl (hb hby at_564) k) ?_
        show Go p e below _ (T86.setTop (mkF m 566 #[iv p0, iv p1, iv p2, iv p3, iv p4, iv (p0 &&& (3 : Int32)), iv (Int32.ofNat cu), iv (own_sb cu), iv (p1 &&& (2147483647 : Int32)), .unset, .unset, .unset] [(.int (14 : Int32)), (.ref b), (.ref b)]))
        refine Go.pre (fun _ k => XS.iload XX86.here hx rfl (hb hby at_566) rfl k) ?_
        show Go p e below _ (T86.setTop (mkF m 568 #[iv p0, iv p1, iv p2, iv p3, iv p4, iv (p0 &&& (3 : Int32)), iv (Int32.ofNat cu), iv (own_sb cu), iv (p1 &&& (2147483647 : Int32)), .unset, .unset, .unset] [(.int p4), (.int (14 : Int32)), (.ref b), (.ref b)]))
        refine Go.pre (fun _ k => XS.i2b XX86.here hx rfl (hb hby at_568) rfl k) ?_
        show Go p e below _ (T86.setTop (mkF m 569 #[iv p0, iv p1, iv p2, iv p3, iv p4, iv (p0 &&& (3 : Int32)), iv (Int32.ofNat cu), iv (own_sb cu), iv (p1 &&& (2147483647 : Int32)), .unset, .unset, .unset] [(.int (p4.toInt8.toInt32)), (.int (14 : Int32)), (.ref b), (.ref b)]))
        obtain ⟨T87, h87, X87, e87, W87, V87, st87⟩ := own_putB XX86 hx hZ e86 V86 (j := (14 : Int32)) (by decide) 14 rfl (Nat.le_of_ble_eq_true rfl) (g := (mkF m 569 #[iv p0, iv p1, iv p2, iv p3, iv p4, iv (p0 &&& (3 : Int32)), iv (Int32.ofNat cu), iv (own_sb cu), iv (p1 &&& (2147483647 : Int32)), .unset, .unset, .unset] [(.int (p4.toInt8.toInt32)), (.int (14 : Int32)), (.ref b), (.ref b)])) rfl rfl (hb hby at_569)
        have V87 : Arv Z h87 b k72 .byte 15 [.int (nar .byte (p3.toInt8.toInt32)), own_vl 104, own_vl 58, own_vl 47, own_vl 47, own_vl 120, own_vl 58, own_vl 49, own_vl 47, own_vl 112, own_vl 63, own_vl 113, own_vl 35, own_vl 102, .int (nar .byte (p4.toInt8.toInt32))] (.int 0) := V87
        have K87 : Keep h0 h87 [] := K86.wr W87 (Or.inr sz_b)
        have N87 := Fr.snoc X87 NN86 g_b
        refine Go.pre st87 ?_
        obtain ⟨LL87, XX87, NN87⟩ := own_abs X87 N87
        show Go p e below _ (T87.setTop (mkF m 570 #[iv p0, iv p1, iv p2, iv p3, iv p4, iv (p0 &&& (3 : Int32)), iv (Int32.ofNat cu), iv (own_sb cu), iv (p1 &&& (2147483647 : Int32)), .unset, .unset, .unset] [(.ref b)]))
        refine Go.pre (fun _ k => XS.astore XX87.here hx rfl (hb hby at_570) rfl rfl (l' := #[iv p0, iv p1, iv p2, iv p3, iv p4, iv (p0 &&& (3 : Int32)), iv (Int32.ofNat cu), iv (own_sb cu), iv (p1 &&& (2147483647 : Int32)), rv b, .unset, .unset]) rfl k) ?_
        show Go p e below _ (T87.setTop (mkF m 572 #[iv p0, iv p1, iv p2, iv p3, iv p4, iv (p0 &&& (3 : Int32)), iv (Int32.ofNat cu), iv (own_sb cu), iv (p1 &&& (2147483647 : Int32)), rv b, .unset, .unset] []))
        refine Go.pre (fun _ k => XS.iload XX87.here hx rfl (hb hby at_572) rfl k) ?_
        show Go p e below _ (T87.setTop (mkF m 574 #[iv p0, iv p1, iv p2, iv p3, iv p4, iv (p0 &&& (3 : Int32)), iv (Int32.ofNat cu), iv (own_sb cu), iv (p1 &&& (2147483647 : Int32)), rv b, .unset, .unset] [(.int (p1 &&& (2147483647 : Int32)))]))
        refine Go.pre (fun _ k => XS.bipush XX87.here hx rfl (hb hby at_574) k) ?_
        show Go p e below _ (T87.setTop (mkF m 576 #[iv p0, iv p1, iv p2, iv p3, iv p4, iv (p0 &&& (3 : Int32)), iv (Int32.ofNat cu), iv (own_sb cu), iv (p1 &&& (2147483647 : Int32)), rv b, .unset, .unset] [(.int (14 : Int32)), (.int (p1 &&& (2147483647 : Int32)))]))
        refine Go.pre (fun _ k => XS.irem XX87.here hx rfl (hb hby at_576) rfl (by decide) k) ?_
        show Go p e below _ (T87.setTop (mkF m 577 #[iv p0, iv p1, iv p2, iv p3, iv p4, iv (p0 &&& (3 : Int32)), iv (Int32.ofNat cu), iv (own_sb cu), iv (p1 &&& (2147483647 : Int32)), rv b, .unset, .unset] [(.int ((p1 &&& (2147483647 : Int32)) - (p1 &&& (2147483647 : Int32)) / (14 : Int32) * (14 : Int32)))]))
        obtain ⟨ku, hku, ek⟩ := own_rem14 p1
        rw [ek]
        show Go p e below _ (T87.setTop (mkF m 577 #[iv p0, iv p1, iv p2, iv p3, iv p4, iv (p0 &&& (3 : Int32)), iv (Int32.ofNat cu), iv (own_sb cu), iv (p1 &&& (2147483647 : Int32)), rv b, .unset, .unset] [(.int (Int32.ofNat ku))]))
        refine Go.pre (fun _ k => XS.istore XX87.here hx rfl (hb hby at_577) rfl (l' := #[iv p0, iv p1, iv p2, iv p3, iv p4, iv (p0 &&& (3 : Int32)), iv (Int32.ofNat cu), iv (own_sb cu), iv (p1 &&& (2147483647 : Int32)), rv b, iv (Int32.ofNat ku), .unset]) rfl k) ?_
        show Go p e below _ (T87.setTop (mkF m 579 #[iv p0, iv p1, iv p2, iv p3, iv p4, iv (p0 &&& (3 : Int32)), iv (Int32.ofNat cu), iv (own_sb cu), iv (p1 &&& (2147483647 : Int32)), rv b, iv (Int32.ofNat ku), .unset] []))
        refine Go.pre (fun _ k => XS.aload XX87.here hx rfl (hb hby at_579) rfl rfl k) ?_
        show Go p e below _ (T87.setTop (mkF m 581 #[iv p0, iv p1, iv p2, iv p3, iv p4, iv (p0 &&& (3 : Int32)), iv (Int32.ofNat cu), iv (own_sb cu), iv (p1 &&& (2147483647 : Int32)), rv b, iv (Int32.ofNat ku), .unset] [(.ref b)]))
        refine Go.pre (fun _ k => XS.iconst XX87.here hx rfl (hb hby at_581) k) ?_
        show Go p e below _ (T87.setTop (mkF m 582 #[iv p0, iv p1, iv p2, iv p3, iv p4, iv (p0 &&& (3 : Int32)), iv (Int32.ofNat cu), iv (own_sb cu), iv (p1 &&& (2147483647 : Int32)), rv b, iv (Int32.ofNat ku), .unset] [(.int (1 : Int32)), (.ref b)]))
        refine Go.pre (fun _ k => XS.iload XX87.here hx rfl (hb hby at_582) rfl k) ?_
        show Go p e below _ (T87.setTop (mkF m 584 #[iv p0, iv p1, iv p2, iv p3, iv p4, iv (p0 &&& (3 : Int32)), iv (Int32.ofNat cu), iv (own_sb cu), iv (p1 &&& (2147483647 : Int32)), rv b, iv (Int32.ofNat ku), .unset] [(.int (Int32.ofNat ku)), (.int (1 : Int32)), (.ref b)]))
        refine Go.pre (fun _ k => XS.iadd XX87.here hx rfl (hb hby at_584) rfl k) ?_
        show Go p e below _ (T87.setTop (mkF m 585 #[iv p0, iv p1, iv p2, iv p3, iv p4, iv (p0 &&& (3 : Int32)), iv (Int32.ofNat cu), iv (own_sb cu), iv (p1 &&& (2147483647 : Int32)), rv b, iv (Int32.ofNat ku), .unset] [(.int ((Int32.ofNat 1) + (Int32.ofNat ku))), (.ref b)]))
        rw [own_oadd]
        show Go p e below _ (T87.setTop (mkF m 585 #[iv p0, iv p1, iv p2, iv p3, iv p4, iv (p0 &&& (3 : Int32)), iv (Int32.ofNat cu), iv (own_sb cu), iv (p1 &&& (2147483647 : Int32)), rv b, iv (Int32.ofNat ku), .unset] [(.int (Int32.ofNat (1 + ku))), (.ref b)]))
        refine Go.pre (fun _ k => XS.iload XX87.here hx rfl (hb hby at_585) rfl k) ?_
        show Go p e below _ (T87.setTop (mkF m 587 #[iv p0, iv p1, iv p2, iv p3, iv p4, iv (p0 &&& (3 : Int32)), iv (Int32.ofNat cu), iv (own_sb cu), iv (p1 &&& (2147483647 : Int32)), rv b, iv (Int32.ofNat ku), .unset] [(.int (own_sb cu)), (.int (Int32.ofNat (1 + ku))), (.ref b)]))
        have V88t : Arv Z h87 b k72 .byte 15 ((.int (nar .byte (p3.toInt8.toInt32))) :: (own_tA.map own_vl ++ [.int (nar .byte (p4.toInt8.toInt32))])) (.int 0) := by simp only [own_tA, List.map_cons, List.map_nil, List.cons_append, List.nil_append]; exact V87
        obtain ⟨T88, h88, X88, e88, W88, V88, st88⟩ := own_putB XX87 hx hZ e87 V88t (j := (Int32.ofNat (1 + ku))) ⟨own_nn (by omega), (own_ol (b := 15) (by omega) (by omega)).mpr (by omega)⟩ (1 + ku) (own_clamp (by omega)) (by simp only [own_tA, List.length_cons, List.length_append, List.length_map, List.length_nil]; omega) (g := (mkF m 587 #[iv p0, iv p1, iv p2, iv p3, iv p4, iv (p0 &&& (3 : Int32)), iv (Int32.ofNat cu), iv (own_sb cu), iv (p1 &&& (2147483647 : Int32)), rv b, iv (Int32.ofNat ku), .unset] [(.int (own_sb cu)), (.int (Int32.ofNat (1 + ku))), (.ref b)])) rfl rfl (hb hby at_587)
        have V88 : Arv Z h88 b k72 .byte 15 (((.int (nar .byte (p3.toInt8.toInt32))) :: (own_tA.map own_vl ++ [.int (nar .byte (p4.toInt8.toInt32))])).set (1 + ku) (.int (nar .byte (own_sb cu)))) (.int 0) := V88
        have B : Byt Z h88 b (own_b own_tA) (1 + ku) := own_byt V88 (by show 1 + ku ≤ 15; omega) (by omega) (fun i q1 q2 => own_vsD own_tA _ _ _ _ ku i q1 q2 (by simp only [own_tA, List.length_cons, List.length_nil]; omega))
        have K88 : Keep h0 h88 [] := K87.wr W88 (Or.inr sz_b)
        have N88 := Fr.snoc X88 NN87 g_b
        refine Go.pre st88 ?_
        obtain ⟨LL88, XX88, NN88⟩ := own_abs X88 N88
        show Go p e below _ (T88.setTop (mkF m 588 #[iv p0, iv p1, iv p2, iv p3, iv p4, iv (p0 &&& (3 : Int32)), iv (Int32.ofNat cu), iv (own_sb cu), iv (p1 &&& (2147483647 : Int32)), rv b, iv (Int32.ofNat ku), .unset] []))
        refine Go.pre (fun _ k => XS.iload XX88.here hx rfl (hb hby at_588) rfl k) ?_
        show Go p e below _ (T88.setTop (mkF m 590 #[iv p0, iv p1, iv p2, iv p3, iv p4, iv (p0 &&& (3 : Int32)), iv (Int32.ofNat cu), iv (own_sb cu), iv (p1 &&& (2147483647 : Int32)), rv b, iv (Int32.ofNat ku), .unset] [(.int (Int32.ofNat ku))]))
        by_cases hc590_89 : ku = 0
        · skip
          refine Go.pre (fun _ k => XS.ifYes XX88.here hx rfl (pc0 := 590) (pc' := 609) rfl (hb hby at_590) rfl ((if0 _ _).trans (teq ((own_oe (a := ku) (b := 0) (by omega) (by omega)).mpr hc590_89)).1) (by decide) (by decide) k) ?_
          show Go p e below _ (T88.setTop (mkF m 609 #[iv p0, iv p1, iv p2, iv p3, iv p4, iv (p0 &&& (3 : Int32)), iv (Int32.ofNat cu), iv (own_sb cu), iv (p1 &&& (2147483647 : Int32)), rv b, iv (Int32.ofNat ku), .unset] []))
          refine Go.pre (fun _ k => XS.iconst XX88.here hx rfl (hb hby at_609) k) ?_
          show Go p e below _ (T88.setTop (mkF m 610 #[iv p0, iv p1, iv p2, iv p3, iv p4, iv (p0 &&& (3 : Int32)), iv (Int32.ofNat cu), iv (own_sb cu), iv (p1 &&& (2147483647 : Int32)), rv b, iv (Int32.ofNat ku), .unset] [(.int (0 : Int32))]))
          refine Go.pre (fun _ k => XS.istore XX88.here hx rfl (hb hby at_610) rfl (l' := #[iv p0, iv p1, iv p2, iv p3, iv p4, iv (p0 &&& (3 : Int32)), iv (Int32.ofNat cu), iv (own_sb cu), iv (p1 &&& (2147483647 : Int32)), rv b, iv (Int32.ofNat ku), iv (0 : Int32)]) rfl k) ?_
          show Go p e below _ (T88.setTop (mkF m 612 #[iv p0, iv p1, iv p2, iv p3, iv p4, iv (p0 &&& (3 : Int32)), iv (Int32.ofNat cu), iv (own_sb cu), iv (p1 &&& (2147483647 : Int32)), rv b, iv (Int32.ofNat ku), iv (0 : Int32)] []))
          refine Go.pre (fun _ k => XS.aload XX88.here hx rfl (hb hby at_612) rfl rfl k) ?_
          show Go p e below _ (T88.setTop (mkF m 614 #[iv p0, iv p1, iv p2, iv p3, iv p4, iv (p0 &&& (3 : Int32)), iv (Int32.ofNat cu), iv (own_sb cu), iv (p1 &&& (2147483647 : Int32)), rv b, iv (Int32.ofNat ku), iv (0 : Int32)] [(.ref b)]))
          refine Go.pre (fun _ k => XS.iconst XX88.here hx rfl (hb hby at_614) k) ?_
          show Go p e below _ (T88.setTop (mkF m 615 #[iv p0, iv p1, iv p2, iv p3, iv p4, iv (p0 &&& (3 : Int32)), iv (Int32.ofNat cu), iv (own_sb cu), iv (p1 &&& (2147483647 : Int32)), rv b, iv (Int32.ofNat ku), iv (0 : Int32)] [(.int (1 : Int32)), (.ref b)]))
          refine Go.pre (fun _ k => XS.iconst XX88.here hx rfl (hb hby at_615) k) ?_
          show Go p e below _ (T88.setTop (mkF m 616 #[iv p0, iv p1, iv p2, iv p3, iv p4, iv (p0 &&& (3 : Int32)), iv (Int32.ofNat cu), iv (own_sb cu), iv (p1 &&& (2147483647 : Int32)), rv b, iv (Int32.ofNat ku), iv (0 : Int32)] [(.int (1 : Int32)), (.int (1 : Int32)), (.ref b)]))
          refine Go.pre (fun _ k => XS.iload XX88.here hx rfl (hb hby at_616) rfl k) ?_
          show Go p e below _ (T88.setTop (mkF m 618 #[iv p0, iv p1, iv p2, iv p3, iv p4, iv (p0 &&& (3 : Int32)), iv (Int32.ofNat cu), iv (own_sb cu), iv (p1 &&& (2147483647 : Int32)), rv b, iv (Int32.ofNat ku), iv (0 : Int32)] [(.int (Int32.ofNat ku)), (.int (1 : Int32)), (.int (1 : Int32)), (.ref b)]))
          refine Go.pre (fun _ k => XS.iadd XX88.here hx rfl (hb hby at_618) rfl k) ?_
          show Go p e below _ (T88.setTop (mkF m 619 #[iv p0, iv p1, iv p2, iv p3, iv p4, iv (p0 &&& (3 : Int32)), iv (Int32.ofNat cu), iv (own_sb cu), iv (p1 &&& (2147483647 : Int32)), rv b, iv (Int32.ofNat ku), iv (0 : Int32)] [(.int ((Int32.ofNat 1) + (Int32.ofNat ku))), (.int (1 : Int32)), (.ref b)]))
          rw [own_oadd]
          show Go p e below _ (T88.setTop (mkF m 619 #[iv p0, iv p1, iv p2, iv p3, iv p4, iv (p0 &&& (3 : Int32)), iv (Int32.ofNat cu), iv (own_sb cu), iv (p1 &&& (2147483647 : Int32)), rv b, iv (Int32.ofNat ku), iv (0 : Int32)] [(.int (Int32.ofNat (1 + ku))), (.int (1 : Int32)), (.ref b)]))
          obtain ⟨_, _, ⟨T90, L90, k90, n90⟩, -, X90, ⟨Lc90, hQ90, l90, y90, z90⟩, st90⟩ := Jvm.LawKit.callS XX88 hx (y := (⟨"com/example/entayl/entayl/input/IriTable", "isPlainIri", "([BII)Z"⟩ : MethodName)) hown (mvT hZ (hw _ (List.mem_of_getElem? (i := 2) rfl))) (mvT hZ (hw _ (List.mem_of_getElem? (i := 3) rfl))) (mvT hZ (hw _ (List.mem_of_getElem? (i := 4) rfl))) (mvT hZ (hw _ (List.mem_of_getElem? (i := 5) rfl))) (by decide) (backOf (W := 0) (rm_plain l Z a0 hw [] b (own_b own_tA) (1 + ku) ck h88 n0 (Nat.le_trans Z0 K88.1) B (own_b8' own_tA (by decide)) (by omega) (own_staK SK K88) (own_kdK KD K88) (by omega)) hZ (hw _ (List.mem_of_getElem? (i := 5) rfl)) (hw _ (List.mem_of_getElem? (i := 4) rfl)) (by decide) (by decide)) (g := (mkF m 619 #[iv p0, iv p1, iv p2, iv p3, iv p4, iv (p0 &&& (3 : Int32)), iv (Int32.ofNat cu), iv (own_sb cu), iv (p1 &&& (2147483647 : Int32)), rv b, iv (Int32.ofNat ku), iv (0 : Int32)] [(.int (Int32.ofNat (1 + ku))), (.int (1 : Int32)), (.ref b)])) rfl (by rw [hml]; rfl) (argsL := [(.ref b), (.int (1 : Int32)), (.int (Int32.ofNat (1 + ku)))]) (rest := []) (lenOf pd_3 rfl) rfl (by show 2 * 0 + _ ≤ _; exact Nat.le_of_eq rfl) (hb hby at_619) (fun _ _ => ⟨rfl, e88, (by decide : 1 + 0 ≤ _), (by decide : 15 + 0 ≤ _)⟩)
          dsimp only [Pt.U, Pt.locs, Pt.cells, Pt.slots] at X90 l90 y90 z90 st90 hQ90
          subst l90 y90 z90
          refine Go.pre st90 ?_
          rcases hQ90 with ⟨hp90, rfl, N90q, eh90⟩ | ⟨hp90, rfl, N90q, eh90⟩
          · skip
            have N90 := Fr.app NN88 N90q
            show Go p e below _ (T90.setTop (mkF m 622 #[iv p0, iv p1, iv p2, iv p3, iv p4, iv (p0 &&& (3 : Int32)), iv (Int32.ofNat cu), iv (own_sb cu), iv (p1 &&& (2147483647 : Int32)), rv b, iv (Int32.ofNat ku), iv (0 : Int32)] [(.int (1 : Int32))]))
            refine Go.pre (fun _ k => XS.iload X90.here hx rfl (hb hby at_622) rfl k) ?_
            show Go p e below _ (T90.setTop (mkF m 624 #[iv p0, iv p1, iv p2, iv p3, iv p4, iv (p0 &&& (3 : Int32)), iv (Int32.ofNat cu), iv (own_sb cu), iv (p1 &&& (2147483647 : Int32)), rv b, iv (Int32.ofNat ku), iv (0 : Int32)] [(.int (0 : Int32)), (.int (1 : Int32))]))
            refine Go.pre (fun _ k => XS.icmpYes X90.here hx rfl (pc0 := 624) (pc' := 631) rfl (hb hby at_624) rfl (feq (by decide : ¬ ((1 : Int32) = (0 : Int32)))).2 (by decide) (by decide) k) ?_
            show Go p e below _ (T90.setTop (mkF m 631 #[iv p0, iv p1, iv p2, iv p3, iv p4, iv (p0 &&& (3 : Int32)), iv (Int32.ofNat cu), iv (own_sb cu), iv (p1 &&& (2147483647 : Int32)), rv b, iv (Int32.ofNat ku), iv (0 : Int32)] []))
            refine Go.pre (fun _ k => XS.iconst X90.here hx rfl (hb hby at_631) k) ?_
            show Go p e below _ (T90.setTop (mkF m 632 #[iv p0, iv p1, iv p2, iv p3, iv p4, iv (p0 &&& (3 : Int32)), iv (Int32.ofNat cu), iv (own_sb cu), iv (p1 &&& (2147483647 : Int32)), rv b, iv (Int32.ofNat ku), iv (0 : Int32)] [(.int (0 : Int32))]))
            have q := own_useD hku
            rw [hp90] at q
            simp [hc25_1, hc162_22, hc311_45, hc590_89] at q
          · skip
            have N90 := Fr.app NN88 N90q
            show Go p e below _ (T90.setTop (mkF m 622 #[iv p0, iv p1, iv p2, iv p3, iv p4, iv (p0 &&& (3 : Int32)), iv (Int32.ofNat cu), iv (own_sb cu), iv (p1 &&& (2147483647 : Int32)), rv b, iv (Int32.ofNat ku), iv (0 : Int32)] [(.int (0 : Int32))]))
            refine Go.pre (fun _ k => XS.iload X90.here hx rfl (hb hby at_622) rfl k) ?_
            show Go p e below _ (T90.setTop (mkF m 624 #[iv p0, iv p1, iv p2, iv p3, iv p4, iv (p0 &&& (3 : Int32)), iv (Int32.ofNat cu), iv (own_sb cu), iv (p1 &&& (2147483647 : Int32)), rv b, iv (Int32.ofNat ku), iv (0 : Int32)] [(.int (0 : Int32)), (.int (0 : Int32))]))
            refine Go.pre (fun _ k => XS.icmpNo X90.here hx rfl (hb hby at_624) rfl (teq (by decide : (0 : Int32) = (0 : Int32))).2 k) ?_
            show Go p e below _ (T90.setTop (mkF m 627 #[iv p0, iv p1, iv p2, iv p3, iv p4, iv (p0 &&& (3 : Int32)), iv (Int32.ofNat cu), iv (own_sb cu), iv (p1 &&& (2147483647 : Int32)), rv b, iv (Int32.ofNat ku), iv (0 : Int32)] []))
            refine Go.pre (fun _ k => XS.iconst X90.here hx rfl (hb hby at_627) k) ?_
            show Go p e below _ (T90.setTop (mkF m 628 #[iv p0, iv p1, iv p2, iv p3, iv p4, iv (p0 &&& (3 : Int32)), iv (Int32.ofNat cu), iv (own_sb cu), iv (p1 &&& (2147483647 : Int32)), rv b, iv (Int32.ofNat ku), iv (0 : Int32)] [(.int (1 : Int32))]))
            refine Go.pre (fun _ k => XS.goto X90.here hx rfl (pc0 := 628) (pc' := 632) rfl (hb hby at_628) (by decide) (by decide) k) ?_
            show Go p e below _ (T90.setTop (mkF m 632 #[iv p0, iv p1, iv p2, iv p3, iv p4, iv (p0 &&& (3 : Int32)), iv (Int32.ofNat cu), iv (own_sb cu), iv (p1 &&& (2147483647 : Int32)), rv b, iv (Int32.ofNat ku), iv (0 : Int32)] [(.int (1 : Int32))]))
            obtain ⟨fs, hr, hrun, hended, hW, hsame⟩ := X90.leave (v := some (.int (1 : Int32))) (fun h => by rw [Bd.returns] at h; cases h)
            refine Go.fin (retN X90 hx (t := .boolean) Bd.returns (by simp) (hb hby at_632) hr) ⟨hrun, hended, _, _, rfl, ?_, ⟨_, rfl⟩, hW, hsame.mono (by decide) (by decide)⟩
            exact ⟨rfl, N90⟩
        · skip
          refine Go.pre (fun _ k => XS.ifNo XX88.here hx rfl (hb hby at_590) rfl ((if0 _ _).trans (feq (fun q => hc590_89 ((own_oe (a := ku) (b := 0) (by omega) (by omega)).mp q))).1) k) ?_
          show Go p e below _ (T88.setTop (mkF m 593 #[iv p0, iv p1, iv p2, iv p3, iv p4, iv (p0 &&& (3 : Int32)), iv (Int32.ofNat cu), iv (own_sb cu), iv (p1 &&& (2147483647 : Int32)), rv b, iv (Int32.ofNat ku), .unset] []))
          refine Go.pre (fun _ k => XS.iload XX88.here hx rfl (hb hby at_593) rfl k) ?_
          show Go p e below _ (T88.setTop (mkF m 595 #[iv p0, iv p1, iv p2, iv p3, iv p4, iv (p0 &&& (3 : Int32)), iv (Int32.ofNat cu), iv (own_sb cu), iv (p1 &&& (2147483647 : Int32)), rv b, iv (Int32.ofNat ku), .unset] [(.int (Int32.ofNat ku))]))
          refine Go.pre (fun _ k => XS.iconst XX88.here hx rfl (hb hby at_595) k) ?_
          show Go p e below _ (T88.setTop (mkF m 596 #[iv p0, iv p1, iv p2, iv p3, iv p4, iv (p0 &&& (3 : Int32)), iv (Int32.ofNat cu), iv (own_sb cu), iv (p1 &&& (2147483647 : Int32)), rv b, iv (Int32.ofNat ku), .unset] [(.int (1 : Int32)), (.int (Int32.ofNat ku))]))
          by_cases hc596_91 : ku = 1
          · skip
            refine Go.pre (fun _ k => XS.icmpYes XX88.here hx rfl (pc0 := 596) (pc' := 609) rfl (hb hby at_596) rfl (teq ((own_oe (a := ku) (b := 1) (by omega) (by omega)).mpr hc596_91)).1 (by decide) (by decide) k) ?_
            show Go p e below _ (T88.setTop (mkF m 609 #[iv p0, iv p1, iv p2, iv p3, iv p4, iv (p0 &&& (3 : Int32)), iv (Int32.ofNat cu), iv (own_sb cu), iv (p1 &&& (2147483647 : Int32)), rv b, iv (Int32.ofNat ku), .unset] []))
            refine Go.pre (fun _ k => XS.iconst XX88.here hx rfl (hb hby at_609) k) ?_
            show Go p e below _ (T88.setTop (mkF m 610 #[iv p0, iv p1, iv p2, iv p3, iv p4, iv (p0 &&& (3 : Int32)), iv (Int32.ofNat cu), iv (own_sb cu), iv (p1 &&& (2147483647 : Int32)), rv b, iv (Int32.ofNat ku), .unset] [(.int (0 : Int32))]))
            refine Go.pre (fun _ k => XS.istore XX88.here hx rfl (hb hby at_610) rfl (l' := #[iv p0, iv p1, iv p2, iv p3, iv p4, iv (p0 &&& (3 : Int32)), iv (Int32.ofNat cu), iv (own_sb cu), iv (p1 &&& (2147483647 : Int32)), rv b, iv (Int32.ofNat ku), iv (0 : Int32)]) rfl k) ?_
            show Go p e below _ (T88.setTop (mkF m 612 #[iv p0, iv p1, iv p2, iv p3, iv p4, iv (p0 &&& (3 : Int32)), iv (Int32.ofNat cu), iv (own_sb cu), iv (p1 &&& (2147483647 : Int32)), rv b, iv (Int32.ofNat ku), iv (0 : Int32)] []))
            refine Go.pre (fun _ k => XS.aload XX88.here hx rfl (hb hby at_612) rfl rfl k) ?_
            show Go p e below _ (T88.setTop (mkF m 614 #[iv p0, iv p1, iv p2, iv p3, iv p4, iv (p0 &&& (3 : Int32)), iv (Int32.ofNat cu), iv (own_sb cu), iv (p1 &&& (2147483647 : Int32)), rv b, iv (Int32.ofNat ku), iv (0 : Int32)] [(.ref b)]))
            refine Go.pre (fun _ k => XS.iconst XX88.here hx rfl (hb hby at_614) k) ?_
            show Go p e below _ (T88.setTop (mkF m 615 #[iv p0, iv p1, iv p2, iv p3, iv p4, iv (p0 &&& (3 : Int32)), iv (Int32.ofNat cu), iv (own_sb cu), iv (p1 &&& (2147483647 : Int32)), rv b, iv (Int32.ofNat ku), iv (0 : Int32)] [(.int (1 : Int32)), (.ref b)]))
            refine Go.pre (fun _ k => XS.iconst XX88.here hx rfl (hb hby at_615) k) ?_
            show Go p e below _ (T88.setTop (mkF m 616 #[iv p0, iv p1, iv p2, iv p3, iv p4, iv (p0 &&& (3 : Int32)), iv (Int32.ofNat cu), iv (own_sb cu), iv (p1 &&& (2147483647 : Int32)), rv b, iv (Int32.ofNat ku), iv (0 : Int32)] [(.int (1 : Int32)), (.int (1 : Int32)), (.ref b)]))
            refine Go.pre (fun _ k => XS.iload XX88.here hx rfl (hb hby at_616) rfl k) ?_
            show Go p e below _ (T88.setTop (mkF m 618 #[iv p0, iv p1, iv p2, iv p3, iv p4, iv (p0 &&& (3 : Int32)), iv (Int32.ofNat cu), iv (own_sb cu), iv (p1 &&& (2147483647 : Int32)), rv b, iv (Int32.ofNat ku), iv (0 : Int32)] [(.int (Int32.ofNat ku)), (.int (1 : Int32)), (.int (1 : Int32)), (.ref b)]))
            refine Go.pre (fun _ k => XS.iadd XX88.here hx rfl (hb hby at_618) rfl k) ?_
            show Go p e below _ (T88.setTop (mkF m 619 #[iv p0, iv p1, iv p2, iv p3, iv p4, iv (p0 &&& (3 : Int32)), iv (Int32.ofNat cu), iv (own_sb cu), iv (p1 &&& (2147483647 : Int32)), rv b, iv (Int32.ofNat ku), iv (0 : Int32)] [(.int ((Int32.ofNat 1) + (Int32.ofNat ku))), (.int (1 : Int32)), (.ref b)]))
            rw [own_oadd]
            show Go p e below _ (T88.setTop (mkF m 619 #[iv p0, iv p1, iv p2, iv p3, iv p4, iv (p0 &&& (3 : Int32)), iv (Int32.ofNat cu), iv (own_sb cu), iv (p1 &&& (2147483647 : Int32)), rv b, iv (Int32.ofNat ku), iv (0 : Int32)] [(.int (Int32.ofNat (1 + ku))), (.int (1 : Int32)), (.ref b)]))
            obtain ⟨_, _, ⟨T92, L92, k92, n92⟩, -, X92, ⟨Lc92, hQ92, l92, y92, z92⟩, st92⟩ := Jvm.LawKit.callS XX88 hx (y := (⟨"com/example/entayl/entayl/input/IriTable", "isPlainIri", "([BII)Z"⟩ : MethodName)) hown (mvT hZ (hw _ (List.mem_of_getElem? (i := 2) rfl))) (mvT hZ (hw _ (List.mem_of_getElem? (i := 3) rfl))) (mvT hZ (hw _ (List.mem_of_getElem? (i := 4) rfl))) (mvT hZ (hw _ (List.mem_of_getElem? (i := 5) rfl))) (by decide) (backOf (W := 0) (rm_plain l Z a0 hw [] b (own_b own_tA) (1 + ku) ck h88 n0 (Nat.le_trans Z0 K88.1) B (own_b8' own_tA (by decide)) (by omega) (own_staK SK K88) (own_kdK KD K88) (by omega)) hZ (hw _ (List.mem_of_getElem? (i := 5) rfl)) (hw _ (List.mem_of_getElem? (i := 4) rfl)) (by decide) (by decide)) (g := (mkF m 619 #[iv p0, iv p1, iv p2, iv p3, iv p4, iv (p0 &&& (3 : Int32)), iv (Int32.ofNat cu), iv (own_sb cu), iv (p1 &&& (2147483647 : Int32)), rv b, iv (Int32.ofNat ku), iv (0 : Int32)] [(.int (Int32.ofNat (1 + ku))), (.int (1 : Int32)), (.ref b)])) rfl (by rw [hml]; rfl) (argsL := [(.ref b), (.int (1 : Int32)), (.int (Int32.ofNat (1 + ku)))]) (rest := []) (lenOf pd_3 rfl) rfl (by show 2 * 0 + _ ≤ _; exact Nat.le_of_eq rfl) (hb hby at_619) (fun _ _ => ⟨rfl, e88, (by decide : 1 + 0 ≤ _), (by decide : 15 + 0 ≤ _)⟩)
            dsimp only [Pt.U, Pt.locs, Pt.cells, Pt.slots] at X92 l92 y92 z92 st92 hQ92
            subst l92 y92 z92
            refine Go.pre st92 ?_
            rcases hQ92 with ⟨hp92, rfl, N92q, eh92⟩ | ⟨hp92, rfl, N92q, eh92⟩
            · skip
              have N92 := Fr.app NN88 N92q
              show Go p e below _ (T92.setTop (mkF m 622 #[iv p0, iv p1, iv p2, iv p3, iv p4, iv (p0 &&& (3 : Int32)), iv (Int32.ofNat cu), iv (own_sb cu), iv (p1 &&& (2147483647 : Int32)), rv b, iv (Int32.ofNat ku), iv (0 : Int32)] [(.int (1 : Int32))]))
              refine Go.pre (fun _ k => XS.iload X92.here hx rfl (hb hby at_622) rfl k) ?_
              show Go p e below _ (T92.setTop (mkF m 624 #[iv p0, iv p1, iv p2, iv p3, iv p4, iv (p0 &&& (3 : Int32)), iv (Int32.ofNat cu), iv (own_sb cu), iv (p1 &&& (2147483647 : Int32)), rv b, iv (Int32.ofNat ku), iv (0 : Int32)] [(.int (0 : Int32)), (.int (1 : Int32))]))
              refine Go.pre (fun _ k => XS.icmpYes X92.here hx rfl (pc0 := 624) (pc' := 631) rfl (hb hby at_624) rfl (feq (by decide : ¬ ((1 : Int32) = (0 : Int32)))).2 (by decide) (by decide) k) ?_
              show Go p e below _ (T92.setTop (mkF m 631 #[iv p0, iv p1, iv p2, iv p3, iv p4, iv (p0 &&& (3 : Int32)), iv (Int32.ofNat cu), iv (own_sb cu), iv (p1 &&& (2147483647 : Int32)), rv b, iv (Int32.ofNat ku), iv (0 : Int32)] []))
              refine Go.pre (fun _ k => XS.iconst X92.here hx rfl (hb hby at_631) k) ?_
              show Go p e below _ (T92.setTop (mkF m 632 #[iv p0, iv p1, iv p2, iv p3, iv p4, iv (p0 &&& (3 : Int32)), iv (Int32.ofNat cu), iv (own_sb cu), iv (p1 &&& (2147483647 : Int32)), rv b, iv (Int32.ofNat ku), iv (0 : Int32)] [(.int (0 : Int32))]))
              have q := own_useD hku
              rw [hp92] at q
              simp [hc25_1, hc162_22, hc311_45, hc590_89, hc596_91] at q
            · skip
              have N92 := Fr.app NN88 N92q
              show Go p e below _ (T92.setTop (mkF m 622 #[iv p0, iv p1, iv p2, iv p3, iv p4, iv (p0 &&& (3 : Int32)), iv (Int32.ofNat cu), iv (own_sb cu), iv (p1 &&& (2147483647 : Int32)), rv b, iv (Int32.ofNat ku), iv (0 : Int32)] [(.int (0 : Int32))]))
              refine Go.pre (fun _ k => XS.iload X92.here hx rfl (hb hby at_622) rfl k) ?_
              show Go p e below _ (T92.setTop (mkF m 624 #[iv p0, iv p1, iv p2, iv p3, iv p4, iv (p0 &&& (3 : Int32)), iv (Int32.ofNat cu), iv (own_sb cu), iv (p1 &&& (2147483647 : Int32)), rv b, iv (Int32.ofNat ku), iv (0 : Int32)] [(.int (0 : Int32)), (.int (0 : Int32))]))
              refine Go.pre (fun _ k => XS.icmpNo X92.here hx rfl (hb hby at_624) rfl (teq (by decide : (0 : Int32) = (0 : Int32))).2 k) ?_
              show Go p e below _ (T92.setTop (mkF m 627 #[iv p0, iv p1, iv p2, iv p3, iv p4, iv (p0 &&& (3 : Int32)), iv (Int32.ofNat cu), iv (own_sb cu), iv (p1 &&& (2147483647 : Int32)), rv b, iv (Int32.ofNat ku), iv (0 : Int32)] []))
              refine Go.pre (fun _ k => XS.iconst X92.here hx rfl (hb hby at_627) k) ?_
              show Go p e below _ (T92.setTop (mkF m 628 #[iv p0, iv p1, iv p2, iv p3, iv p4, iv (p0 &&& (3 : Int32)), iv (Int32.ofNat cu), iv (own_sb cu), iv (p1 &&& (2147483647 : Int32)), rv b, iv (Int32.ofNat ku), iv (0 : Int32)] [(.int (1 : Int32))]))
              refine Go.pre (fun _ k => XS.goto X92.here hx rfl (pc0 := 628) (pc' := 632) rfl (hb hby at_628) (by decide) (by decide) k) ?_
              show Go p e below _ (T92.setTop (mkF m 632 #[iv p0, iv p1, iv p2, iv p3, iv p4, iv (p0 &&& (3 : Int32)), iv (Int32.ofNat cu), iv (own_sb cu), iv (p1 &&& (2147483647 : Int32)), rv b, iv (Int32.ofNat ku), iv (0 : Int32)] [(.int (1 : Int32))]))
              obtain ⟨fs, hr, hrun, hended, hW, hsame⟩ := X92.leave (v := some (.int (1 : Int32))) (fun h => by rw [Bd.returns] at h; cases h)
              refine Go.fin (retN X92 hx (t := .boolean) Bd.returns (by simp) (hb hby at_632) hr) ⟨hrun, hended, _, _, rfl, ?_, ⟨_, rfl⟩, hW, hsame.mono (by decide) (by decide)⟩
              exact ⟨rfl, N92⟩
          · skip
            refine Go.pre (fun _ k => XS.icmpNo XX88.here hx rfl (hb hby at_596) rfl (feq (fun q => hc596_91 ((own_oe (a := ku) (b := 1) (by omega) (by omega)).mp q))).1 k) ?_
            show Go p e below _ (T88.setTop (mkF m 599 #[iv p0, iv p1, iv p2, iv p3, iv p4, iv (p0 &&& (3 : Int32)), iv (Int32.ofNat cu), iv (own_sb cu), iv (p1 &&& (2147483647 : Int32)), rv b, iv (Int32.ofNat ku), .unset] []))
            refine Go.pre (fun _ k => XS.iload XX88.here hx rfl (hb hby at_599) rfl k) ?_
            show Go p e below _ (T88.setTop (mkF m 601 #[iv p0, iv p1, iv p2, iv p3, iv p4, iv (p0 &&& (3 : Int32)), iv (Int32.ofNat cu), iv (own_sb cu), iv (p1 &&& (2147483647 : Int32)), rv b, iv (Int32.ofNat ku), .unset] [(.int (Int32.ofNat ku))]))
            refine Go.pre (fun _ k => XS.iconst XX88.here hx rfl (hb hby at_601) k) ?_
            show Go p e below _ (T88.setTop (mkF m 602 #[iv p0, iv p1, iv p2, iv p3, iv p4, iv (p0 &&& (3 : Int32)), iv (Int32.ofNat cu), iv (own_sb cu), iv (p1 &&& (2147483647 : Int32)), rv b, iv (Int32.ofNat ku), .unset] [(.int (4 : Int32)), (.int (Int32.ofNat ku))]))
            by_cases hc602_93 : ku = 4
            · skip
              refine Go.pre (fun _ k => XS.icmpYes XX88.here hx rfl (pc0 := 602) (pc' := 609) rfl (hb hby at_602) rfl (teq ((own_oe (a := ku) (b := 4) (by omega) (by omega)).mpr hc602_93)).1 (by decide) (by decide) k) ?_
              show Go p e below _ (T88.setTop (mkF m 609 #[iv p0, iv p1, iv p2, iv p3, iv p4, iv (p0 &&& (3 : Int32)), iv (Int32.ofNat cu), iv (own_sb cu), iv (p1 &&& (2147483647 : Int32)), rv b, iv (Int32.ofNat ku), .unset] []))
              refine Go.pre (fun _ k => XS.iconst XX88.here hx rfl (hb hby at_609) k) ?_
              show Go p e below _ (T88.setTop (mkF m 610 #[iv p0, iv p1, iv p2, iv p3, iv p4, iv (p0 &&& (3 : Int32)), iv (Int32.ofNat cu), iv (own_sb cu), iv (p1 &&& (2147483647 : Int32)), rv b, iv (Int32.ofNat ku), .unset] [(.int (0 : Int32))]))
              refine Go.pre (fun _ k => XS.istore XX88.here hx rfl (hb hby at_610) rfl (l' := #[iv p0, iv p1, iv p2, iv p3, iv p4, iv (p0 &&& (3 : Int32)), iv (Int32.ofNat cu), iv (own_sb cu), iv (p1 &&& (2147483647 : Int32)), rv b, iv (Int32.ofNat ku), iv (0 : Int32)]) rfl k) ?_
              show Go p e below _ (T88.setTop (mkF m 612 #[iv p0, iv p1, iv p2, iv p3, iv p4, iv (p0 &&& (3 : Int32)), iv (Int32.ofNat cu), iv (own_sb cu), iv (p1 &&& (2147483647 : Int32)), rv b, iv (Int32.ofNat ku), iv (0 : Int32)] []))
              refine Go.pre (fun _ k => XS.aload XX88.here hx rfl (hb hby at_612) rfl rfl k) ?_
              show Go p e below _ (T88.setTop (mkF m 614 #[iv p0, iv p1, iv p2, iv p3, iv p4, iv (p0 &&& (3 : Int32)), iv (Int32.ofNat cu), iv (own_sb cu), iv (p1 &&& (2147483647 : Int32)), rv b, iv (Int32.ofNat ku), iv (0 : Int32)] [(.ref b)]))
              refine Go.pre (fun _ k => XS.iconst XX88.here hx rfl (hb hby at_614) k) ?_
              show Go p e below _ (T88.setTop (mkF m 615 #[iv p0, iv p1, iv p2, iv p3, iv p4, iv (p0 &&& (3 : Int32)), iv (Int32.ofNat cu), iv (own_sb cu), iv (p1 &&& (2147483647 : Int32)), rv b, iv (Int32.ofNat ku), iv (0 : Int32)] [(.int (1 : Int32)), (.ref b)]))
              refine Go.pre (fun _ k => XS.iconst XX88.here hx rfl (hb hby at_615) k) ?_
              show Go p e below _ (T88.setTop (mkF m 616 #[iv p0, iv p1, iv p2, iv p3, iv p4, iv (p0 &&& (3 : Int32)), iv (Int32.ofNat cu), iv (own_sb cu), iv (p1 &&& (2147483647 : Int32)), rv b, iv (Int32.ofNat ku), iv (0 : Int32)] [(.int (1 : Int32)), (.int (1 : Int32)), (.ref b)]))
              refine Go.pre (fun _ k => XS.iload XX88.here hx rfl (hb hby at_616) rfl k) ?_
              show Go p e below _ (T88.setTop (mkF m 618 #[iv p0, iv p1, iv p2, iv p3, iv p4, iv (p0 &&& (3 : Int32)), iv (Int32.ofNat cu), iv (own_sb cu), iv (p1 &&& (2147483647 : Int32)), rv b, iv (Int32.ofNat ku), iv (0 : Int32)] [(.int (Int32.ofNat ku)), (.int (1 : Int32)), (.int (1 : Int32)), (.ref b)]))
              refine Go.pre (fun _ k => XS.iadd XX88.here hx rfl (hb hby at_618) rfl k) ?_
              show Go p e below _ (T88.setTop (mkF m 619 #[iv p0, iv p1, iv p2, iv p3, iv p4, iv (p0 &&& (3 : Int32)), iv (Int32.ofNat cu), iv (own_sb cu), iv (p1 &&& (2147483647 : Int32)), rv b, iv (Int32.ofNat ku), iv (0 : Int32)] [(.int ((Int32.ofNat 1) + (Int32.ofNat ku))), (.int (1 : Int32)), (.ref b)]))
              rw [own_oadd]
              show Go p e below _ (T88.setTop (mkF m 619 #[iv p0, iv p1, iv p2, iv p3, iv p4, iv (p0 &&& (3 : Int32)), iv (Int32.ofNat cu), iv (own_sb cu), iv (p1 &&& (2147483647 : Int32)), rv b, iv (Int32.ofNat ku), iv (0 : Int32)] [(.int (Int32.ofNat (1 + ku))), (.int (1 : Int32)), (.ref b)]))
              obtain ⟨_, _, ⟨T94, L94, k94, n94⟩, -, X94, ⟨Lc94, hQ94, l94, y94, z94⟩, st94⟩ := Jvm.LawKit.callS XX88 hx (y := (⟨"com/example/entayl/entayl/input/IriTable", "isPlainIri", "([BII)Z"⟩ : MethodName)) hown (mvT hZ (hw _ (List.mem_of_getElem? (i := 2) rfl))) (mvT hZ (hw _ (List.mem_of_getElem? (i := 3) rfl))) (mvT hZ (hw _ (List.mem_of_getElem? (i := 4) rfl))) (mvT hZ (hw _ (List.mem_of_getElem? (i := 5) rfl))) (by decide) (backOf (W := 0) (rm_plain l Z a0 hw [] b (own_b own_tA) (1 + ku) ck h88 n0 (Nat.le_trans Z0 K88.1) B (own_b8' own_tA (by decide)) (by omega) (own_staK SK K88) (own_kdK KD K88) (by omega)) hZ (hw _ (List.mem_of_getElem? (i := 5) rfl)) (hw _ (List.mem_of_getElem? (i := 4) rfl)) (by decide) (by decide)) (g := (mkF m 619 #[iv p0, iv p1, iv p2, iv p3, iv p4, iv (p0 &&& (3 : Int32)), iv (Int32.ofNat cu), iv (own_sb cu), iv (p1 &&& (2147483647 : Int32)), rv b, iv (Int32.ofNat ku), iv (0 : Int32)] [(.int (Int32.ofNat (1 + ku))), (.int (1 : Int32)), (.ref b)])) rfl (by rw [hml]; rfl) (argsL := [(.ref b), (.int (1 : Int32)), (.int (Int32.ofNat (1 + ku)))]) (rest := []) (lenOf pd_3 rfl) rfl (by show 2 * 0 + _ ≤ _; exact Nat.le_of_eq rfl) (hb hby at_619) (fun _ _ => ⟨rfl, e88, (by decide : 1 + 0 ≤ _), (by decide : 15 + 0 ≤ _)⟩)
              dsimp only [Pt.U, Pt.locs, Pt.cells, Pt.slots] at X94 l94 y94 z94 st94 hQ94
              subst l94 y94 z94
              refine Go.pre st94 ?_
              rcases hQ94 with ⟨hp94, rfl, N94q, eh94⟩ | ⟨hp94, rfl, N94q, eh94⟩
              · skip
                have N94 := Fr.app NN88 N94q
                show Go p e below _ (T94.setTop (mkF m 622 #[iv p0, iv p1, iv p2, iv p3, iv p4, iv (p0 &&& (3 : Int32)), iv (Int32.ofNat cu), iv (own_sb cu), iv (p1 &&& (2147483647 : Int32)), rv b, iv (Int32.ofNat ku), iv (0 : Int32)] [(.int (1 : Int32))]))
                refine Go.pre (fun _ k => XS.iload X94.here hx rfl (hb hby at_622) rfl k) ?_
                show Go p e below _ (T94.setTop (mkF m 624 #[iv p0, iv p1, iv p2, iv p3, iv p4, iv (p0 &&& (3 : Int32)), iv (Int32.ofNat cu), iv (own_sb cu), iv (p1 &&& (2147483647 : Int32)), rv b, iv (Int32.ofNat ku), iv (0 : Int32)] [(.int (0 : Int32)), (.int (1 : Int32))]))
                refine Go.pre (fun _ k => XS.icmpYes X94.here hx rfl (pc0 := 624) (pc' := 631) rfl (hb hby at_624) rfl (feq (by decide : ¬ ((1 : Int32) = (0 : Int32)))).2 (by decide) (by decide) k) ?_
                show Go p e below _ (T94.setTop (mkF m 631 #[iv p0, iv p1, iv p2, iv p3, iv p4, iv (p0 &&& (3 : Int32)), iv (Int32.ofNat cu), iv (own_sb cu), iv (p1 &&& (2147483647 : Int32)), rv b, iv (Int32.ofNat ku), iv (0 : Int32)] []))
                refine Go.pre (fun _ k => XS.iconst X94.here hx rfl (hb hby at_631) k) ?_
                show Go p e below _ (T94.setTop (mkF m 632 #[iv p0, iv p1, iv p2, iv p3, iv p4, iv (p0 &&& (3 : Int32)), iv (Int32.ofNat cu), iv (own_sb cu), iv (p1 &&& (2147483647 : Int32)), rv b, iv (Int32.ofNat ku), iv (0 : Int32)] [(.int (0 : Int32))]))
                have q := own_useD hku
                rw [hp94] at q
                simp [hc25_1, hc162_22, hc311_45, hc590_89, hc596_91, hc602_93] at q
              · skip
                have N94 := Fr.app NN88 N94q
                show Go p e below _ (T94.setTop (mkF m 622 #[iv p0, iv p1, iv p2, iv p3, iv p4, iv (p0 &&& (3 : Int32)), iv (Int32.ofNat cu), iv (own_sb cu), iv (p1 &&& (2147483647 : Int32)), rv b, iv (Int32.ofNat ku), iv (0 : Int32)] [(.int (0 : Int32))]))
                refine Go.pre (fun _ k => XS.iload X94.here hx rfl (hb hby at_622) rfl k) ?_
                show Go p e below _ (T94.setTop (mkF m 624 #[iv p0, iv p1, iv p2, iv p3, iv p4, iv (p0 &&& (3 : Int32)), iv (Int32.ofNat cu), iv (own_sb cu), iv (p1 &&& (2147483647 : Int32)), rv b, iv (Int32.ofNat ku), iv (0 : Int32)] [(.int (0 : Int32)), (.int (0 : Int32))]))
                refine Go.pre (fun _ k => XS.icmpNo X94.here hx rfl (hb hby at_624) rfl (teq (by decide : (0 : Int32) = (0 : Int32))).2 k) ?_
                show Go p e below _ (T94.setTop (mkF m 627 #[iv p0, iv p1, iv p2, iv p3, iv p4, iv (p0 &&& (3 : Int32)), iv (Int32.ofNat cu), iv (own_sb cu), iv (p1 &&& (2147483647 : Int32)), rv b, iv (Int32.ofNat ku), iv (0 : Int32)] []))
                refine Go.pre (fun _ k => XS.iconst X94.here hx rfl (hb hby at_627) k) ?_
                show Go p e below _ (T94.setTop (mkF m 628 #[iv p0, iv p1, iv p2, iv p3, iv p4, iv (p0 &&& (3 : Int32)), iv (Int32.ofNat cu), iv (own_sb cu), iv (p1 &&& (2147483647 : Int32)), rv b, iv (Int32.ofNat ku), iv (0 : Int32)] [(.int (1 : Int32))]))
                refine Go.pre (fun _ k => XS.goto X94.here hx rfl (pc0 := 628) (pc' := 632) rfl (hb hby at_628) (by decide) (by decide) k) ?_
                show Go p e below _ (T94.setTop (mkF m 632 #[iv p0, iv p1, iv p2, iv p3, iv p4, iv (p0 &&& (3 : Int32)), iv (Int32.ofNat cu), iv (own_sb cu), iv (p1 &&& (2147483647 : Int32)), rv b, iv (Int32.ofNat ku), iv (0 : Int32)] [(.int (1 : Int32))]))
                obtain ⟨fs, hr, hrun, hended, hW, hsame⟩ := X94.leave (v := some (.int (1 : Int32))) (fun h => by rw [Bd.returns] at h; cases h)
                refine Go.fin (retN X94 hx (t := .boolean) Bd.returns (by simp) (hb hby at_632) hr) ⟨hrun, hended, _, _, rfl, ?_, ⟨_, rfl⟩, hW, hsame.mono (by decide) (by decide)⟩
                exact ⟨rfl, N94⟩
            · skip
              refine Go.pre (fun _ k => XS.icmpNo XX88.here hx rfl (hb hby at_602) rfl (feq (fun q => hc602_93 ((own_oe (a := ku) (b := 4) (by omega) (by omega)).mp q))).1 k) ?_
              show Go p e below _ (T88.setTop (mkF m 605 #[iv p0, iv p1, iv p2, iv p3, iv p4, iv (p0 &&& (3 : Int32)), iv (Int32.ofNat cu), iv (own_sb cu), iv (p1 &&& (2147483647 : Int32)), rv b, iv (Int32.ofNat ku), .unset] []))
              refine Go.pre (fun _ k => XS.iconst XX88.here hx rfl (hb hby at_605) k) ?_
              show Go p e below _ (T88.setTop (mkF m 606 #[iv p0, iv p1, iv p2, iv p3, iv p4, iv (p0 &&& (3 : Int32)), iv (Int32.ofNat cu), iv (own_sb cu), iv (p1 &&& (2147483647 : Int32)), rv b, iv (Int32.ofNat ku), .unset] [(.int (1 : Int32))]))
              refine Go.pre (fun _ k => XS.goto XX88.here hx rfl (pc0 := 606) (pc' := 610) rfl (hb hby at_606) (by decide) (by decide) k) ?_
              show Go p e below _ (T88.setTop (mkF m 610 #[iv p0, iv p1, iv p2, iv p3, iv p4, iv (p0 &&& (3 : Int32)), iv (Int32.ofNat cu), iv (own_sb cu), iv (p1 &&& (2147483647 : Int32)), rv b, iv (Int32.ofNat ku), .unset] [(.int (1 : Int32))]))
              refine Go.pre (fun _ k => XS.istore XX88.here hx rfl (hb hby at_610) rfl (l' := #[iv p0, iv p1, iv p2, iv p3, iv p4, iv (p0 &&& (3 : Int32)), iv (Int32.ofNat cu), iv (own_sb cu), iv (p1 &&& (2147483647 : Int32)), rv b, iv (Int32.ofNat ku), iv (1 : Int32)]) rfl k) ?_
              show Go p e below _ (T88.setTop (mkF m 612 #[iv p0, iv p1, iv p2, iv p3, iv p4, iv (p0 &&& (3 : Int32)), iv (Int32.ofNat cu), iv (own_sb cu), iv (p1 &&& (2147483647 : Int32)), rv b, iv (Int32.ofNat ku), iv (1 : Int32)] []))
              refine Go.pre (fun _ k => XS.aload XX88.here hx rfl (hb hby at_612) rfl rfl k) ?_
              show Go p e below _ (T88.setTop (mkF m 614 #[iv p0, iv p1, iv p2, iv p3, iv p4, iv (p0 &&& (3 : Int32)), iv (Int32.ofNat cu), iv (own_sb cu), iv (p1 &&& (2147483647 : Int32)), rv b, iv (Int32.ofNat ku), iv (1 : Int32)] [(.ref b)]))
              refine Go.pre (fun _ k => XS.iconst XX88.here hx rfl (hb hby at_614) k) ?_
              show Go p e below _ (T88.setTop (mkF m 615 #[iv p0, iv p1, iv p2, iv p3, iv p4, iv (p0 &&& (3 : Int32)), iv (Int32.ofNat cu), iv (own_sb cu), iv (p1 &&& (2147483647 : Int32)), rv b, iv (Int32.ofNat ku), iv (1 : Int32)] [(.int (1 : Int32)), (.ref b)]))
              refine Go.pre (fun _ k => XS.iconst XX88.here hx rfl (hb hby at_615) k) ?_
              show Go p e below _ (T88.setTop (mkF m 616 #[iv p0, iv p1, iv p2, iv p3, iv p4, iv (p0 &&& (3 : Int32)), iv (Int32.ofNat cu), iv (own_sb cu), iv (p1 &&& (2147483647 : Int32)), rv b, iv (Int32.ofNat ku), iv (1 : Int32)] [(.int (1 : Int32)), (.int (1 : Int32)), (.ref b)]))
              refine Go.pre (fun _ k => XS.iload XX88.here hx rfl (hb hby at_616) rfl k) ?_
              show Go p e below _ (T88.setTop (mkF m 618 #[iv p0, iv p1, iv p2, iv p3, iv p4, iv (p0 &&& (3 : Int32)), iv (Int32.ofNat cu), iv (own_sb cu), iv (p1 &&& (2147483647 : Int32)), rv b, iv (Int32.ofNat ku), iv (1 : Int32)] [(.int (Int32.ofNat ku)), (.int (1 : Int32)), (.int (1 : Int32)), (.ref b)]))
              refine Go.pre (fun _ k => XS.iadd XX88.here hx rfl (hb hby at_618) rfl k) ?_
              show Go p e below _ (T88.setTop (mkF m 619 #[iv p0, iv p1, iv p2, iv p3, iv p4, iv (p0 &&& (3 : Int32)), iv (Int32.ofNat cu), iv (own_sb cu), iv (p1 &&& (2147483647 : Int32)), rv b, iv (Int32.ofNat ku), iv (1 : Int32)] [(.int ((Int32.ofNat 1) + (Int32.ofNat ku))), (.int (1 : Int32)), (.ref b)]))
              rw [own_oadd]
              show Go p e below _ (T88.setTop (mkF m 619 #[iv p0, iv p1, iv p2, iv p3, iv p4, iv (p0 &&& (3 : Int32)), iv (Int32.ofNat cu), iv (own_sb cu), iv (p1 &&& (2147483647 : Int32)), rv b, iv (Int32.ofNat ku), iv (1 : Int32)] [(.int (Int32.ofNat (1 + ku))), (.int (1 : Int32)), (.ref b)]))
              obtain ⟨_, _, ⟨T95, L95, k95, n95⟩, -, X95, ⟨Lc95, hQ95, l95, y95, z95⟩, st95⟩ := Jvm.LawKit.callS XX88 hx (y := (⟨"com/example/entayl/entayl/input/IriTable", "isPlainIri", "([BII)Z"⟩ : MethodName)) hown (mvT hZ (hw _ (List.mem_of_getElem? (i := 2) rfl))) (mvT hZ (hw _ (List.mem_of_getElem? (i := 3) rfl))) (mvT hZ (hw _ (List.mem_of_getElem? (i := 4) rfl))) (mvT hZ (hw _ (List.mem_of_getElem? (i := 5) rfl))) (by decide) (backOf (W := 0) (rm_plain l Z a0 hw [] b (own_b own_tA) (1 + ku) ck h88 n0 (Nat.le_trans Z0 K88.1) B (own_b8' own_tA (by decide)) (by omega) (own_staK SK K88) (own_kdK KD K88) (by omega)) hZ (hw _ (List.mem_of_getElem? (i := 5) rfl)) (hw _ (List.mem_of_getElem? (i := 4) rfl)) (by decide) (by decide)) (g := (mkF m 619 #[iv p0, iv p1, iv p2, iv p3, iv p4, iv (p0 &&& (3 : Int32)), iv (Int32.ofNat cu), iv (own_sb cu), iv (p1 &&& (2147483647 : Int32)), rv b, iv (Int32.ofNat ku), iv (1 : Int32)] [(.int (Int32.ofNat (1 + ku))), (.int (1 : Int32)), (.ref b)])) rfl (by rw [hml]; rfl) (argsL := [(.ref b), (.int (1 : Int32)), (.int (Int32.ofNat (1 + ku)))]) (rest := []) (lenOf pd_3 rfl) rfl (by show 2 * 0 + _ ≤ _; exact Nat.le_of_eq rfl) (hb hby at_619) (fun _ _ => ⟨rfl, e88, (by decide : 1 + 0 ≤ _), (by decide : 15 + 0 ≤ _)⟩)
              dsimp only [Pt.U, Pt.locs, Pt.cells, Pt.slots] at X95 l95 y95 z95 st95 hQ95
              subst l95 y95 z95
              refine Go.pre st95 ?_
              rcases hQ95 with ⟨hp95, rfl, N95q, eh95⟩ | ⟨hp95, rfl, N95q, eh95⟩
              · skip
                have N95 := Fr.app NN88 N95q
                show Go p e below _ (T95.setTop (mkF m 622 #[iv p0, iv p1, iv p2, iv p3, iv p4, iv (p0 &&& (3 : Int32)), iv (Int32.ofNat cu), iv (own_sb cu), iv (p1 &&& (2147483647 : Int32)), rv b, iv (Int32.ofNat ku), iv (1 : Int32)] [(.int (1 : Int32))]))
                refine Go.pre (fun _ k => XS.iload X95.here hx rfl (hb hby at_622) rfl k) ?_
                show Go p e below _ (T95.setTop (mkF m 624 #[iv p0, iv p1, iv p2, iv p3, iv p4, iv (p0 &&& (3 : Int32)), iv (Int32.ofNat cu), iv (own_sb cu), iv (p1 &&& (2147483647 : Int32)), rv b, iv (Int32.ofNat ku), iv (1 : Int32)] [(.int (1 : Int32)), (.int (1 : Int32))]))
                refine Go.pre (fun _ k => XS.icmpNo X95.here hx rfl (hb hby at_624) rfl (teq (by decide : (1 : Int32) = (1 : Int32))).2 k) ?_
                show Go p e below _ (T95.setTop (mkF m 627 #[iv p0, iv p1, iv p2, iv p3, iv p4, iv (p0 &&& (3 : Int32)), iv (Int32.ofNat cu), iv (own_sb cu), iv (p1 &&& (2147483647 : Int32)), rv b, iv (Int32.ofNat ku), iv (1 : Int32)] []))
                refine Go.pre (fun _ k => XS.iconst X95.here hx rfl (hb hby at_627) k) ?_
                show Go p e below _ (T95.setTop (mkF m 628 #[iv p0, iv p1, iv p2, iv p3, iv p4, iv (p0 &&& (3 : Int32)), iv (Int32.ofNat cu), iv (own_sb cu), iv (p1 &&& (2147483647 : Int32)), rv b, iv (Int32.ofNat ku), iv (1 : Int32)] [(.int (1 : Int32))]))
                refine Go.pre (fun _ k => XS.goto X95.here hx rfl (pc0 := 628) (pc' := 632) rfl (hb hby at_628) (by decide) (by decide) k) ?_
                show Go p e below _ (T95.setTop (mkF m 632 #[iv p0, iv p1, iv p2, iv p3, iv p4, iv (p0 &&& (3 : Int32)), iv (Int32.ofNat cu), iv (own_sb cu), iv (p1 &&& (2147483647 : Int32)), rv b, iv (Int32.ofNat ku), iv (1 : Int32)] [(.int (1 : Int32))]))
                obtain ⟨fs, hr, hrun, hended, hW, hsame⟩ := X95.leave (v := some (.int (1 : Int32))) (fun h => by rw [Bd.returns] at h; cases h)
                refine Go.fin (retN X95 hx (t := .boolean) Bd.returns (by simp) (hb hby at_632) hr) ⟨hrun, hended, _, _, rfl, ?_, ⟨_, rfl⟩, hW, hsame.mono (by decide) (by decide)⟩
                exact ⟨rfl, N95⟩
              · skip
                have N95 := Fr.app NN88 N95q
                show Go p e below _ (T95.setTop (mkF m 622 #[iv p0, iv p1, iv p2, iv p3, iv p4, iv (p0 &&& (3 : Int32)), iv (Int32.ofNat cu), iv (own_sb cu), iv (p1 &&& (2147483647 : Int32)), rv b, iv (Int32.ofNat ku), iv (1 : Int32)] [(.int (0 : Int32))]))
                refine Go.pre (fun _ k => XS.iload X95.here hx rfl (hb hby at_622) rfl k) ?_
                show Go p e below _ (T95.setTop (mkF m 624 #[iv p0, iv p1, iv p2, iv p3, iv p4, iv (p0 &&& (3 : Int32)), iv (Int32.ofNat cu), iv (own_sb cu), iv (p1 &&& (2147483647 : Int32)), rv b, iv (Int32.ofNat ku), iv (1 : Int32)] [(.int (1 : Int32)), (.int (0 : Int32))]))
                refine Go.pre (fun _ k => XS.icmpYes X95.here hx rfl (pc0 := 624) (pc' := 631) rfl (hb hby at_624) rfl (feq (by decide : ¬ ((0 : Int32) = (1 : Int32)))).2 (by decide) (by decide) k) ?_
                show Go p e below _ (T95.setTop (mkF m 631 #[iv p0, iv p1, iv p2, iv p3, iv p4, iv (p0 &&& (3 : Int32)), iv (Int32.ofNat cu), iv (own_sb cu), iv (p1 &&& (2147483647 : Int32)), rv b, iv (Int32.ofNat ku), iv (1 : Int32)] []))
                refine Go.pre (fun _ k => XS.iconst X95.here hx rfl (hb hby at_631) k) ?_
                show Go p e below _ (T95.setTop (mkF m 632 #[iv p0, iv p1, iv p2, iv p3, iv p4, iv (p0 &&& (3 : Int32)), iv (Int32.ofNat cu), iv (own_sb cu), iv (p1 &&& (2147483647 : Int32)), rv b, iv (Int32.ofNat ku), iv (1 : Int32)] [(.int (0 : Int32))]))
                have q := own_useD hku
                rw [Bool.eq_false_iff.mpr hp95] at q
                simp [hc25_1, hc162_22, hc311_45, hc590_89, hc596_91, hc602_93] at q

theorem own_len {args : Array Value} {s : State} {t : Term} {a : Addr} {cl : Cell} (ev : t.eval args s none [] s = some (.ref a)) (A : Arr s s.heap a cl .int) (hF : heapFits s = true) (h : (Cond.eq (Term.length t) (Term.int (256 : Int32))).value args s none s [] = some true) : cl.slots.size = 256 := by
  have ek : (Term.int (256 : Int32)).eval args s none [] s = some (.int 256) := Term.int_eval _
  have ha := A.fin (Vm.Alike.refl _)
  by_cases hl : cl.slots.size < 2 ^ 31
  · have e := len_f ev ha hl
    have q := gotT (Cond.eq_ints e ek) h
    have h2 := congrArg Int32.toInt q
    rw [show cl.slots.size.toInt32.toInt = cl.slots.size from len_toInt hl] at h2
    have e6 : (256 : Int32).toInt = 256 := by decide
    rw [e6] at h2
    omega
  · cases he : (Term.length t).eval args s none [] s with
    | none => simp [Cond.value, he] at h
    | some v =>
      exfalso
      have q : (Term.length t).eval args s none [] s = none := by
        rw [Term.eval, ev]
        simp only [Option.bind_eq_bind, Option.bind_some, ha, if_neg hl]
      rw [q] at he; cases he

set_option maxRecDepth 65536 in
set_option maxHeartbeats 40000000 in
theorem comes_1 {Post : Tables → Env → Array Value → State → Outcome → State → Prop} (hpost : ∀ tb e args s v u, (limb_1_1.after args s (.returned v) u = true ∧ limb_1_2.after args s (.returned v) u = true ∧ True) → FrameEnd s (.returned v) u (Jvm.fieldLocs frame_1_writes args s ++ Jvm.arrayLocs frame_1_arrays args s ++ Jvm.staticLocs frame_1_statics s) 16 128 → Post tb e args s (.returned v) u) :
    ArmFor flags0 classFile x code maxLocals ret World_1 tables_1 room_1 Calls_1 rest_1 Pre_1 Post := by
  intro l hfl _ _ p e ha hc hk s m args below hf hA hF happ hP
  obtain ⟨hcalls, hrest, hpre⟩ := hP
  obtain ⟨-, -, -, hnamed, -, -, -, hat⟩ := (Spec.applies_iff hf).mp happ
  obtain ⟨hg, hn⟩ := and_e (Cond.before_iff.mp (show (Jvm.Cond.and given_1 narrow_1).before args s = true from hpre))
  obtain ⟨g0, r0⟩ := and_e hg
  obtain ⟨g1, r1⟩ := and_e r0
  obtain ⟨g2, r2⟩ := and_e r1
  obtain ⟨g3, r3⟩ := and_e r2
  obtain ⟨g4, r4⟩ := and_e r3
  obtain ⟨w0, w1, w2, w3, w4, rfl⟩ : ∃ w0 w1 w2 w3 w4 : Value, args = #[w0, w1, w2, w3, w4] := by
    have hs : args.size = 5 := by simpa [Cond.value, given_1] using g0
    obtain ⟨L⟩ := args
    match L, hs with
    | [w0, w1, w2, w3, w4], _ => exact ⟨w0, w1, w2, w3, w4, rfl⟩
  have hw := fun d (hd : d ∈ tables_1) => atoms_spec (ws := Jvm.Cond.code x code maxLocals ret :: tables_1) hat d (List.mem_cons_of_mem _ hd)
  obtain ⟨i0, ei0⟩ := is_v g1
  obtain rfl : w0 = (.int i0) := Option.some.inj ei0
  obtain ⟨i1, ei1⟩ := is_v g2
  obtain rfl : w1 = (.int i1) := Option.some.inj ei1
  obtain ⟨i2, ei2⟩ := is_v g3
  obtain rfl : w2 = (.int i2) := Option.some.inj ei2
  obtain ⟨i3, ei3⟩ := is_v g4
  obtain rfl : w3 = (.int i3) := Option.some.inj ei3
  obtain ⟨i4, ei4⟩ := is_v r4
  obtain rfl : w4 = (.int i4) := Option.some.inj ei4
  obtain ⟨c1, c2⟩ := and_e hn
  obtain ⟨c3, c4⟩ := and_e c2
  obtain ⟨c5, c6⟩ := and_e c4
  obtain ⟨c7, c8⟩ := and_e c6
  obtain ⟨c9, c10⟩ := and_e c8
  obtain ⟨c11, c12⟩ := and_e c10
  obtain ⟨c13, c14⟩ := and_e c12
  obtain ⟨c15, c16⟩ := and_e c14
  obtain ⟨c17, c18⟩ := and_e c16
  obtain ⟨c19, c20⟩ := and_e c18
  obtain ⟨c21, c22⟩ := and_e c20
  obtain ⟨c23, c24⟩ := and_e c22
  obtain ⟨c25, c26⟩ := and_e c24
  obtain ⟨c27, c28⟩ := and_e c26
  obtain ⟨c29, c30⟩ := and_e c28
  obtain ⟨c31, c32⟩ := and_e c30
  obtain ⟨c33, c34⟩ := and_e c32
  obtain ⟨c35, c36⟩ := and_e c34
  obtain ⟨c37, c38⟩ := and_e c36
  obtain ⟨c39, c40⟩ := and_e c38
  obtain ⟨c41, c42⟩ := and_e c40
  obtain ⟨c43, c44⟩ := and_e c42
  obtain ⟨c45, c46⟩ := and_e c44
  obtain ⟨c47, c48⟩ := and_e c46
  obtain ⟨c49, c50⟩ := and_e c48
  obtain ⟨c51, c52⟩ := and_e c50
  obtain ⟨c53, c54⟩ := and_e c52
  obtain ⟨c55, c56⟩ := and_e c54
  obtain ⟨c57, c58⟩ := and_e c56
  obtain ⟨c59, c60⟩ := and_e c58
  obtain ⟨c61, c62⟩ := and_e c60
  obtain ⟨c63, c64⟩ := and_e c62
  obtain ⟨c65, c66⟩ := and_e c64
  obtain ⟨ck, ev0⟩ := arr_v c1
  have SK := Sta.start ev0 (Or.inr ⟨(hw _ (List.mem_of_getElem? (i := 4) rfl)), (hw _ (List.mem_of_getElem? (i := 13) rfl))⟩)
  obtain ⟨cl, A⟩ := Arr.start ev0 c1
  have ev : ∀ idx, ((Jvm.Term.static "com/example/entayl/entayl/input/IriTable" "KINDS" "[I")).eval #[.int i0, .int i1, .int i2, .int i3, .int i4] s none idx s = some (.ref ck) := fun idx => by have q := ev0; simp only [Term.eval] at q ⊢; exact q
  have hsz : cl.slots.size = 256 := own_len ev0 A hF c3
  have KD : Kds s s.heap ck := by
    refine ⟨cl, A, fun u hu => ⟨?_, ?_⟩⟩
    · rintro (q | q)
      · exact own_nn (by omega) q
      · rw [own_clamp (by omega)] at q; omega
    · rw [own_clamp (by omega)]
      refine own_kds ?_ u hu
      intro g hg
      simp only [own_segs, List.mem_cons, List.not_mem_nil, or_false] at hg
      rcases hg with rfl | rfl | rfl | rfl | rfl | rfl | rfl | rfl | rfl | rfl | rfl | rfl | rfl | rfl | rfl | rfl | rfl | rfl | rfl | rfl | rfl | rfl | rfl | rfl | rfl | rfl | rfl | rfl | rfl | rfl | rfl | rfl
      · exact fun i q1 q2 => own_rgH (hi := 33) (v := 0) hsz ev A (by decide) c5 i q2 (Nat.lt_of_lt_of_le q2 (by decide))
      · exact fun i q1 q2 => own_pt (k := 33) (v := 14) ev A (by decide) c7 i q1 q2
      · exact fun i q1 q2 => own_pt (k := 34) (v := 0) ev A (by decide) c9 i q1 q2
      · exact fun i q1 q2 => own_pt (k := 35) (v := 0) ev A (by decide) c11 i q1 q2
      · exact fun i q1 q2 => own_pt (k := 36) (v := 14) ev A (by decide) c13 i q1 q2
      · exact fun i q1 q2 => own_pt (k := 37) (v := 0) ev A (by decide) c15 i q1 q2
      · exact fun i q1 q2 => own_rg (lo := 38) (hi := 43) (v := 14) hsz ev A (by decide) (by decide) c17 i q1 q2 (Nat.lt_of_lt_of_le q2 (by decide))
      · exact fun i q1 q2 => own_pt (k := 43) (v := 15) ev A (by decide) c19 i q1 q2
      · exact fun i q1 q2 => own_pt (k := 44) (v := 14) ev A (by decide) c21 i q1 q2
      · exact fun i q1 q2 => own_pt (k := 45) (v := 15) ev A (by decide) c23 i q1 q2
      · exact fun i q1 q2 => own_pt (k := 46) (v := 15) ev A (by decide) c25 i q1 q2
      · exact fun i q1 q2 => own_pt (k := 47) (v := 12) ev A (by decide) c27 i q1 q2
      · exact fun i q1 q2 => own_rg (lo := 48) (hi := 58) (v := 31) hsz ev A (by decide) (by decide) c29 i q1 q2 (Nat.lt_of_lt_of_le q2 (by decide))
      · exact fun i q1 q2 => own_pt (k := 58) (v := 12) ev A (by decide) c31 i q1 q2
      · exact fun i q1 q2 => own_pt (k := 59) (v := 14) ev A (by decide) c33 i q1 q2
      · exact fun i q1 q2 => own_pt (k := 60) (v := 0) ev A (by decide) c35 i q1 q2
      · exact fun i q1 q2 => own_pt (k := 61) (v := 14) ev A (by decide) c37 i q1 q2
      · exact fun i q1 q2 => own_pt (k := 62) (v := 0) ev A (by decide) c39 i q1 q2
      · exact fun i q1 q2 => own_pt (k := 63) (v := 8) ev A (by decide) c41 i q1 q2
      · exact fun i q1 q2 => own_pt (k := 64) (v := 12) ev A (by decide) c43 i q1 q2
      · exact fun i q1 q2 => own_rg (lo := 65) (hi := 71) (v := 31) hsz ev A (by decide) (by decide) c45 i q1 q2 (Nat.lt_of_lt_of_le q2 (by decide))
      · exact fun i q1 q2 => own_rg (lo := 71) (hi := 91) (v := 15) hsz ev A (by decide) (by decide) c47 i q1 q2 (Nat.lt_of_lt_of_le q2 (by decide))
      · exact fun i q1 q2 => own_rg (lo := 91) (hi := 95) (v := 0) hsz ev A (by decide) (by decide) c49 i q1 q2 (Nat.lt_of_lt_of_le q2 (by decide))
      · exact fun i q1 q2 => own_pt (k := 95) (v := 14) ev A (by decide) c51 i q1 q2
      · exact fun i q1 q2 => own_pt (k := 96) (v := 0) ev A (by decide) c53 i q1 q2
      · exact fun i q1 q2 => own_rg (lo := 97) (hi := 103) (v := 31) hsz ev A (by decide) (by decide) c55 i q1 q2 (Nat.lt_of_lt_of_le q2 (by decide))
      · exact fun i q1 q2 => own_rg (lo := 103) (hi := 123) (v := 15) hsz ev A (by decide) (by decide) c57 i q1 q2 (Nat.lt_of_lt_of_le q2 (by decide))
      · exact fun i q1 q2 => own_pt (k := 123) (v := 0) ev A (by decide) c59 i q1 q2
      · exact fun i q1 q2 => own_pt (k := 124) (v := 0) ev A (by decide) c61 i q1 q2
      · exact fun i q1 q2 => own_pt (k := 125) (v := 0) ev A (by decide) c63 i q1 q2
      · exact fun i q1 q2 => own_pt (k := 126) (v := 14) ev A (by decide) c65 i q1 q2
      · exact fun i q1 q2 => own_rgL (lo := 127) (v := 0) hsz ev A (by decide) c66 i q1 q2
  obtain ⟨n, o, h1, h2, h3, _, L, rfl, ⟨rfl, N⟩, hq⟩ := rm_law l s _ hw tables_1 i0 i1 i2 i3 i4 ck s.heap s.heap.size (Nat.le_refl _) SK KD p e ha hc hk s m _ below hf ((Spec.applies_iff_loose hf).mp happ).1 ⟨rfl, State.Warmed39.refl s, rfl⟩ trivial
  refine ⟨n, _, h1, h2, h3, hpost _ _ _ _ _ _ ⟨Cond.after_iff.mpr rfl, Cond.after_iff.mpr (eq_i res_at (Term.int_eval (1)) rfl), trivial⟩ ⟨hq.1, hq.2.1, (hq.2.2.sift fun y hy => Or.inr (N y hy)).mono (by decide) (by decide)⟩⟩
theorem main_1_1 : Claimed_1_1 := comes_1 fun _ _ _ _ _ _ h hF => ⟨h.1, hF⟩
theorem main_1_2 : Claimed_1_2 := comes_1 fun _ _ _ _ _ _ h hF => ⟨h.2.1, hF⟩
end Jvm.Pilot.@@N@@
namespace Jvm.Pilot.@@N@@
open Jvm Jvm.ClassFile Sem Op Lib Jvm.Free Jvm.Stand Jvm.Pilot.@@N@@.Jvm.D
/-! MADE BY PROGRAM (witnessworld.py) out of the Statement's table words and the real class files: 9 classes; the members and pool entries that the words name. The judged class is class 1, her method 1. -/
namespace start1
open Jvm.ClassFile
def u (s : String) : CpInfo := .utf8 (stringToUtf16 s)
/-- a pool by its gaps: so many unusable entries, then the entry; so many at the end -/
def gap : Nat → List CpInfo → List CpInfo
  | 0, r => r
  | n + 1, r => .unusable :: gap n r
def poolList (es : List (Nat × CpInfo)) (last : Nat) : List CpInfo := es.foldr (fun e r => gap e.1 (e.2 :: r)) (gap last [])
def pool (es : List (Nat × CpInfo)) (last : Nat) : Array CpInfo := ⟨poolList es last⟩
def fileOf (pool : Array CpInfo) (this : Nat) (attrs : Array Attribute := #[]) (ms : Array MethodInfo := #[]) (fl : Nat := 33) (sup : Nat := 0) (ifs : Array Nat := #[]) (fds : Array FieldInfo := #[]) : ClassFile where
  minorVersion := 0
  majorVersion := 65
  constantPool := pool
  accessFlags := fl
  thisClass := this
  superClass := sup
  interfaces := ifs
  fields := fds
  methods := ms
  attributes := attrs
def plain (name : String) (sup : Option ClassId) : Class where
  name := name
  kind := .ordinary
  loader := none
  accessFlags := 33
  super := sup
  interfaces := #[]
  cf := none
  fields := #[]
  methods := #[]
  instanceTypes := #[]
  staticTypes := #[]
  resolved := #[]
  callSites := []
  init := .initialized
  statics := none
  mirror := none

def pool0 : Array CpInfo := pool [(5, u "<init>"), (0, u "()V"), (1, .class_ 10), (1, u "java/lang/Object")] 113

def k0m0 : Method := { name := "<init>", desc := "()V", sig := { parameters := [], returnType := none }, accessFlags := 1, code := none }
/-- java/lang/Object -/
def k0 : Class := { plain "java/lang/Object" none with
  accessFlags := 33
  interfaces := #[]
  cf := some (fileOf pool0 8 #[] #[{ accessFlags := 1, nameIndex := 5, descriptorIndex := 6, attributes := #[] }] 33 0 #[] #[])
  fields := #[]
  methods := #[k0m0]
  instanceTypes := #[]
  staticTypes := #[]
  resolved := Array.replicate 124 none
  statics := none }

def pool1 : Array CpInfo := pool [(2, .class_ 4), (1, u "java/lang/Object"), (0, u "<init>"), (0, u "()V"), (0, .integer 2147483647), (0, .methodref 9 10), (0, .class_ 11), (0, .nameAndType 12 13), (0, u "com/example/entayl/entayl/input/IriTable"), (0, u "isPlainIri"), (0, u "([BII)Z"), (0, .methodref 15 16), (0, .class_ 17), (0, .nameAndType 18 19), (0, u "com/example/entayl/entayl/input/IriTableIsPlainIriPinLaw"), (0, u "expectA"), (0, u "(II)Z"), (0, .methodref 15 21), (0, .nameAndType 22 19), (0, u "expectB"), (0, .methodref 15 24), (0, .nameAndType 25 19), (0, u "expectC"), (0, .methodref 15 27), (0, .nameAndType 28 29), (0, u "letter"), (0, u "(I)Z"), (0, .methodref 15 31), (0, .nameAndType 32 29), (0, u "host"), (0, .methodref 15 34), (0, .nameAndType 35 29), (0, u "digit"), (0, .methodref 15 37), (0, .nameAndType 38 29), (0, u "query"), (0, .methodref 15 40), (0, .nameAndType 41 29), (0, u "scheme"), (0, .methodref 15 43), (0, .nameAndType 44 29), (0, u "hex"), (0, .methodref 15 46), (0, .nameAndType 47 29), (0, u "path"), (2, u "law"), (0, u "(IIIII)Z")] 5

def k1m0 : Method := { name := "<init>", desc := "()V", sig := { parameters := [], returnType := none }, accessFlags := 1, code := none }
def k1c1 : Code := { maxStack := 4, maxLocals := 12, code := code, exceptionTable := #[], attributes := #[] }
def k1m1 : Method := { name := "law", desc := "(IIIII)Z", sig := { parameters := [.int, .int, .int, .int, .int], returnType := some .boolean }, accessFlags := 9, code := some k1c1 }
def k1c2 : Code := { maxStack := 2, maxLocals := 2, code := method_3_code, exceptionTable := #[], attributes := #[] }
def k1m2 : Method := { name := "expectA", desc := "(II)Z", sig := { parameters := [.int, .int], returnType := some .boolean }, accessFlags := 10, code := some k1c2 }
def k1c3 : Code := { maxStack := 2, maxLocals := 2, code := method_4_code, exceptionTable := #[], attributes := #[] }
def k1m3 : Method := { name := "expectB", desc := "(II)Z", sig := { parameters := [.int, .int], returnType := some .boolean }, accessFlags := 10, code := some k1c3 }
def k1c4 : Code := { maxStack := 2, maxLocals := 2, code := method_5_code, exceptionTable := #[], attributes := #[] }
def k1m4 : Method := { name := "expectC", desc := "(II)Z", sig := { parameters := [.int, .int], returnType := some .boolean }, accessFlags := 10, code := some k1c4 }
def k1c5 : Code := { maxStack := 2, maxLocals := 1, code := method_6_code, exceptionTable := #[], attributes := #[] }
def k1m5 : Method := { name := "letter", desc := "(I)Z", sig := { parameters := [.int], returnType := some .boolean }, accessFlags := 10, code := some k1c5 }
def k1c6 : Code := { maxStack := 2, maxLocals := 1, code := method_7_code, exceptionTable := #[], attributes := #[] }
def k1m6 : Method := { name := "digit", desc := "(I)Z", sig := { parameters := [.int], returnType := some .boolean }, accessFlags := 10, code := some k1c6 }
def k1c7 : Code := { maxStack := 2, maxLocals := 1, code := method_8_code, exceptionTable := #[], attributes := #[] }
def k1m7 : Method := { name := "hex", desc := "(I)Z", sig := { parameters := [.int], returnType := some .boolean }, accessFlags := 10, code := some k1c7 }
def k1c8 : Code := { maxStack := 2, maxLocals := 1, code := method_9_code, exceptionTable := #[], attributes := #[] }
def k1m8 : Method := { name := "scheme", desc := "(I)Z", sig := { parameters := [.int], returnType := some .boolean }, accessFlags := 10, code := some k1c8 }
def k1c9 : Code := { maxStack := 2, maxLocals := 1, code := method_10_code, exceptionTable := #[], attributes := #[] }
def k1m9 : Method := { name := "host", desc := "(I)Z", sig := { parameters := [.int], returnType := some .boolean }, accessFlags := 10, code := some k1c9 }
def k1c10 : Code := { maxStack := 2, maxLocals := 1, code := method_11_code, exceptionTable := #[], attributes := #[] }
def k1m10 : Method := { name := "path", desc := "(I)Z", sig := { parameters := [.int], returnType := some .boolean }, accessFlags := 10, code := some k1c10 }
def k1c11 : Code := { maxStack := 2, maxLocals := 1, code := method_12_code, exceptionTable := #[], attributes := #[] }
def k1m11 : Method := { name := "query", desc := "(I)Z", sig := { parameters := [.int], returnType := some .boolean }, accessFlags := 10, code := some k1c11 }
/-- com/example/entayl/entayl/input/IriTableIsPlainIriPinLaw -/
def k1 : Class := { plain "com/example/entayl/entayl/input/IriTableIsPlainIriPinLaw" (some 0) with
  accessFlags := 49
  interfaces := #[]
  cf := some (fileOf pool1 15 #[] #[{ accessFlags := 1, nameIndex := 5, descriptorIndex := 6, attributes := #[] }, { accessFlags := 9, nameIndex := 50, descriptorIndex := 51, attributes := #[] }, { accessFlags := 10, nameIndex := 18, descriptorIndex := 19, attributes := #[] }, { accessFlags := 10, nameIndex := 22, descriptorIndex := 19, attributes := #[] }, { accessFlags := 10, nameIndex := 25, descriptorIndex := 19, attributes := #[] }, { accessFlags := 10, nameIndex := 28, descriptorIndex := 29, attributes := #[] }, { accessFlags := 10, nameIndex := 35, descriptorIndex := 29, attributes := #[] }, { accessFlags := 10, nameIndex := 44, descriptorIndex := 29, attributes := #[] }, { accessFlags := 10, nameIndex := 41, descriptorIndex := 29, attributes := #[] }, { accessFlags := 10, nameIndex := 32, descriptorIndex := 29, attributes := #[] }, { accessFlags := 10, nameIndex := 47, descriptorIndex := 29, attributes := #[] }, { accessFlags := 10, nameIndex := 38, descriptorIndex := 29, attributes := #[] }] 49 2 #[] #[])
  fields := #[]
  methods := #[k1m0, k1m1, k1m2, k1m3, k1m4, k1m5, k1m6, k1m7, k1m8, k1m9, k1m10, k1m11]
  instanceTypes := #[]
  staticTypes := #[]
  resolved := Array.replicate 57 none
  statics := none }

def pool2 : Array CpInfo := pool [(4, .class_ 6), (1, u "java/lang/Object"), (3, .class_ 12), (1, u "com/example/entayl/entayl/input/IriTable"), (0, u "values"), (0, u "Ljava/util/function/Function;"), (18, u "table"), (0, u "[J"), (2, u "keys"), (0, u "[B"), (2, u "made"), (0, u "[Ljava/lang/Object;"), (2, u "keysOf"), (0, u "[I"), (2, u "INTS"), (0, u "Ljava/lang/invoke/VarHandle;"), (8, u "keysEnd"), (0, u "I"), (2, u "count"), (37, u "([BIII)I"), (19, u "isPlainIri"), (0, u "([BII)Z"), (45, .methodref 10 169), (0, .nameAndType 170 171), (0, u "isLetter"), (0, u "(B)Z"), (0, .methodref 10 173), (0, .nameAndType 174 101), (0, u "skip"), (0, .methodref 10 176), (0, .nameAndType 177 122), (0, u "isJar"), (0, .fieldref 10 179), (0, .nameAndType 180 46), (0, u "KINDS"), (41, u "NONE"), (2, u "UNREAD"), (1, u "MIN_SIZE"), (1, u "MAX_FIRST_SIZE"), (0, u "BYTES_PER_IRI"), (1, u "BYTES_PER_KEY"), (1, u "MAX_PROBES"), (0, u "MAX_PORT_DIGITS"), (1, u "FREE"), (0, u "J"), (2, u "KEY_HEADER"), (1, u "MAX_KEYS"), (1, u "SCHEME"), (1, u "HOST"), (1, u "PATH"), (1, u "QUERY"), (0, u "HEX")] 44

def k2c0 : Code := { maxStack := 4, maxLocals := 6, code := prog_16_method_18_code, exceptionTable := #[], attributes := #[] }
def k2m0 : Method := { name := "isPlainIri", desc := "([BII)Z", sig := { parameters := [(.array .byte), .int, .int], returnType := some .boolean }, accessFlags := 8, code := some k2c0 }
def k2c1 : Code := { maxStack := 4, maxLocals := 5, code := prog_16_method_19_code, exceptionTable := #[], attributes := #[] }
def k2m1 : Method := { name := "skip", desc := "([BIII)I", sig := { parameters := [(.array .byte), .int, .int, .int], returnType := some .int }, accessFlags := 10, code := some k2c1 }
def k2c2 : Code := { maxStack := 2, maxLocals := 1, code := prog_16_method_20_code, exceptionTable := #[], attributes := #[] }
def k2m2 : Method := { name := "isLetter", desc := "(B)Z", sig := { parameters := [.byte], returnType := some .boolean }, accessFlags := 10, code := some k2c2 }
def k2c3 : Code := { maxStack := 3, maxLocals := 3, code := prog_16_method_21_code, exceptionTable := #[], attributes := #[] }
def k2m3 : Method := { name := "isJar", desc := "([BII)Z", sig := { parameters := [(.array .byte), .int, .int], returnType := some .boolean }, accessFlags := 10, code := some k2c3 }
/-- com/example/entayl/entayl/input/IriTable -/
def k2 : Class := { plain "com/example/entayl/entayl/input/IriTable" (some 0) with
  accessFlags := 48
  interfaces := #[]
  cf := some (fileOf pool2 10 #[] #[{ accessFlags := 8, nameIndex := 121, descriptorIndex := 122, attributes := #[] }, { accessFlags := 10, nameIndex := 174, descriptorIndex := 101, attributes := #[] }, { accessFlags := 10, nameIndex := 170, descriptorIndex := 171, attributes := #[] }, { accessFlags := 10, nameIndex := 177, descriptorIndex := 122, attributes := #[] }] 48 4 #[] #[{ accessFlags := 24, nameIndex := 222, descriptorIndex := 60, attributes := #[] }, { accessFlags := 24, nameIndex := 225, descriptorIndex := 60, attributes := #[] }, { accessFlags := 26, nameIndex := 227, descriptorIndex := 60, attributes := #[] }, { accessFlags := 26, nameIndex := 229, descriptorIndex := 60, attributes := #[] }, { accessFlags := 26, nameIndex := 230, descriptorIndex := 60, attributes := #[] }, { accessFlags := 26, nameIndex := 232, descriptorIndex := 60, attributes := #[] }, { accessFlags := 26, nameIndex := 234, descriptorIndex := 60, attributes := #[] }, { accessFlags := 26, nameIndex := 235, descriptorIndex := 60, attributes := #[] }, { accessFlags := 26, nameIndex := 237, descriptorIndex := 238, attributes := #[] }, { accessFlags := 26, nameIndex := 241, descriptorIndex := 60, attributes := #[] }, { accessFlags := 26, nameIndex := 243, descriptorIndex := 60, attributes := #[] }, { accessFlags := 26, nameIndex := 49, descriptorIndex := 50, attributes := #[] }, { accessFlags := 26, nameIndex := 245, descriptorIndex := 60, attributes := #[] }, { accessFlags := 26, nameIndex := 247, descriptorIndex := 60, attributes := #[] }, { accessFlags := 26, nameIndex := 249, descriptorIndex := 60, attributes := #[] }, { accessFlags := 26, nameIndex := 251, descriptorIndex := 60, attributes := #[] }, { accessFlags := 26, nameIndex := 252, descriptorIndex := 60, attributes := #[] }, { accessFlags := 26, nameIndex := 180, descriptorIndex := 46, attributes := #[] }, { accessFlags := 18, nameIndex := 13, descriptorIndex := 14, attributes := #[] }, { accessFlags := 2, nameIndex := 33, descriptorIndex := 34, attributes := #[] }, { accessFlags := 2, nameIndex := 63, descriptorIndex := 60, attributes := #[] }, { accessFlags := 2, nameIndex := 37, descriptorIndex := 38, attributes := #[] }, { accessFlags := 2, nameIndex := 59, descriptorIndex := 60, attributes := #[] }, { accessFlags := 2, nameIndex := 41, descriptorIndex := 42, attributes := #[] }, { accessFlags := 2, nameIndex := 45, descriptorIndex := 46, attributes := #[] }])
  fields := #[{ name := "NONE", type := .int, accessFlags := 24, slot := 0, constantValue := 0 }, { name := "UNREAD", type := .int, accessFlags := 24, slot := 1, constantValue := 0 }, { name := "MIN_SIZE", type := .int, accessFlags := 26, slot := 2, constantValue := 0 }, { name := "MAX_FIRST_SIZE", type := .int, accessFlags := 26, slot := 3, constantValue := 0 }, { name := "BYTES_PER_IRI", type := .int, accessFlags := 26, slot := 4, constantValue := 0 }, { name := "BYTES_PER_KEY", type := .int, accessFlags := 26, slot := 5, constantValue := 0 }, { name := "MAX_PROBES", type := .int, accessFlags := 26, slot := 6, constantValue := 0 }, { name := "MAX_PORT_DIGITS", type := .int, accessFlags := 26, slot := 7, constantValue := 0 }, { name := "FREE", type := .long, accessFlags := 26, slot := 8, constantValue := 0 }, { name := "KEY_HEADER", type := .int, accessFlags := 26, slot := 9, constantValue := 0 }, { name := "MAX_KEYS", type := .int, accessFlags := 26, slot := 10, constantValue := 0 }, { name := "INTS", type := (.object "java/lang/invoke/VarHandle"), accessFlags := 26, slot := 11, constantValue := 0 }, { name := "SCHEME", type := .int, accessFlags := 26, slot := 12, constantValue := 0 }, { name := "HOST", type := .int, accessFlags := 26, slot := 13, constantValue := 0 }, { name := "PATH", type := .int, accessFlags := 26, slot := 14, constantValue := 0 }, { name := "QUERY", type := .int, accessFlags := 26, slot := 15, constantValue := 0 }, { name := "HEX", type := .int, accessFlags := 26, slot := 16, constantValue := 0 }, { name := "KINDS", type := (.array .int), accessFlags := 26, slot := 17, constantValue := 0 }, { name := "values", type := (.object "java/util/function/Function"), accessFlags := 18, slot := 0, constantValue := 0 }, { name := "table", type := (.array .long), accessFlags := 2, slot := 1, constantValue := 0 }, { name := "count", type := .int, accessFlags := 2, slot := 2, constantValue := 0 }, { name := "keys", type := (.array .byte), accessFlags := 2, slot := 3, constantValue := 0 }, { name := "keysEnd", type := .int, accessFlags := 2, slot := 4, constantValue := 0 }, { name := "made", type := (.array (.object "java/lang/Object")), accessFlags := 2, slot := 5, constantValue := 0 }, { name := "keysOf", type := (.array .int), accessFlags := 2, slot := 6, constantValue := 0 }]
  methods := #[k2m0, k2m1, k2m2, k2m3]
  instanceTypes := #[(.object "java/util/function/Function"), (.array .long), .int, (.array .byte), .int, (.array (.object "java/lang/Object")), (.array .int)]
  staticTypes := #[.int, .int, .int, .int, .int, .int, .int, .int, .long, .int, .int, (.object "java/lang/invoke/VarHandle"), .int, .int, .int, .int, .int, (.array .int)]
  resolved := Array.replicate 297 none
  statics := some 0 }

def pool3 : Array CpInfo := pool [(1, u "java/lang/Cloneable"), (0, .class_ 1), (0, u "java/lang/Object"), (0, .class_ 3)] 3

/-- java/lang/Cloneable -/
def k3 : Class := { plain "java/lang/Cloneable" (some 0) with
  accessFlags := 1537
  interfaces := #[]
  cf := some (fileOf pool3 2 #[] #[] 1537 4 #[] #[])
  fields := #[]
  methods := #[]
  instanceTypes := #[]
  staticTypes := #[]
  resolved := Array.replicate 8 none
  statics := none }

def pool4 : Array CpInfo := pool [(1, u "java/io/Serializable"), (0, .class_ 1), (0, u "java/lang/Object"), (0, .class_ 3)] 3

/-- java/io/Serializable -/
def k4 : Class := { plain "java/io/Serializable" (some 0) with
  accessFlags := 1537
  interfaces := #[]
  cf := some (fileOf pool4 2 #[] #[] 1537 4 #[] #[])
  fields := #[]
  methods := #[]
  instanceTypes := #[]
  staticTypes := #[]
  resolved := Array.replicate 8 none
  statics := none }

/-- the primitive byte -/
def k5 : Class := { plain "byte" none with kind := .primitive 'B', accessFlags := 0x411 }
/-- [B -/
def k6 : Class := { plain "[B" (some 0) with kind := .array 5 .byte, interfaces := #[3, 4], accessFlags := 1041 }

/-- the primitive int -/
def k7 : Class := { plain "int" none with kind := .primitive 'I', accessFlags := 0x411 }
/-- [I -/
def k8 : Class := { plain "[I" (some 0) with kind := .array 7 .int, interfaces := #[3, 4], accessFlags := 1041 }

def heap : Heap := #[{ cls := 2, slots := #[.int 0, .int 0, .int 0, .int 0, .int 0, .int 0, .int 0, .int 0, .long 0, .int 0, .int 0, .null, .int 0, .int 0, .int 0, .int 0, .int 0, .ref 1], vm := .statics 2 },
  { cls := 8, slots := #[.int 0, .int 0, .int 0, .int 0, .int 0, .int 0, .int 0, .int 0, .int 0, .int 0, .int 0, .int 0, .int 0, .int 0, .int 0, .int 0, .int 0, .int 0, .int 0, .int 0, .int 0, .int 0, .int 0, .int 0, .int 0, .int 0, .int 0, .int 0, .int 0, .int 0, .int 0, .int 0, .int 0, .int 14, .int 0, .int 0, .int 14, .int 0, .int 14, .int 14, .int 14, .int 14, .int 14, .int 15, .int 14, .int 15, .int 15, .int 12, .int 31, .int 31, .int 31, .int 31, .int 31, .int 31, .int 31, .int 31, .int 31, .int 31, .int 12, .int 14, .int 0, .int 14, .int 0, .int 8, .int 12, .int 31, .int 31, .int 31, .int 31, .int 31, .int 31, .int 15, .int 15, .int 15, .int 15, .int 15, .int 15, .int 15, .int 15, .int 15, .int 15, .int 15, .int 15, .int 15, .int 15, .int 15, .int 15, .int 15, .int 15, .int 15, .int 15, .int 0, .int 0, .int 0, .int 0, .int 14, .int 0, .int 31, .int 31, .int 31, .int 31, .int 31, .int 31, .int 15, .int 15, .int 15, .int 15, .int 15, .int 15, .int 15, .int 15, .int 15, .int 15, .int 15, .int 15, .int 15, .int 15, .int 15, .int 15, .int 15, .int 15, .int 15, .int 15, .int 0, .int 0, .int 0, .int 14, .int 0, .int 0, .int 0, .int 0, .int 0, .int 0, .int 0, .int 0, .int 0, .int 0, .int 0, .int 0, .int 0, .int 0, .int 0, .int 0, .int 0, .int 0, .int 0, .int 0, .int 0, .int 0, .int 0, .int 0, .int 0, .int 0, .int 0, .int 0, .int 0, .int 0, .int 0, .int 0, .int 0, .int 0, .int 0, .int 0, .int 0, .int 0, .int 0, .int 0, .int 0, .int 0, .int 0, .int 0, .int 0, .int 0, .int 0, .int 0, .int 0, .int 0, .int 0, .int 0, .int 0, .int 0, .int 0, .int 0, .int 0, .int 0, .int 0, .int 0, .int 0, .int 0, .int 0, .int 0, .int 0, .int 0, .int 0, .int 0, .int 0, .int 0, .int 0, .int 0, .int 0, .int 0, .int 0, .int 0, .int 0, .int 0, .int 0, .int 0, .int 0, .int 0, .int 0, .int 0, .int 0, .int 0, .int 0, .int 0, .int 0, .int 0, .int 0, .int 0, .int 0, .int 0, .int 0, .int 0, .int 0, .int 0, .int 0, .int 0, .int 0, .int 0, .int 0, .int 0, .int 0, .int 0, .int 0, .int 0, .int 0, .int 0, .int 0, .int 0, .int 0, .int 0, .int 0, .int 0, .int 0, .int 0, .int 0, .int 0, .int 0, .int 0, .int 0, .int 0, .int 0, .int 0, .int 0, .int 0, .int 0], vm := .none }]
def classes : Array Class := #[k0, k1, k2, k3, k4, k5, k6, k7, k8]
def interned : List (Array UInt16 × Addr) := []
def slotsUsed : Nat := 274
def theMethod : MethodId := ⟨1, 1⟩
def args0 : Array Value := #[.int 0, .int 3, .int 65, .int 1, .int 2]
def aboutOver (below : List Frame) : State where
  vm := { classes := classes, interned := interned.toArray }
  heap := heap
  slotsUsed := slotsUsed
  threads := #[{ frames := .invoking theMethod args0 :: below }]
def below0 : List Frame := [.native { method := ⟨0, 0⟩, args := #[] }]
def about1 : State := aboutOver below0
def p0 : Program := .bare "" "" ""
def e0 : Env := launch0.env 0 0 0
theorem w_frames : about1.frames = Frame.invoking theMethod args0 :: below0 := rfl
set_option maxRecDepth 65536 in
theorem w_args : argsFit about1.vm theMethod args0 = true := by decide +kernel
set_option maxRecDepth 65536 in
theorem w_heap : heapFits about1 = true := by decide +kernel
set_option maxRecDepth 65536 in
theorem w_runnable : about1.curStatus? = some .runnable := by decide +kernel
set_option maxRecDepth 65536 in
theorem w_alone : about1.alone = true := by decide +kernel
set_option maxRecDepth 65536 in
theorem w_named : about1.methodNamed? x = some theMethod := by decide +kernel
set_option maxRecDepth 65536 in
theorem w_hears : about1.hears theMethod below0 = true := by decide +kernel
set_option maxRecDepth 65536 in
theorem w_ripe : about1.ripe theMethod args0 below0 = true := by decide +kernel
theorem w_running : about1.status = .running := rfl
set_option maxRecDepth 65536 in
theorem w_room : about1.hasRoom e0.platform room_1 = true :=
  launch0.hasRoom_least _ room_1 (by decide +kernel) (by decide +kernel) (by decide +kernel) (by decide +kernel) (by decide +kernel) (by decide +kernel)
theorem allAtoms_all (ts : List Jvm.Cond) (a : Array Jvm.Value) (st : Jvm.State) : (allAtoms ts).before a st = ts.all (fun c => c.before a st) := by
  induction ts with
  | nil => rfl
  | cons c t ih =>
    show (Jvm.Cond.and c (allAtoms t)).before a st = _
    rw [Jvm.Cond.before_and, ih, List.all_cons]
def words1 : List Jvm.Cond := Jvm.Cond.code x code maxLocals ret :: tables_1
/-- a 'code' word, met by the world's own term for the bytes: nothing is compared byte by byte -/
theorem code_word {y : MethodName} {bytes : ByteArray} {mx : Nat} {rt : Option FieldType} {a : Array Value} {s : State} {m : MethodId} {meth : Method} {c : Code} (h1 : s.methodNamed? y = some m) (h2 : s.vm.method? m = some meth) (h3 : meth.code = some c) (h4 : c.code = bytes)
    (h5 : (c.maxLocals == mx && c.exceptionTable.isEmpty && decide (c.maxStack ≤ mostOperands) && decide (meth.sig.returnType = rt) && !meth.locks && decide (parseMethodDescriptor y.desc = some meth.sig)) = true) : (Jvm.Cond.code y bytes mx rt).before a s = true := by
  simp only [Bool.and_eq_true, beq_iff_eq, Bool.not_eq_true', decide_eq_true_eq] at h5
  obtain ⟨⟨⟨⟨⟨g1, g2⟩, g3⟩, g4⟩, g5⟩, g6⟩ := h5
  simp [Cond.before, Cond.holds, Cond.value, h1, h2, h3, h4, g1, g2, g3, g4, g5, g6]
def isCode : Jvm.Cond → Bool
  | .code _ _ _ _ => true
  | _ => false
theorem all_split {L : List Jvm.Cond} {P : Jvm.Cond → Bool} (h1 : L.all (fun c => isCode c || P c) = true) (h2 : ∀ c ∈ L.filter isCode, P c = true) : L.all P = true := by
  refine List.all_eq_true.mpr fun c hc => ?_
  have h := List.all_eq_true.mp h1 c hc
  rcases Bool.eq_false_or_eq_true (isCode c) with hi | hi
  · exact h2 c (List.mem_filter.mpr ⟨hc, hi⟩)
  · simpa [hi] using h
set_option maxRecDepth 65536 in
theorem w_c0 : (Jvm.Cond.code x code maxLocals ret).before args0 about1 = true := code_word (m := ⟨1, 1⟩) (meth := k1m1) (c := k1c1) (by decide +kernel) rfl rfl rfl (by decide +kernel)
set_option maxRecDepth 65536 in
theorem w_c1 : (Jvm.Cond.code ({ cls := "com/example/entayl/entayl/input/IriTable", name := "isPlainIri", desc := "([BII)Z" } : Jvm.MethodName) prog_16_method_18_code (6 : Nat) (Option.some Jvm.ClassFile.FieldType.boolean)).before args0 about1 = true := code_word (m := ⟨2, 0⟩) (meth := k2m0) (c := k2c0) (by decide +kernel) rfl rfl rfl (by decide +kernel)
set_option maxRecDepth 65536 in
theorem w_c2 : (Jvm.Cond.code ({ cls := "com/example/entayl/entayl/input/IriTable", name := "isLetter", desc := "(B)Z" } : Jvm.MethodName) prog_16_method_20_code (1 : Nat) (Option.some Jvm.ClassFile.FieldType.boolean)).before args0 about1 = true := code_word (m := ⟨2, 2⟩) (meth := k2m2) (c := k2c2) (by decide +kernel) rfl rfl rfl (by decide +kernel)
set_option maxRecDepth 65536 in
theorem w_c3 : (Jvm.Cond.code ({ cls := "com/example/entayl/entayl/input/IriTable", name := "skip", desc := "([BIII)I" } : Jvm.MethodName) prog_16_method_19_code (5 : Nat) (Option.some Jvm.ClassFile.FieldType.int)).before args0 about1 = true := code_word (m := ⟨2, 1⟩) (meth := k2m1) (c := k2c1) (by decide +kernel) rfl rfl rfl (by decide +kernel)
set_option maxRecDepth 65536 in
theorem w_c4 : (Jvm.Cond.code ({ cls := "com/example/entayl/entayl/input/IriTable", name := "isJar", desc := "([BII)Z" } : Jvm.MethodName) prog_16_method_21_code (3 : Nat) (Option.some Jvm.ClassFile.FieldType.boolean)).before args0 about1 = true := code_word (m := ⟨2, 3⟩) (meth := k2m3) (c := k2c3) (by decide +kernel) rfl rfl rfl (by decide +kernel)
set_option maxRecDepth 65536 in
theorem w_c5 : (Jvm.Cond.code ({ cls := "com/example/entayl/entayl/input/IriTableIsPlainIriPinLaw", name := "expectA", desc := "(II)Z" } : Jvm.MethodName) method_3_code (2 : Nat) (Option.some Jvm.ClassFile.FieldType.boolean)).before args0 about1 = true := code_word (m := ⟨1, 2⟩) (meth := k1m2) (c := k1c2) (by decide +kernel) rfl rfl rfl (by decide +kernel)
set_option maxRecDepth 65536 in
theorem w_c6 : (Jvm.Cond.code ({ cls := "com/example/entayl/entayl/input/IriTableIsPlainIriPinLaw", name := "query", desc := "(I)Z" } : Jvm.MethodName) method_12_code (1 : Nat) (Option.some Jvm.ClassFile.FieldType.boolean)).before args0 about1 = true := code_word (m := ⟨1, 11⟩) (meth := k1m11) (c := k1c11) (by decide +kernel) rfl rfl rfl (by decide +kernel)
set_option maxRecDepth 65536 in
theorem w_c7 : (Jvm.Cond.code ({ cls := "com/example/entayl/entayl/input/IriTableIsPlainIriPinLaw", name := "path", desc := "(I)Z" } : Jvm.MethodName) method_11_code (1 : Nat) (Option.some Jvm.ClassFile.FieldType.boolean)).before args0 about1 = true := code_word (m := ⟨1, 10⟩) (meth := k1m10) (c := k1c10) (by decide +kernel) rfl rfl rfl (by decide +kernel)
set_option maxRecDepth 65536 in
theorem w_c8 : (Jvm.Cond.code ({ cls := "com/example/entayl/entayl/input/IriTableIsPlainIriPinLaw", name := "host", desc := "(I)Z" } : Jvm.MethodName) method_10_code (1 : Nat) (Option.some Jvm.ClassFile.FieldType.boolean)).before args0 about1 = true := code_word (m := ⟨1, 9⟩) (meth := k1m9) (c := k1c9) (by decide +kernel) rfl rfl rfl (by decide +kernel)
set_option maxRecDepth 65536 in
theorem w_c9 : (Jvm.Cond.code ({ cls := "com/example/entayl/entayl/input/IriTableIsPlainIriPinLaw", name := "letter", desc := "(I)Z" } : Jvm.MethodName) method_6_code (1 : Nat) (Option.some Jvm.ClassFile.FieldType.boolean)).before args0 about1 = true := code_word (m := ⟨1, 5⟩) (meth := k1m5) (c := k1c5) (by decide +kernel) rfl rfl rfl (by decide +kernel)
set_option maxRecDepth 65536 in
theorem w_c10 : (Jvm.Cond.code ({ cls := "com/example/entayl/entayl/input/IriTableIsPlainIriPinLaw", name := "digit", desc := "(I)Z" } : Jvm.MethodName) method_7_code (1 : Nat) (Option.some Jvm.ClassFile.FieldType.boolean)).before args0 about1 = true := code_word (m := ⟨1, 6⟩) (meth := k1m6) (c := k1c6) (by decide +kernel) rfl rfl rfl (by decide +kernel)
set_option maxRecDepth 65536 in
theorem w_c11 : (Jvm.Cond.code ({ cls := "com/example/entayl/entayl/input/IriTableIsPlainIriPinLaw", name := "expectC", desc := "(II)Z" } : Jvm.MethodName) method_5_code (2 : Nat) (Option.some Jvm.ClassFile.FieldType.boolean)).before args0 about1 = true := code_word (m := ⟨1, 4⟩) (meth := k1m4) (c := k1c4) (by decide +kernel) rfl rfl rfl (by decide +kernel)
set_option maxRecDepth 65536 in
theorem w_c12 : (Jvm.Cond.code ({ cls := "com/example/entayl/entayl/input/IriTableIsPlainIriPinLaw", name := "expectB", desc := "(II)Z" } : Jvm.MethodName) method_4_code (2 : Nat) (Option.some Jvm.ClassFile.FieldType.boolean)).before args0 about1 = true := code_word (m := ⟨1, 3⟩) (meth := k1m3) (c := k1c3) (by decide +kernel) rfl rfl rfl (by decide +kernel)
set_option maxRecDepth 65536 in
theorem w_c13 : (Jvm.Cond.code ({ cls := "com/example/entayl/entayl/input/IriTableIsPlainIriPinLaw", name := "hex", desc := "(I)Z" } : Jvm.MethodName) method_8_code (1 : Nat) (Option.some Jvm.ClassFile.FieldType.boolean)).before args0 about1 = true := code_word (m := ⟨1, 7⟩) (meth := k1m7) (c := k1c7) (by decide +kernel) rfl rfl rfl (by decide +kernel)
set_option maxRecDepth 65536 in
theorem w_c14 : (Jvm.Cond.code ({ cls := "com/example/entayl/entayl/input/IriTableIsPlainIriPinLaw", name := "scheme", desc := "(I)Z" } : Jvm.MethodName) method_9_code (1 : Nat) (Option.some Jvm.ClassFile.FieldType.boolean)).before args0 about1 = true := code_word (m := ⟨1, 8⟩) (meth := k1m8) (c := k1c8) (by decide +kernel) rfl rfl rfl (by decide +kernel)
def codes1 : List Jvm.Cond := [Jvm.Cond.code x code maxLocals ret, Jvm.Cond.code ({ cls := "com/example/entayl/entayl/input/IriTable", name := "isPlainIri", desc := "([BII)Z" } : Jvm.MethodName) prog_16_method_18_code (6 : Nat) (Option.some Jvm.ClassFile.FieldType.boolean), Jvm.Cond.code ({ cls := "com/example/entayl/entayl/input/IriTable", name := "isLetter", desc := "(B)Z" } : Jvm.MethodName) prog_16_method_20_code (1 : Nat) (Option.some Jvm.ClassFile.FieldType.boolean), Jvm.Cond.code ({ cls := "com/example/entayl/entayl/input/IriTable", name := "skip", desc := "([BIII)I" } : Jvm.MethodName) prog_16_method_19_code (5 : Nat) (Option.some Jvm.ClassFile.FieldType.int), Jvm.Cond.code ({ cls := "com/example/entayl/entayl/input/IriTable", name := "isJar", desc := "([BII)Z" } : Jvm.MethodName) prog_16_method_21_code (3 : Nat) (Option.some Jvm.ClassFile.FieldType.boolean), Jvm.Cond.code ({ cls := "com/example/entayl/entayl/input/IriTableIsPlainIriPinLaw", name := "expectA", desc := "(II)Z" } : Jvm.MethodName) method_3_code (2 : Nat) (Option.some Jvm.ClassFile.FieldType.boolean), Jvm.Cond.code ({ cls := "com/example/entayl/entayl/input/IriTableIsPlainIriPinLaw", name := "query", desc := "(I)Z" } : Jvm.MethodName) method_12_code (1 : Nat) (Option.some Jvm.ClassFile.FieldType.boolean), Jvm.Cond.code ({ cls := "com/example/entayl/entayl/input/IriTableIsPlainIriPinLaw", name := "path", desc := "(I)Z" } : Jvm.MethodName) method_11_code (1 : Nat) (Option.some Jvm.ClassFile.FieldType.boolean), Jvm.Cond.code ({ cls := "com/example/entayl/entayl/input/IriTableIsPlainIriPinLaw", name := "host", desc := "(I)Z" } : Jvm.MethodName) method_10_code (1 : Nat) (Option.some Jvm.ClassFile.FieldType.boolean), Jvm.Cond.code ({ cls := "com/example/entayl/entayl/input/IriTableIsPlainIriPinLaw", name := "letter", desc := "(I)Z" } : Jvm.MethodName) method_6_code (1 : Nat) (Option.some Jvm.ClassFile.FieldType.boolean), Jvm.Cond.code ({ cls := "com/example/entayl/entayl/input/IriTableIsPlainIriPinLaw", name := "digit", desc := "(I)Z" } : Jvm.MethodName) method_7_code (1 : Nat) (Option.some Jvm.ClassFile.FieldType.boolean), Jvm.Cond.code ({ cls := "com/example/entayl/entayl/input/IriTableIsPlainIriPinLaw", name := "expectC", desc := "(II)Z" } : Jvm.MethodName) method_5_code (2 : Nat) (Option.some Jvm.ClassFile.FieldType.boolean), Jvm.Cond.code ({ cls := "com/example/entayl/entayl/input/IriTableIsPlainIriPinLaw", name := "expectB", desc := "(II)Z" } : Jvm.MethodName) method_4_code (2 : Nat) (Option.some Jvm.ClassFile.FieldType.boolean), Jvm.Cond.code ({ cls := "com/example/entayl/entayl/input/IriTableIsPlainIriPinLaw", name := "hex", desc := "(I)Z" } : Jvm.MethodName) method_8_code (1 : Nat) (Option.some Jvm.ClassFile.FieldType.boolean), Jvm.Cond.code ({ cls := "com/example/entayl/entayl/input/IriTableIsPlainIriPinLaw", name := "scheme", desc := "(I)Z" } : Jvm.MethodName) method_9_code (1 : Nat) (Option.some Jvm.ClassFile.FieldType.boolean)]
set_option maxRecDepth 65536 in
theorem codes_eq : words1.filter isCode = codes1 := rfl
theorem w_codes : ∀ c ∈ words1.filter isCode, c.before args0 about1 = true := by
  rw [codes_eq]
  intro c hc
  simp only [codes1, List.mem_cons, List.not_mem_nil, or_false] at hc
  rcases hc with rfl | rfl | rfl | rfl | rfl | rfl | rfl | rfl | rfl | rfl | rfl | rfl | rfl | rfl | rfl
  · exact w_c0
  · exact w_c1
  · exact w_c2
  · exact w_c3
  · exact w_c4
  · exact w_c5
  · exact w_c6
  · exact w_c7
  · exact w_c8
  · exact w_c9
  · exact w_c10
  · exact w_c11
  · exact w_c12
  · exact w_c13
  · exact w_c14
set_option maxRecDepth 65536 in
theorem w_t1 : (words1.take 24).all (fun c => isCode c || c.before args0 about1) = true := by decide +kernel
set_option maxRecDepth 65536 in
theorem w_t2 : ((words1.drop 24).take 24).all (fun c => isCode c || c.before args0 about1) = true := by decide +kernel
set_option maxRecDepth 65536 in
theorem w_t3 : ((words1.drop 24).drop 24).all (fun c => isCode c || c.before args0 about1) = true := by decide +kernel
theorem w_tables : (allAtoms (Jvm.Cond.code x code maxLocals ret :: tables_1)).before args0 about1 = true := by
  rw [allAtoms_all]
  show words1.all (fun c => c.before args0 about1) = true
  refine all_split ?_ w_codes
  rw [← List.take_append_drop 24 words1, List.all_append, w_t1, ← List.take_append_drop 24 (words1.drop 24), List.all_append, w_t2, w_t3]
  rfl
set_option maxRecDepth 65536 in
theorem w_case : (Jvm.Cond.and given_1 narrow_1).before args0 about1 = true := by decide +kernel
theorem w_applies : (headSpec (Jvm.Cond.code x code maxLocals ret :: tables_1) room_1).applies x e0.platform about1 = true :=
  (Spec.applies_iff w_frames).mpr ⟨w_running, w_runnable, w_alone, w_named, w_hears, w_ripe, w_room, w_tables⟩
theorem atStart : AtStart classFile x code maxLocals ret World_1 tables_1 room_1 Calls_1 rest_1 Pre_1 launch0 p0 e0 about1 theMethod args0 below0 :=
  ⟨lists_1, trivial, launch0.admits_env _ _ _, launch0.least_env, fairChoices_fair.cas, fairChoices_fair.clock, w_frames, w_args, w_heap, w_applies, trivial, trivial, w_case⟩
end start1
theorem witness_1 : WitnessClaimed_1 := ⟨start1.p0, start1.e0, start1.about1, start1.theMethod, start1.args0, start1.below0, start1.atStart⟩
end Jvm.Pilot.@@N@@
