import JvmDerived
import JvmDerived.Pilot.@@N@@Statement
import JvmDerived.Pilot.@@N@@Code
set_option linter.unusedVariables false
set_option linter.unusedSimpArgs false
@@BLOCK:SetKit.lean.txt@@
namespace Jvm.RoadKit
open Sem ClassFile Op Lib Jvm.Stand Jvm.Free Jvm.LawKit
section New
variable {p : Program} {l : Launch} {e : Env} {R : Room} {s : State} {m : MethodId} {args : Array Value} {below : List Frame} {meth : Method} {c : Code} {T : State} {locs : List Loc} {cells slots : Nat}
theorem retI (X : Stand p l e R s m args below meth c T locs cells slots) (hx : p.tables.exec = Jvm.exec) {pc : Nat} {Ls : Array Slot} {z : Int32} {rest : List Value} (hret : meth.sig.returnType = some .int) (hd : decode c.code pc = .ok (.ireturn, 1)) {fs : List Frame}
    (hl : ∀ (f : JFrame) (acts : List Action), f.method = m → f.locked = none → f.entered = [] → (doReturn e (T.setTop f) acts (some (.int z))).1 = T.setFrames fs) : Steps p.tables e below (T.setTop (mkF m pc Ls (.int z :: rest))) (T.setFrames fs) := by
  have hm' : T.vm.method? m = some meth := X.method'
  have hn : narrow .int (.int z) = .int z := rfl
  show Steps p.tables e below (T.setTop { method := m, pc := pc, locals := Ls, stack := _ :: rest, locked := none }) _
  jvm_step X.here [X.here.top, hx, hd, hm', hret, hn]
  first | (intro acts; rw [hl _ acts rfl rfl rfl]) | rw [hl _ _ rfl rfl rfl]
  exact Steps.refl _
end New
end Jvm.RoadKit
namespace Jvm.Pilot.@@N@@
open Jvm Jvm.ClassFile Sem Op Lib Jvm.Free Jvm.Stand Jvm.LawKit Jvm.RoadKit Jvm.Free.SBG Bundle Jvm.Pilot.@@N@@.Jvm.D
/-- a run from U comes to an end at which P holds -/
def Go (p : Program) (e : Env) (below : List Frame) (P : State → Outcome → Prop) (U : State) : Prop := ∃ s₂ o, Steps p.tables e below U s₂ ∧ P s₂ o
theorem Go.out {p : Program} {e : Env} {below : List Frame} {P : State → Outcome → Prop} {U : State} (h : Go p e below P U) : ∃ s₂ o, Steps p.tables e below U s₂ ∧ P s₂ o := h
theorem Go.pre {p : Program} {e : Env} {below : List Frame} {P : State → Outcome → Prop} {U U' : State} (st : ∀ t, Steps p.tables e below U' t → Steps p.tables e below U t) (h : Go p e below P U') : Go p e below P U := by
  obtain ⟨t, o, h1, h2⟩ := h
  exact ⟨t, o, st _ h1, h2⟩
theorem Go.named {p : Program} {e : Env} {below : List Frame} {P : State → Outcome → Prop} {U : State} (h : ∀ P', P' = P → Go p e below P' U) : Go p e below P U := h P rfl
theorem Go.fin {p : Program} {e : Env} {below : List Frame} {P : State → Outcome → Prop} {U t : State} {o : Outcome} (st : Steps p.tables e below U t) (h : P t o) : Go p e below P U := ⟨t, o, st, h⟩
theorem own_cut {p : Program} {e : Env} {below : List Frame} {U U' : State} (st : Steps p.tables e below U U') : ∀ t, Steps p.tables e below U' t → Steps p.tables e below U t := fun _ k => st.trans k
theorem own_ltT {x y : Int64} (h : x < y) : lcmpW x y < 0 := by rw [lcW]; exact (lc_lt x y).mpr h
theorem own_ltF {x y : Int64} (h : ¬ x < y) : ¬ lcmpW x y < 0 := by rw [lcW]; exact fun q => h ((lc_lt x y).mp q)
theorem own_gtT {x y : Int64} (h : y < x) : 0 < lcmpW x y := by rw [lcW]; exact (lc_gt x y).mpr h
theorem own_gtF {x y : Int64} (h : ¬ y < x) : ¬ 0 < lcmpW x y := by rw [lcW]; exact fun q => h ((lc_gt x y).mp q)
theorem own_eqT {x y : Int64} (h : x = y) : lcmpW x y = 0 := by rw [lcW]; exact (lc_eq x y).mpr h
theorem own_eqF {x y : Int64} (h : ¬ x = y) : ¬ lcmpW x y = 0 := by rw [lcW]; exact fun q => h ((lc_eq x y).mp q)

theorem own_staK {Z : State} {h h' : Heap} {C n d : String} {v : Value} (F : Sta Z h C n d v) (K : Keep h h' []) : Sta Z h' C n d v := by
  obtain ⟨cf, i, k, f, st, cell, h1, h2, h3, h4, h5, r⟩ := F
  exact ⟨cf, i, k, f, st, cell, h1, h2, h3, h4, K.2.1 _ _ h5 nin0, r⟩
theorem own_fldI {args : Array Value} {s : State} {t : Term} {C n d : String} {a : Addr} {k : Int32} (ht : t.eval args s none [] s = some (.ref a)) (h : (Cond.eq (Term.field t C n d) (Term.int k)).value args s none s [] = some true) : Fld s s.heap a C n d (.int k) := by
  apply Fld.start
  have e := fld_at (C := C) (n := n) (dd := d) ht
  have ek : (Term.int k).eval args s none [] s = some (.int k) := Term.int_eval k
  cases hf : s.fieldOf? a C n d with
  | none => rw [hf] at e; simp [Cond.value, e] at h
  | some v =>
    rw [hf] at e
    cases v <;> simp [Cond.value, e, ek] at h
    subst h; rfl
theorem own_fldJ {args : Array Value} {s : State} {t : Term} {C n d : String} {a : Addr} {k : Int64} (ht : t.eval args s none [] s = some (.ref a)) (h : (Cond.eq (Term.field t C n d) (Term.long k)).value args s none s [] = some true) : Fld s s.heap a C n d (.long k) := by
  apply Fld.start
  have e := fld_at (C := C) (n := n) (dd := d) ht
  have ek : (Term.long k).eval args s none [] s = some (.long k) := by simp [Term.eval]
  cases hf : s.fieldOf? a C n d with
  | none => rw [hf] at e; simp [Cond.value, e] at h
  | some v =>
    rw [hf] at e
    cases v <;> simp [Cond.value, e, ek] at h
    subst h; rfl
theorem d_jdk_42_method_152_0 : decode jdk_42_method_152_code 0 = .ok (.getstatic 38, 3) := by decide +kernel
theorem d_jdk_42_method_152_3 : decode jdk_42_method_152_code 3 = .ok (.ifCond .eq 10, 3) := by decide +kernel
theorem d_jdk_42_method_152_6 : decode jdk_42_method_152_code 6 = .ok (.aload_n 0, 1) := by decide +kernel
theorem d_jdk_42_method_152_7 : decode jdk_42_method_152_code 7 = .ok (.getfield 15, 3) := by decide +kernel
theorem d_jdk_42_method_152_10 : decode jdk_42_method_152_code 10 = .ok (.goto 4, 3) := by decide +kernel
theorem d_jdk_42_method_152_14 : decode jdk_42_method_152_code 14 = .ok (.ireturn, 1) := by decide +kernel
theorem d_jdk_42_method_54_0 : decode jdk_42_method_54_code 0 = .ok (.aload_n 0, 1) := by decide +kernel
theorem d_jdk_42_method_54_1 : decode jdk_42_method_54_code 1 = .ok (.getfield 9, 3) := by decide +kernel
theorem d_jdk_42_method_54_4 : decode jdk_42_method_54_code 4 = .ok (.arraylength, 1) := by decide +kernel
theorem d_jdk_42_method_54_5 : decode jdk_42_method_54_code 5 = .ok (.aload_n 0, 1) := by decide +kernel
theorem d_jdk_42_method_54_6 : decode jdk_42_method_54_code 6 = .ok (.invokevirtual 335, 3) := by decide +kernel
theorem d_jdk_42_method_54_9 : decode jdk_42_method_54_code 9 = .ok (.ishr, 1) := by decide +kernel
theorem d_jdk_42_method_54_10 : decode jdk_42_method_54_code 10 = .ok (.ireturn, 1) := by decide +kernel
theorem d_jdk_68_method_9_0 : decode jdk_68_method_9_code 0 = .ok (.aload_n 0, 1) := by decide +kernel
theorem d_jdk_68_method_9_1 : decode jdk_68_method_9_code 1 = .ok (.getfield 15, 3) := by decide +kernel
theorem d_jdk_68_method_9_4 : decode jdk_68_method_9_code 4 = .ok (.arraylength, 1) := by decide +kernel
theorem d_jdk_68_method_9_5 : decode jdk_68_method_9_code 5 = .ok (.aload_n 0, 1) := by decide +kernel
theorem d_jdk_68_method_9_6 : decode jdk_68_method_9_code 6 = .ok (.getfield 22, 3) := by decide +kernel
theorem d_jdk_68_method_9_9 : decode jdk_68_method_9_code 9 = .ok (.ishr, 1) := by decide +kernel
theorem d_jdk_68_method_9_10 : decode jdk_68_method_9_code 10 = .ok (.istore_n 2, 1) := by decide +kernel
theorem d_jdk_68_method_9_11 : decode jdk_68_method_9_code 11 = .ok (.iload_n 1, 1) := by decide +kernel
theorem d_jdk_68_method_9_12 : decode jdk_68_method_9_code 12 = .ok (.iload_n 2, 1) := by decide +kernel
theorem d_jdk_68_method_9_13 : decode jdk_68_method_9_code 13 = .ok (.isub, 1) := by decide +kernel
theorem d_jdk_68_method_9_14 : decode jdk_68_method_9_code 14 = .ok (.ifCond .le 24, 3) := by decide +kernel
theorem d_jdk_68_method_9_38 : decode jdk_68_method_9_code 38 = .ok (.return_, 1) := by decide +kernel
theorem d_jdk_68_method_68_0 : decode jdk_68_method_68_code 0 = .ok (.getstatic 18, 3) := by decide +kernel
theorem d_jdk_68_method_68_3 : decode jdk_68_method_68_code 3 = .ok (.ifCond .eq 14, 3) := by decide +kernel
theorem d_jdk_68_method_68_6 : decode jdk_68_method_68_code 6 = .ok (.aload_n 0, 1) := by decide +kernel
theorem d_jdk_68_method_68_7 : decode jdk_68_method_68_code 7 = .ok (.getfield 22, 3) := by decide +kernel
theorem d_jdk_68_method_68_10 : decode jdk_68_method_68_code 10 = .ok (.ifCond .ne 7, 3) := by decide +kernel
theorem d_jdk_68_method_68_13 : decode jdk_68_method_68_code 13 = .ok (.iconst 1, 1) := by decide +kernel
theorem d_jdk_68_method_68_14 : decode jdk_68_method_68_code 14 = .ok (.goto 4, 3) := by decide +kernel
theorem d_jdk_68_method_68_18 : decode jdk_68_method_68_code 18 = .ok (.ireturn, 1) := by decide +kernel
theorem d_jdk_68_method_64_0 : decode jdk_68_method_64_code 0 = .ok (.aload_n 0, 1) := by decide +kernel
theorem d_jdk_68_method_64_1 : decode jdk_68_method_64_code 1 = .ok (.getfield 15, 3) := by decide +kernel
theorem d_jdk_68_method_64_4 : decode jdk_68_method_64_code 4 = .ok (.areturn, 1) := by decide +kernel
theorem d_jdk_68_method_6_0 : decode jdk_68_method_6_code 0 = .ok (.aload_n 0, 1) := by decide +kernel
theorem d_jdk_68_method_6_1 : decode jdk_68_method_6_code 1 = .ok (.getfield 79, 3) := by decide +kernel
theorem d_jdk_68_method_6_4 : decode jdk_68_method_6_code 4 = .ok (.ireturn, 1) := by decide +kernel
theorem d_jdk_67_method_93_0 : decode jdk_67_method_93_code 0 = .ok (.aload_n 0, 1) := by decide +kernel
theorem d_jdk_67_method_93_1 : decode jdk_67_method_93_code 1 = .ok (.invokespecial 343, 3) := by decide +kernel
theorem d_jdk_67_method_93_4 : decode jdk_67_method_93_code 4 = .ok (.ireturn, 1) := by decide +kernel
theorem d_jdk_68_method_71_0 : decode jdk_68_method_71_code 0 = .ok (.getstatic 18, 3) := by decide +kernel
theorem d_jdk_68_method_71_3 : decode jdk_68_method_71_code 3 = .ok (.ifCond .eq 18, 3) := by decide +kernel
theorem d_jdk_68_method_71_6 : decode jdk_68_method_71_code 6 = .ok (.aload_n 0, 1) := by decide +kernel
theorem d_jdk_68_method_71_7 : decode jdk_68_method_71_code 7 = .ok (.getfield 22, 3) := by decide +kernel
theorem d_jdk_68_method_71_10 : decode jdk_68_method_71_code 10 = .ok (.aload_n 1, 1) := by decide +kernel
theorem d_jdk_68_method_71_11 : decode jdk_68_method_71_code 11 = .ok (.invokevirtual 40, 3) := by decide +kernel
theorem d_jdk_68_method_71_14 : decode jdk_68_method_71_code 14 = .ok (.if_icmp .eq 7, 3) := by decide +kernel
theorem d_jdk_68_method_71_21 : decode jdk_68_method_71_code 21 = .ok (.return_, 1) := by decide +kernel
theorem d_jdk_42_method_147_0 : decode jdk_42_method_147_code 0 = .ok (.aload_n 0, 1) := by decide +kernel
theorem d_jdk_42_method_147_1 : decode jdk_42_method_147_code 1 = .ok (.invokevirtual 335, 3) := by decide +kernel
theorem d_jdk_42_method_147_4 : decode jdk_42_method_147_code 4 = .ok (.iload_n 3, 1) := by decide +kernel
theorem d_jdk_42_method_147_5 : decode jdk_42_method_147_code 5 = .ok (.if_icmp .ne 23, 3) := by decide +kernel
theorem d_jdk_42_method_147_8 : decode jdk_42_method_147_code 8 = .ok (.aload_n 0, 1) := by decide +kernel
theorem d_jdk_42_method_147_9 : decode jdk_42_method_147_code 9 = .ok (.getfield 9, 3) := by decide +kernel
theorem d_jdk_42_method_147_12 : decode jdk_42_method_147_code 12 = .ok (.iconst 0, 1) := by decide +kernel
theorem d_jdk_42_method_147_13 : decode jdk_42_method_147_code 13 = .ok (.aload_n 1, 1) := by decide +kernel
theorem d_jdk_42_method_147_14 : decode jdk_42_method_147_code 14 = .ok (.iload_n 2, 1) := by decide +kernel
theorem d_jdk_42_method_147_15 : decode jdk_42_method_147_code 15 = .ok (.iload_n 3, 1) := by decide +kernel
theorem d_jdk_42_method_147_16 : decode jdk_42_method_147_code 16 = .ok (.ishl, 1) := by decide +kernel
theorem d_jdk_42_method_147_17 : decode jdk_42_method_147_code 17 = .ok (.aload_n 0, 1) := by decide +kernel
theorem d_jdk_42_method_147_18 : decode jdk_42_method_147_code 18 = .ok (.getfield 9, 3) := by decide +kernel
theorem d_jdk_42_method_147_21 : decode jdk_42_method_147_code 21 = .ok (.arraylength, 1) := by decide +kernel
theorem d_jdk_42_method_147_22 : decode jdk_42_method_147_code 22 = .ok (.invokestatic 212, 3) := by decide +kernel
theorem d_jdk_42_method_147_25 : decode jdk_42_method_147_code 25 = .ok (.goto 18, 3) := by decide +kernel
theorem d_jdk_42_method_147_43 : decode jdk_42_method_147_code 43 = .ok (.return_, 1) := by decide +kernel
theorem d_jdk_68_method_73_0 : decode jdk_68_method_73_code 0 = .ok (.aload_n 0, 1) := by decide +kernel
theorem d_jdk_68_method_73_1 : decode jdk_68_method_73_code 1 = .ok (.aload_n 2, 1) := by decide +kernel
theorem d_jdk_68_method_73_2 : decode jdk_68_method_73_code 2 = .ok (.invokevirtual 397, 3) := by decide +kernel
theorem d_jdk_68_method_73_5 : decode jdk_68_method_73_code 5 = .ok (.aload_n 2, 1) := by decide +kernel
theorem d_jdk_68_method_73_6 : decode jdk_68_method_73_code 6 = .ok (.aload_n 0, 1) := by decide +kernel
theorem d_jdk_68_method_73_7 : decode jdk_68_method_73_code 7 = .ok (.getfield 15, 3) := by decide +kernel
theorem d_jdk_68_method_73_10 : decode jdk_68_method_73_code 10 = .ok (.iload_n 1, 1) := by decide +kernel
theorem d_jdk_68_method_73_11 : decode jdk_68_method_73_code 11 = .ok (.aload_n 0, 1) := by decide +kernel
theorem d_jdk_68_method_73_12 : decode jdk_68_method_73_code 12 = .ok (.getfield 22, 3) := by decide +kernel
theorem d_jdk_68_method_73_15 : decode jdk_68_method_73_code 15 = .ok (.invokevirtual 399, 3) := by decide +kernel
theorem d_jdk_68_method_73_18 : decode jdk_68_method_73_code 18 = .ok (.return_, 1) := by decide +kernel
theorem d_jdk_68_method_22_0 : decode jdk_68_method_22_code 0 = .ok (.aload_n 1, 1) := by decide +kernel
theorem d_jdk_68_method_22_1 : decode jdk_68_method_22_code 1 = .ok (.ifnonnull 8, 3) := by decide +kernel
theorem d_jdk_68_method_22_9 : decode jdk_68_method_22_code 9 = .ok (.aload_n 1, 1) := by decide +kernel
theorem d_jdk_68_method_22_10 : decode jdk_68_method_22_code 10 = .ok (.invokevirtual 32, 3) := by decide +kernel
theorem d_jdk_68_method_22_13 : decode jdk_68_method_22_code 13 = .ok (.istore_n 2, 1) := by decide +kernel
theorem d_jdk_68_method_22_14 : decode jdk_68_method_22_code 14 = .ok (.aload_n 0, 1) := by decide +kernel
theorem d_jdk_68_method_22_15 : decode jdk_68_method_22_code 15 = .ok (.aload_n 0, 1) := by decide +kernel
theorem d_jdk_68_method_22_16 : decode jdk_68_method_22_code 16 = .ok (.getfield 79, 3) := by decide +kernel
theorem d_jdk_68_method_22_19 : decode jdk_68_method_22_code 19 = .ok (.iload_n 2, 1) := by decide +kernel
theorem d_jdk_68_method_22_20 : decode jdk_68_method_22_code 20 = .ok (.iadd, 1) := by decide +kernel
theorem d_jdk_68_method_22_21 : decode jdk_68_method_22_code 21 = .ok (.invokevirtual 100, 3) := by decide +kernel
theorem d_jdk_68_method_22_24 : decode jdk_68_method_22_code 24 = .ok (.aload_n 0, 1) := by decide +kernel
theorem d_jdk_68_method_22_25 : decode jdk_68_method_22_code 25 = .ok (.aload_n 0, 1) := by decide +kernel
theorem d_jdk_68_method_22_26 : decode jdk_68_method_22_code 26 = .ok (.getfield 79, 3) := by decide +kernel
theorem d_jdk_68_method_22_29 : decode jdk_68_method_22_code 29 = .ok (.aload_n 1, 1) := by decide +kernel
theorem d_jdk_68_method_22_30 : decode jdk_68_method_22_code 30 = .ok (.invokevirtual 208, 3) := by decide +kernel
theorem d_jdk_68_method_22_33 : decode jdk_68_method_22_code 33 = .ok (.aload_n 0, 1) := by decide +kernel
theorem d_jdk_68_method_22_34 : decode jdk_68_method_22_code 34 = .ok (.dup, 1) := by decide +kernel
theorem d_jdk_68_method_22_35 : decode jdk_68_method_22_code 35 = .ok (.getfield 79, 3) := by decide +kernel
theorem d_jdk_68_method_22_38 : decode jdk_68_method_22_code 38 = .ok (.iload_n 2, 1) := by decide +kernel
theorem d_jdk_68_method_22_39 : decode jdk_68_method_22_code 39 = .ok (.iadd, 1) := by decide +kernel
theorem d_jdk_68_method_22_40 : decode jdk_68_method_22_code 40 = .ok (.putfield 79, 3) := by decide +kernel
theorem d_jdk_68_method_22_43 : decode jdk_68_method_22_code 43 = .ok (.aload_n 0, 1) := by decide +kernel
theorem d_jdk_68_method_22_44 : decode jdk_68_method_22_code 44 = .ok (.areturn, 1) := by decide +kernel
theorem d_jdk_67_method_7_0 : decode jdk_67_method_7_code 0 = .ok (.aload_n 0, 1) := by decide +kernel
theorem d_jdk_67_method_7_1 : decode jdk_67_method_7_code 1 = .ok (.aload_n 1, 1) := by decide +kernel
theorem d_jdk_67_method_7_2 : decode jdk_67_method_7_code 2 = .ok (.invokespecial 29, 3) := by decide +kernel
theorem d_jdk_67_method_7_5 : decode jdk_67_method_7_code 5 = .ok (.pop, 1) := by decide +kernel
theorem d_jdk_67_method_7_6 : decode jdk_67_method_7_code 6 = .ok (.aload_n 0, 1) := by decide +kernel
theorem d_jdk_67_method_7_7 : decode jdk_67_method_7_code 7 = .ok (.areturn, 1) := by decide +kernel
theorem d_jdk_35_method_15_0 : decode jdk_35_method_15_code 0 = .ok (.iconst 1, 1) := by decide +kernel
theorem d_jdk_35_method_15_1 : decode jdk_35_method_15_code 1 = .ok (.istore_n 2, 1) := by decide +kernel
theorem d_jdk_35_method_15_2 : decode jdk_35_method_15_code 2 = .ok (.lload_n 0, 1) := by decide +kernel
theorem d_jdk_35_method_15_3 : decode jdk_35_method_15_code 3 = .ok (.lconst 0, 1) := by decide +kernel
theorem d_jdk_35_method_15_4 : decode jdk_35_method_15_code 4 = .ok (.lcmp, 1) := by decide +kernel
theorem d_jdk_35_method_15_5 : decode jdk_35_method_15_code 5 = .ok (.ifCond .lt 8, 3) := by decide +kernel
theorem d_jdk_35_method_15_8 : decode jdk_35_method_15_code 8 = .ok (.iconst 0, 1) := by decide +kernel
theorem d_jdk_35_method_15_9 : decode jdk_35_method_15_code 9 = .ok (.istore_n 2, 1) := by decide +kernel
theorem d_jdk_35_method_15_10 : decode jdk_35_method_15_code 10 = .ok (.lload_n 0, 1) := by decide +kernel
theorem d_jdk_35_method_15_11 : decode jdk_35_method_15_code 11 = .ok (.lneg, 1) := by decide +kernel
theorem d_jdk_35_method_15_12 : decode jdk_35_method_15_code 12 = .ok (.lstore_n 0, 1) := by decide +kernel
theorem d_jdk_35_method_15_13 : decode jdk_35_method_15_code 13 = .ok (.ldc2_w 140, 3) := by decide +kernel
theorem d_jdk_35_method_15_16 : decode jdk_35_method_15_code 16 = .ok (.lstore_n 3, 1) := by decide +kernel
theorem d_jdk_35_method_15_17 : decode jdk_35_method_15_code 17 = .ok (.iconst 1, 1) := by decide +kernel
theorem d_jdk_35_method_15_18 : decode jdk_35_method_15_code 18 = .ok (.istore 5, 2) := by decide +kernel
theorem d_jdk_35_method_15_20 : decode jdk_35_method_15_code 20 = .ok (.iload 5, 2) := by decide +kernel
theorem d_jdk_35_method_15_22 : decode jdk_35_method_15_code 22 = .ok (.bipush 19, 2) := by decide +kernel
theorem d_jdk_35_method_15_24 : decode jdk_35_method_15_code 24 = .ok (.if_icmp .ge 26, 3) := by decide +kernel
theorem d_jdk_35_method_15_27 : decode jdk_35_method_15_code 27 = .ok (.lload_n 0, 1) := by decide +kernel
theorem d_jdk_35_method_15_28 : decode jdk_35_method_15_code 28 = .ok (.lload_n 3, 1) := by decide +kernel
theorem d_jdk_35_method_15_29 : decode jdk_35_method_15_code 29 = .ok (.lcmp, 1) := by decide +kernel
theorem d_jdk_35_method_15_30 : decode jdk_35_method_15_code 30 = .ok (.ifCond .le 8, 3) := by decide +kernel
theorem d_jdk_35_method_15_33 : decode jdk_35_method_15_code 33 = .ok (.iload 5, 2) := by decide +kernel
theorem d_jdk_35_method_15_35 : decode jdk_35_method_15_code 35 = .ok (.iload_n 2, 1) := by decide +kernel
theorem d_jdk_35_method_15_36 : decode jdk_35_method_15_code 36 = .ok (.iadd, 1) := by decide +kernel
theorem d_jdk_35_method_15_37 : decode jdk_35_method_15_code 37 = .ok (.ireturn, 1) := by decide +kernel
theorem d_jdk_35_method_15_38 : decode jdk_35_method_15_code 38 = .ok (.ldc2_w 53, 3) := by decide +kernel
theorem d_jdk_35_method_15_41 : decode jdk_35_method_15_code 41 = .ok (.lload_n 3, 1) := by decide +kernel
theorem d_jdk_35_method_15_42 : decode jdk_35_method_15_code 42 = .ok (.lmul, 1) := by decide +kernel
theorem d_jdk_35_method_15_43 : decode jdk_35_method_15_code 43 = .ok (.lstore_n 3, 1) := by decide +kernel
theorem d_jdk_35_method_15_44 : decode jdk_35_method_15_code 44 = .ok (.iinc 5 1, 3) := by decide +kernel
theorem d_jdk_35_method_15_47 : decode jdk_35_method_15_code 47 = .ok (.goto (-27), 3) := by decide +kernel
theorem d_jdk_35_method_14_86 : decode jdk_35_method_14_code 86 = .ok (.iload 10, 2) := by decide +kernel
theorem d_jdk_35_method_14_88 : decode jdk_35_method_14_code 88 = .ok (.bipush (-100), 2) := by decide +kernel
theorem d_jdk_35_method_14_90 : decode jdk_35_method_14_code 90 = .ok (.if_icmp .gt 53, 3) := by decide +kernel
theorem d_jdk_35_method_14_143 : decode jdk_35_method_14_code 143 = .ok (.aload_n 3, 1) := by decide +kernel
theorem d_jdk_35_method_14_144 : decode jdk_35_method_14_code 144 = .ok (.iinc 7 (-1), 3) := by decide +kernel
theorem d_jdk_35_method_14_147 : decode jdk_35_method_14_code 147 = .ok (.iload 7, 2) := by decide +kernel
theorem d_jdk_35_method_14_149 : decode jdk_35_method_14_code 149 = .ok (.getstatic 133, 3) := by decide +kernel
theorem d_jdk_35_method_14_152 : decode jdk_35_method_14_code 152 = .ok (.iload 10, 2) := by decide +kernel
theorem d_jdk_35_method_14_154 : decode jdk_35_method_14_code 154 = .ok (.ineg, 1) := by decide +kernel
theorem d_jdk_35_method_14_155 : decode jdk_35_method_14_code 155 = .ok (.baload, 1) := by decide +kernel
theorem d_jdk_35_method_14_156 : decode jdk_35_method_14_code 156 = .ok (.bastore, 1) := by decide +kernel
theorem d_jdk_35_method_14_157 : decode jdk_35_method_14_code 157 = .ok (.iload 10, 2) := by decide +kernel
theorem d_jdk_35_method_14_159 : decode jdk_35_method_14_code 159 = .ok (.bipush (-9), 2) := by decide +kernel
theorem d_jdk_35_method_14_161 : decode jdk_35_method_14_code 161 = .ok (.if_icmp .ge 17, 3) := by decide +kernel
theorem d_jdk_35_method_14_164 : decode jdk_35_method_14_code 164 = .ok (.aload_n 3, 1) := by decide +kernel
theorem d_jdk_35_method_14_165 : decode jdk_35_method_14_code 165 = .ok (.iinc 7 (-1), 3) := by decide +kernel
theorem d_jdk_35_method_14_168 : decode jdk_35_method_14_code 168 = .ok (.iload 7, 2) := by decide +kernel
theorem d_jdk_35_method_14_170 : decode jdk_35_method_14_code 170 = .ok (.getstatic 137, 3) := by decide +kernel
theorem d_jdk_35_method_14_173 : decode jdk_35_method_14_code 173 = .ok (.iload 10, 2) := by decide +kernel
theorem d_jdk_35_method_14_175 : decode jdk_35_method_14_code 175 = .ok (.ineg, 1) := by decide +kernel
theorem d_jdk_35_method_14_176 : decode jdk_35_method_14_code 176 = .ok (.baload, 1) := by decide +kernel
theorem d_jdk_35_method_14_177 : decode jdk_35_method_14_code 177 = .ok (.bastore, 1) := by decide +kernel
theorem d_jdk_35_method_14_178 : decode jdk_35_method_14_code 178 = .ok (.iload 8, 2) := by decide +kernel
theorem d_jdk_35_method_14_180 : decode jdk_35_method_14_code 180 = .ok (.ifCond .eq 12, 3) := by decide +kernel
theorem d_jdk_35_method_14_192 : decode jdk_35_method_14_code 192 = .ok (.iload 7, 2) := by decide +kernel
theorem d_jdk_35_method_14_194 : decode jdk_35_method_14_code 194 = .ok (.ireturn, 1) := by decide +kernel
theorem d_jdk_35_method_14_93 : decode jdk_35_method_14_code 93 = .ok (.iload 10, 2) := by decide +kernel
theorem d_jdk_35_method_14_95 : decode jdk_35_method_14_code 95 = .ok (.bipush 100, 2) := by decide +kernel
theorem d_jdk_35_method_14_97 : decode jdk_35_method_14_code 97 = .ok (.idiv, 1) := by decide +kernel
theorem d_jdk_35_method_14_98 : decode jdk_35_method_14_code 98 = .ok (.istore 9, 2) := by decide +kernel
theorem d_jdk_35_method_14_100 : decode jdk_35_method_14_code 100 = .ok (.iload 9, 2) := by decide +kernel
theorem d_jdk_35_method_14_102 : decode jdk_35_method_14_code 102 = .ok (.bipush 100, 2) := by decide +kernel
theorem d_jdk_35_method_14_104 : decode jdk_35_method_14_code 104 = .ok (.imul, 1) := by decide +kernel
theorem d_jdk_35_method_14_105 : decode jdk_35_method_14_code 105 = .ok (.iload 10, 2) := by decide +kernel
theorem d_jdk_35_method_14_107 : decode jdk_35_method_14_code 107 = .ok (.isub, 1) := by decide +kernel
theorem d_jdk_35_method_14_108 : decode jdk_35_method_14_code 108 = .ok (.istore 6, 2) := by decide +kernel
theorem d_jdk_35_method_14_110 : decode jdk_35_method_14_code 110 = .ok (.iload 9, 2) := by decide +kernel
theorem d_jdk_35_method_14_112 : decode jdk_35_method_14_code 112 = .ok (.istore 10, 2) := by decide +kernel
theorem d_jdk_35_method_14_114 : decode jdk_35_method_14_code 114 = .ok (.aload_n 3, 1) := by decide +kernel
theorem d_jdk_35_method_14_115 : decode jdk_35_method_14_code 115 = .ok (.iinc 7 (-1), 3) := by decide +kernel
theorem d_jdk_35_method_14_118 : decode jdk_35_method_14_code 118 = .ok (.iload 7, 2) := by decide +kernel
theorem d_jdk_35_method_14_120 : decode jdk_35_method_14_code 120 = .ok (.getstatic 133, 3) := by decide +kernel
theorem d_jdk_35_method_14_123 : decode jdk_35_method_14_code 123 = .ok (.iload 6, 2) := by decide +kernel
theorem d_jdk_35_method_14_125 : decode jdk_35_method_14_code 125 = .ok (.baload, 1) := by decide +kernel
theorem d_jdk_35_method_14_126 : decode jdk_35_method_14_code 126 = .ok (.bastore, 1) := by decide +kernel
theorem d_jdk_35_method_14_127 : decode jdk_35_method_14_code 127 = .ok (.aload_n 3, 1) := by decide +kernel
theorem d_jdk_35_method_14_128 : decode jdk_35_method_14_code 128 = .ok (.iinc 7 (-1), 3) := by decide +kernel
theorem d_jdk_35_method_14_131 : decode jdk_35_method_14_code 131 = .ok (.iload 7, 2) := by decide +kernel
theorem d_jdk_35_method_14_133 : decode jdk_35_method_14_code 133 = .ok (.getstatic 137, 3) := by decide +kernel
theorem d_jdk_35_method_14_136 : decode jdk_35_method_14_code 136 = .ok (.iload 6, 2) := by decide +kernel
theorem d_jdk_35_method_14_138 : decode jdk_35_method_14_code 138 = .ok (.baload, 1) := by decide +kernel
theorem d_jdk_35_method_14_139 : decode jdk_35_method_14_code 139 = .ok (.bastore, 1) := by decide +kernel
theorem d_jdk_35_method_14_140 : decode jdk_35_method_14_code 140 = .ok (.goto (-54), 3) := by decide +kernel
theorem d_jdk_35_method_14_0 : decode jdk_35_method_14_code 0 = .ok (.iload_n 2, 1) := by decide +kernel
theorem d_jdk_35_method_14_1 : decode jdk_35_method_14_code 1 = .ok (.istore 7, 2) := by decide +kernel
theorem d_jdk_35_method_14_3 : decode jdk_35_method_14_code 3 = .ok (.lload_n 0, 1) := by decide +kernel
theorem d_jdk_35_method_14_4 : decode jdk_35_method_14_code 4 = .ok (.lconst 0, 1) := by decide +kernel
theorem d_jdk_35_method_14_5 : decode jdk_35_method_14_code 5 = .ok (.lcmp, 1) := by decide +kernel
theorem d_jdk_35_method_14_6 : decode jdk_35_method_14_code 6 = .ok (.ifCond .ge 7, 3) := by decide +kernel
theorem d_jdk_35_method_14_13 : decode jdk_35_method_14_code 13 = .ok (.iconst 0, 1) := by decide +kernel
theorem d_jdk_35_method_14_14 : decode jdk_35_method_14_code 14 = .ok (.istore 8, 2) := by decide +kernel
theorem d_jdk_35_method_14_16 : decode jdk_35_method_14_code 16 = .ok (.iload 8, 2) := by decide +kernel
theorem d_jdk_35_method_14_18 : decode jdk_35_method_14_code 18 = .ok (.ifCond .ne 6, 3) := by decide +kernel
theorem d_jdk_35_method_14_21 : decode jdk_35_method_14_code 21 = .ok (.lload_n 0, 1) := by decide +kernel
theorem d_jdk_35_method_14_22 : decode jdk_35_method_14_code 22 = .ok (.lneg, 1) := by decide +kernel
theorem d_jdk_35_method_14_23 : decode jdk_35_method_14_code 23 = .ok (.lstore_n 0, 1) := by decide +kernel
theorem d_jdk_35_method_14_24 : decode jdk_35_method_14_code 24 = .ok (.lload_n 0, 1) := by decide +kernel
theorem d_jdk_35_method_14_25 : decode jdk_35_method_14_code 25 = .ok (.ldc2_w 129, 3) := by decide +kernel
theorem d_jdk_35_method_14_28 : decode jdk_35_method_14_code 28 = .ok (.lcmp, 1) := by decide +kernel
theorem d_jdk_35_method_14_29 : decode jdk_35_method_14_code 29 = .ok (.ifCond .gt 53, 3) := by decide +kernel
theorem d_jdk_35_method_14_82 : decode jdk_35_method_14_code 82 = .ok (.lload_n 0, 1) := by decide +kernel
theorem d_jdk_35_method_14_83 : decode jdk_35_method_14_code 83 = .ok (.l2i, 1) := by decide +kernel
theorem d_jdk_35_method_14_84 : decode jdk_35_method_14_code 84 = .ok (.istore 10, 2) := by decide +kernel
theorem d_jdk_68_method_33_0 : decode jdk_68_method_33_code 0 = .ok (.aload_n 0, 1) := by decide +kernel
theorem d_jdk_68_method_33_1 : decode jdk_68_method_33_code 1 = .ok (.getfield 79, 3) := by decide +kernel
theorem d_jdk_68_method_33_4 : decode jdk_68_method_33_code 4 = .ok (.istore_n 3, 1) := by decide +kernel
theorem d_jdk_68_method_33_5 : decode jdk_68_method_33_code 5 = .ok (.iload_n 3, 1) := by decide +kernel
theorem d_jdk_68_method_33_6 : decode jdk_68_method_33_code 6 = .ok (.lload_n 1, 1) := by decide +kernel
theorem d_jdk_68_method_33_7 : decode jdk_68_method_33_code 7 = .ok (.invokestatic 254, 3) := by decide +kernel
theorem d_jdk_68_method_33_10 : decode jdk_68_method_33_code 10 = .ok (.iadd, 1) := by decide +kernel
theorem d_jdk_68_method_33_11 : decode jdk_68_method_33_code 11 = .ok (.istore 4, 2) := by decide +kernel
theorem d_jdk_68_method_33_13 : decode jdk_68_method_33_code 13 = .ok (.aload_n 0, 1) := by decide +kernel
theorem d_jdk_68_method_33_14 : decode jdk_68_method_33_code 14 = .ok (.iload 4, 2) := by decide +kernel
theorem d_jdk_68_method_33_16 : decode jdk_68_method_33_code 16 = .ok (.invokevirtual 100, 3) := by decide +kernel
theorem d_jdk_68_method_33_19 : decode jdk_68_method_33_code 19 = .ok (.aload_n 0, 1) := by decide +kernel
theorem d_jdk_68_method_33_20 : decode jdk_68_method_33_code 20 = .ok (.invokevirtual 83, 3) := by decide +kernel
theorem d_jdk_68_method_33_23 : decode jdk_68_method_33_code 23 = .ok (.ifCond .eq 17, 3) := by decide +kernel
theorem d_jdk_68_method_33_26 : decode jdk_68_method_33_code 26 = .ok (.lload_n 1, 1) := by decide +kernel
theorem d_jdk_68_method_33_27 : decode jdk_68_method_33_code 27 = .ok (.iload 4, 2) := by decide +kernel
theorem d_jdk_68_method_33_29 : decode jdk_68_method_33_code 29 = .ok (.aload_n 0, 1) := by decide +kernel
theorem d_jdk_68_method_33_30 : decode jdk_68_method_33_code 30 = .ok (.getfield 15, 3) := by decide +kernel
theorem d_jdk_68_method_33_33 : decode jdk_68_method_33_code 33 = .ok (.invokestatic 259, 3) := by decide +kernel
theorem d_jdk_68_method_33_36 : decode jdk_68_method_33_code 36 = .ok (.pop, 1) := by decide +kernel
theorem d_jdk_68_method_33_37 : decode jdk_68_method_33_code 37 = .ok (.goto 15, 3) := by decide +kernel
theorem d_jdk_68_method_33_52 : decode jdk_68_method_33_code 52 = .ok (.aload_n 0, 1) := by decide +kernel
theorem d_jdk_68_method_33_53 : decode jdk_68_method_33_code 53 = .ok (.iload 4, 2) := by decide +kernel
theorem d_jdk_68_method_33_55 : decode jdk_68_method_33_code 55 = .ok (.putfield 79, 3) := by decide +kernel
theorem d_jdk_68_method_33_58 : decode jdk_68_method_33_code 58 = .ok (.aload_n 0, 1) := by decide +kernel
theorem d_jdk_68_method_33_59 : decode jdk_68_method_33_code 59 = .ok (.areturn, 1) := by decide +kernel
theorem d_jdk_67_method_16_0 : decode jdk_67_method_16_code 0 = .ok (.aload_n 0, 1) := by decide +kernel
theorem d_jdk_67_method_16_1 : decode jdk_67_method_16_code 1 = .ok (.lload_n 1, 1) := by decide +kernel
theorem d_jdk_67_method_16_2 : decode jdk_67_method_16_code 2 = .ok (.invokespecial 56, 3) := by decide +kernel
theorem d_jdk_67_method_16_5 : decode jdk_67_method_16_code 5 = .ok (.pop, 1) := by decide +kernel
theorem d_jdk_67_method_16_6 : decode jdk_67_method_16_code 6 = .ok (.aload_n 0, 1) := by decide +kernel
theorem d_jdk_67_method_16_7 : decode jdk_67_method_16_code 7 = .ok (.areturn, 1) := by decide +kernel
theorem d_jdk_65_method_131_0 : decode jdk_65_method_131_code 0 = .ok (.iload_n 1, 1) := by decide +kernel
theorem d_jdk_65_method_131_1 : decode jdk_65_method_131_code 1 = .ok (.iload_n 0, 1) := by decide +kernel
theorem d_jdk_65_method_131_2 : decode jdk_65_method_131_code 2 = .ok (.if_icmp .ge 35, 3) := by decide +kernel
theorem d_jdk_65_method_131_37 : decode jdk_65_method_131_code 37 = .ok (.return_, 1) := by decide +kernel
theorem d_jdk_29_method_69_0 : decode jdk_29_method_69_code 0 = .ok (.iload_n 0, 1) := by decide +kernel
theorem d_jdk_29_method_69_1 : decode jdk_29_method_69_code 1 = .ok (.iload_n 1, 1) := by decide +kernel
theorem d_jdk_29_method_69_2 : decode jdk_29_method_69_code 2 = .ok (.if_icmp .gt 7, 3) := by decide +kernel
theorem d_jdk_29_method_69_9 : decode jdk_29_method_69_code 9 = .ok (.iload_n 1, 1) := by decide +kernel
theorem d_jdk_29_method_69_10 : decode jdk_29_method_69_code 10 = .ok (.ireturn, 1) := by decide +kernel
theorem d_jdk_65_method_133_0 : decode jdk_65_method_133_code 0 = .ok (.iload_n 1, 1) := by decide +kernel
theorem d_jdk_65_method_133_1 : decode jdk_65_method_133_code 1 = .ok (.iload_n 2, 1) := by decide +kernel
theorem d_jdk_65_method_133_2 : decode jdk_65_method_133_code 2 = .ok (.invokestatic 343, 3) := by decide +kernel
theorem d_jdk_65_method_133_5 : decode jdk_65_method_133_code 5 = .ok (.iload_n 2, 1) := by decide +kernel
theorem d_jdk_65_method_133_6 : decode jdk_65_method_133_code 6 = .ok (.iload_n 1, 1) := by decide +kernel
theorem d_jdk_65_method_133_7 : decode jdk_65_method_133_code 7 = .ok (.isub, 1) := by decide +kernel
theorem d_jdk_65_method_133_8 : decode jdk_65_method_133_code 8 = .ok (.istore_n 3, 1) := by decide +kernel
theorem d_jdk_65_method_133_9 : decode jdk_65_method_133_code 9 = .ok (.iload_n 3, 1) := by decide +kernel
theorem d_jdk_65_method_133_10 : decode jdk_65_method_133_code 10 = .ok (.newarray .byte, 2) := by decide +kernel
theorem d_jdk_65_method_133_12 : decode jdk_65_method_133_code 12 = .ok (.astore 4, 2) := by decide +kernel
theorem d_jdk_65_method_133_14 : decode jdk_65_method_133_code 14 = .ok (.aload_n 0, 1) := by decide +kernel
theorem d_jdk_65_method_133_15 : decode jdk_65_method_133_code 15 = .ok (.iload_n 1, 1) := by decide +kernel
theorem d_jdk_65_method_133_16 : decode jdk_65_method_133_code 16 = .ok (.aload 4, 2) := by decide +kernel
theorem d_jdk_65_method_133_18 : decode jdk_65_method_133_code 18 = .ok (.iconst 0, 1) := by decide +kernel
theorem d_jdk_65_method_133_19 : decode jdk_65_method_133_code 19 = .ok (.aload_n 0, 1) := by decide +kernel
theorem d_jdk_65_method_133_20 : decode jdk_65_method_133_code 20 = .ok (.arraylength, 1) := by decide +kernel
theorem d_jdk_65_method_133_21 : decode jdk_65_method_133_code 21 = .ok (.iload_n 1, 1) := by decide +kernel
theorem d_jdk_65_method_133_22 : decode jdk_65_method_133_code 22 = .ok (.isub, 1) := by decide +kernel
theorem d_jdk_65_method_133_23 : decode jdk_65_method_133_code 23 = .ok (.iload_n 3, 1) := by decide +kernel
theorem d_jdk_65_method_133_24 : decode jdk_65_method_133_code 24 = .ok (.invokestatic 304, 3) := by decide +kernel
theorem d_jdk_65_method_133_27 : decode jdk_65_method_133_code 27 = .ok (.invokestatic 150, 3) := by decide +kernel
theorem d_jdk_65_method_133_30 : decode jdk_65_method_133_code 30 = .ok (.aload 4, 2) := by decide +kernel
theorem d_jdk_65_method_133_32 : decode jdk_65_method_133_code 32 = .ok (.areturn, 1) := by decide +kernel
theorem d_jdk_65_method_132_0 : decode jdk_65_method_132_code 0 = .ok (.iload_n 1, 1) := by decide +kernel
theorem d_jdk_65_method_132_1 : decode jdk_65_method_132_code 1 = .ok (.ifCond .ne 9, 3) := by decide +kernel
theorem d_jdk_65_method_132_4 : decode jdk_65_method_132_code 4 = .ok (.iload_n 2, 1) := by decide +kernel
theorem d_jdk_65_method_132_5 : decode jdk_65_method_132_code 5 = .ok (.aload_n 0, 1) := by decide +kernel
theorem d_jdk_65_method_132_6 : decode jdk_65_method_132_code 6 = .ok (.arraylength, 1) := by decide +kernel
theorem d_jdk_65_method_132_7 : decode jdk_65_method_132_code 7 = .ok (.if_icmp .eq 10, 3) := by decide +kernel
theorem d_jdk_65_method_132_10 : decode jdk_65_method_132_code 10 = .ok (.aload_n 0, 1) := by decide +kernel
theorem d_jdk_65_method_132_11 : decode jdk_65_method_132_code 11 = .ok (.iload_n 1, 1) := by decide +kernel
theorem d_jdk_65_method_132_12 : decode jdk_65_method_132_code 12 = .ok (.iload_n 2, 1) := by decide +kernel
theorem d_jdk_65_method_132_13 : decode jdk_65_method_132_code 13 = .ok (.invokestatic 339, 3) := by decide +kernel
theorem d_jdk_65_method_132_16 : decode jdk_65_method_132_code 16 = .ok (.areturn, 1) := by decide +kernel
theorem d_jdk_42_method_150_0 : decode jdk_42_method_150_code 0 = .ok (.aload_n 0, 1) := by decide +kernel
theorem d_jdk_42_method_150_1 : decode jdk_42_method_150_code 1 = .ok (.invokespecial 1, 3) := by decide +kernel
theorem d_jdk_42_method_150_4 : decode jdk_42_method_150_code 4 = .ok (.aload_n 1, 1) := by decide +kernel
theorem d_jdk_42_method_150_5 : decode jdk_42_method_150_code 5 = .ok (.invokevirtual 552, 3) := by decide +kernel
theorem d_jdk_42_method_150_8 : decode jdk_42_method_150_code 8 = .ok (.astore_n 3, 1) := by decide +kernel
theorem d_jdk_42_method_150_9 : decode jdk_42_method_150_code 9 = .ok (.aload_n 1, 1) := by decide +kernel
theorem d_jdk_42_method_150_10 : decode jdk_42_method_150_code 10 = .ok (.invokevirtual 549, 3) := by decide +kernel
theorem d_jdk_42_method_150_13 : decode jdk_42_method_150_code 13 = .ok (.istore 4, 2) := by decide +kernel
theorem d_jdk_42_method_150_15 : decode jdk_42_method_150_code 15 = .ok (.aload_n 1, 1) := by decide +kernel
theorem d_jdk_42_method_150_16 : decode jdk_42_method_150_code 16 = .ok (.invokevirtual 1047, 3) := by decide +kernel
theorem d_jdk_42_method_150_19 : decode jdk_42_method_150_code 19 = .ok (.ifCond .eq 22, 3) := by decide +kernel
theorem d_jdk_42_method_150_22 : decode jdk_42_method_150_code 22 = .ok (.aload_n 0, 1) := by decide +kernel
theorem d_jdk_42_method_150_23 : decode jdk_42_method_150_code 23 = .ok (.iconst 0, 1) := by decide +kernel
theorem d_jdk_42_method_150_24 : decode jdk_42_method_150_code 24 = .ok (.putfield 15, 3) := by decide +kernel
theorem d_jdk_42_method_150_27 : decode jdk_42_method_150_code 27 = .ok (.aload_n 0, 1) := by decide +kernel
theorem d_jdk_42_method_150_28 : decode jdk_42_method_150_code 28 = .ok (.aload_n 3, 1) := by decide +kernel
theorem d_jdk_42_method_150_29 : decode jdk_42_method_150_code 29 = .ok (.iconst 0, 1) := by decide +kernel
theorem d_jdk_42_method_150_30 : decode jdk_42_method_150_code 30 = .ok (.iload 4, 2) := by decide +kernel
theorem d_jdk_42_method_150_32 : decode jdk_42_method_150_code 32 = .ok (.invokestatic 54, 3) := by decide +kernel
theorem d_jdk_42_method_150_35 : decode jdk_42_method_150_code 35 = .ok (.putfield 9, 3) := by decide +kernel
theorem d_jdk_42_method_150_38 : decode jdk_42_method_150_code 38 = .ok (.goto 59, 3) := by decide +kernel
theorem d_jdk_42_method_150_97 : decode jdk_42_method_150_code 97 = .ok (.return_, 1) := by decide +kernel
theorem d_jdk_42_method_53_0 : decode jdk_42_method_53_code 0 = .ok (.aload_n 0, 1) := by decide +kernel
theorem d_jdk_42_method_53_1 : decode jdk_42_method_53_code 1 = .ok (.aload_n 1, 1) := by decide +kernel
theorem d_jdk_42_method_53_2 : decode jdk_42_method_53_code 2 = .ok (.aconst_null, 1) := by decide +kernel
theorem d_jdk_42_method_53_3 : decode jdk_42_method_53_code 3 = .ok (.invokespecial 489, 3) := by decide +kernel
theorem d_jdk_42_method_53_6 : decode jdk_42_method_53_code 6 = .ok (.return_, 1) := by decide +kernel
theorem d_jdk_67_method_42_0 : decode jdk_67_method_42_code 0 = .ok (.new 18, 3) := by decide +kernel
theorem d_jdk_67_method_42_3 : decode jdk_67_method_42_code 3 = .ok (.dup, 1) := by decide +kernel
theorem d_jdk_67_method_42_4 : decode jdk_67_method_42_code 4 = .ok (.aload_n 0, 1) := by decide +kernel
theorem d_jdk_67_method_42_5 : decode jdk_67_method_42_code 5 = .ok (.invokespecial 137, 3) := by decide +kernel
theorem d_jdk_67_method_42_8 : decode jdk_67_method_42_code 8 = .ok (.areturn, 1) := by decide +kernel
theorem d_jdk_68_method_2_0 : decode jdk_68_method_2_code 0 = .ok (.aload_n 0, 1) := by decide +kernel
theorem d_jdk_68_method_2_1 : decode jdk_68_method_2_code 1 = .ok (.invokespecial 3, 3) := by decide +kernel
theorem d_jdk_68_method_2_4 : decode jdk_68_method_2_code 4 = .ok (.getstatic 18, 3) := by decide +kernel
theorem d_jdk_68_method_2_7 : decode jdk_68_method_2_code 7 = .ok (.ifCond .eq 18, 3) := by decide +kernel
theorem d_jdk_68_method_2_10 : decode jdk_68_method_2_code 10 = .ok (.aload_n 0, 1) := by decide +kernel
theorem d_jdk_68_method_2_11 : decode jdk_68_method_2_code 11 = .ok (.iload_n 1, 1) := by decide +kernel
theorem d_jdk_68_method_2_12 : decode jdk_68_method_2_code 12 = .ok (.newarray .byte, 2) := by decide +kernel
theorem d_jdk_68_method_2_14 : decode jdk_68_method_2_code 14 = .ok (.putfield 15, 3) := by decide +kernel
theorem d_jdk_68_method_2_17 : decode jdk_68_method_2_code 17 = .ok (.aload_n 0, 1) := by decide +kernel
theorem d_jdk_68_method_2_18 : decode jdk_68_method_2_code 18 = .ok (.iconst 0, 1) := by decide +kernel
theorem d_jdk_68_method_2_19 : decode jdk_68_method_2_code 19 = .ok (.putfield 22, 3) := by decide +kernel
theorem d_jdk_68_method_2_22 : decode jdk_68_method_2_code 22 = .ok (.goto 16, 3) := by decide +kernel
theorem d_jdk_68_method_2_38 : decode jdk_68_method_2_code 38 = .ok (.return_, 1) := by decide +kernel
theorem d_jdk_67_method_1_0 : decode jdk_67_method_1_code 0 = .ok (.aload_n 0, 1) := by decide +kernel
theorem d_jdk_67_method_1_1 : decode jdk_67_method_1_code 1 = .ok (.bipush 16, 2) := by decide +kernel
theorem d_jdk_67_method_1_3 : decode jdk_67_method_1_code 3 = .ok (.invokespecial 1, 3) := by decide +kernel
theorem d_jdk_67_method_1_6 : decode jdk_67_method_1_code 6 = .ok (.return_, 1) := by decide +kernel
theorem d_jdk_42_method_154_0 : decode jdk_42_method_154_code 0 = .ok (.getstatic 38, 3) := by decide +kernel
theorem d_jdk_42_method_154_3 : decode jdk_42_method_154_code 3 = .ok (.ifCond .eq 14, 3) := by decide +kernel
theorem d_jdk_42_method_154_6 : decode jdk_42_method_154_code 6 = .ok (.aload_n 0, 1) := by decide +kernel
theorem d_jdk_42_method_154_7 : decode jdk_42_method_154_code 7 = .ok (.getfield 15, 3) := by decide +kernel
theorem d_jdk_42_method_154_10 : decode jdk_42_method_154_code 10 = .ok (.ifCond .ne 7, 3) := by decide +kernel
theorem d_jdk_42_method_154_13 : decode jdk_42_method_154_code 13 = .ok (.iconst 1, 1) := by decide +kernel
theorem d_jdk_42_method_154_14 : decode jdk_42_method_154_code 14 = .ok (.goto 4, 3) := by decide +kernel
theorem d_jdk_42_method_154_18 : decode jdk_42_method_154_code 18 = .ok (.ireturn, 1) := by decide +kernel
theorem d_jdk_41_method_11_0 : decode jdk_41_method_11_code 0 = .ok (.iload_n 0, 1) := by decide +kernel
theorem d_jdk_41_method_11_1 : decode jdk_41_method_11_code 1 = .ok (.ifCond .lt 8, 3) := by decide +kernel
theorem d_jdk_41_method_11_4 : decode jdk_41_method_11_code 4 = .ok (.iload_n 0, 1) := by decide +kernel
theorem d_jdk_41_method_11_5 : decode jdk_41_method_11_code 5 = .ok (.iload_n 1, 1) := by decide +kernel
theorem d_jdk_41_method_11_6 : decode jdk_41_method_11_code 6 = .ok (.if_icmp .lt 10, 3) := by decide +kernel
theorem d_jdk_41_method_11_16 : decode jdk_41_method_11_code 16 = .ok (.iload_n 0, 1) := by decide +kernel
theorem d_jdk_41_method_11_17 : decode jdk_41_method_11_code 17 = .ok (.ireturn, 1) := by decide +kernel
theorem d_jdk_42_method_155_0 : decode jdk_42_method_155_code 0 = .ok (.iload_n 0, 1) := by decide +kernel
theorem d_jdk_42_method_155_1 : decode jdk_42_method_155_code 1 = .ok (.iload_n 1, 1) := by decide +kernel
theorem d_jdk_42_method_155_2 : decode jdk_42_method_155_code 2 = .ok (.getstatic 1053, 3) := by decide +kernel
theorem d_jdk_42_method_155_5 : decode jdk_42_method_155_code 5 = .ok (.invokestatic 1059, 3) := by decide +kernel
theorem d_jdk_42_method_155_8 : decode jdk_42_method_155_code 8 = .ok (.pop, 1) := by decide +kernel
theorem d_jdk_42_method_155_9 : decode jdk_42_method_155_code 9 = .ok (.return_, 1) := by decide +kernel
theorem d_jdk_43_method_2_0 : decode jdk_43_method_2_code 0 = .ok (.iload_n 1, 1) := by decide +kernel
theorem d_jdk_43_method_2_1 : decode jdk_43_method_2_code 1 = .ok (.aload_n 0, 1) := by decide +kernel
theorem d_jdk_43_method_2_2 : decode jdk_43_method_2_code 2 = .ok (.arraylength, 1) := by decide +kernel
theorem d_jdk_43_method_2_3 : decode jdk_43_method_2_code 3 = .ok (.invokestatic 9, 3) := by decide +kernel
theorem d_jdk_43_method_2_6 : decode jdk_43_method_2_code 6 = .ok (.aload_n 0, 1) := by decide +kernel
theorem d_jdk_43_method_2_7 : decode jdk_43_method_2_code 7 = .ok (.iload_n 1, 1) := by decide +kernel
theorem d_jdk_43_method_2_8 : decode jdk_43_method_2_code 8 = .ok (.baload, 1) := by decide +kernel
theorem d_jdk_43_method_2_9 : decode jdk_43_method_2_code 9 = .ok (.sipush 255, 3) := by decide +kernel
theorem d_jdk_43_method_2_12 : decode jdk_43_method_2_code 12 = .ok (.iand, 1) := by decide +kernel
theorem d_jdk_43_method_2_13 : decode jdk_43_method_2_code 13 = .ok (.i2c, 1) := by decide +kernel
theorem d_jdk_43_method_2_14 : decode jdk_43_method_2_code 14 = .ok (.ireturn, 1) := by decide +kernel
theorem d_jdk_42_method_56_0 : decode jdk_42_method_56_code 0 = .ok (.aload_n 0, 1) := by decide +kernel
theorem d_jdk_42_method_56_1 : decode jdk_42_method_56_code 1 = .ok (.invokevirtual 492, 3) := by decide +kernel
theorem d_jdk_42_method_56_4 : decode jdk_42_method_56_code 4 = .ok (.ifCond .eq 12, 3) := by decide +kernel
theorem d_jdk_42_method_56_7 : decode jdk_42_method_56_code 7 = .ok (.aload_n 0, 1) := by decide +kernel
theorem d_jdk_42_method_56_8 : decode jdk_42_method_56_code 8 = .ok (.getfield 9, 3) := by decide +kernel
theorem d_jdk_42_method_56_11 : decode jdk_42_method_56_code 11 = .ok (.iload_n 1, 1) := by decide +kernel
theorem d_jdk_42_method_56_12 : decode jdk_42_method_56_code 12 = .ok (.invokestatic 495, 3) := by decide +kernel
theorem d_jdk_42_method_56_15 : decode jdk_42_method_56_code 15 = .ok (.ireturn, 1) := by decide +kernel
theorem d_method_3_0 : decode method_3_code 0 = .ok (.lload_n 2, 1) := by decide +kernel
theorem d_method_3_1 : decode method_3_code 1 = .ok (.lconst 0, 1) := by decide +kernel
theorem d_method_3_2 : decode method_3_code 2 = .ok (.lcmp, 1) := by decide +kernel
theorem d_method_3_3 : decode method_3_code 3 = .ok (.ifCond .ge 7, 3) := by decide +kernel
theorem d_method_3_10 : decode method_3_code 10 = .ok (.iload_n 1, 1) := by decide +kernel
theorem d_method_3_11 : decode method_3_code 11 = .ok (.aload_n 0, 1) := by decide +kernel
theorem d_method_3_12 : decode method_3_code 12 = .ok (.invokevirtual 26, 3) := by decide +kernel
theorem d_method_3_15 : decode method_3_code 15 = .ok (.if_icmp .lt 5, 3) := by decide +kernel
theorem d_method_3_20 : decode method_3_code 20 = .ok (.aload_n 0, 1) := by decide +kernel
theorem d_method_3_21 : decode method_3_code 21 = .ok (.iload_n 1, 1) := by decide +kernel
theorem d_method_3_22 : decode method_3_code 22 = .ok (.invokevirtual 32, 3) := by decide +kernel
theorem d_method_3_25 : decode method_3_code 25 = .ok (.istore 4, 2) := by decide +kernel
theorem d_method_3_27 : decode method_3_code 27 = .ok (.iload 4, 2) := by decide +kernel
theorem d_method_3_29 : decode method_3_code 29 = .ok (.bipush 48, 2) := by decide +kernel
theorem d_method_3_31 : decode method_3_code 31 = .ok (.if_icmp .lt 10, 3) := by decide +kernel
theorem d_method_3_34 : decode method_3_code 34 = .ok (.iload 4, 2) := by decide +kernel
theorem d_method_3_36 : decode method_3_code 36 = .ok (.bipush 57, 2) := by decide +kernel
theorem d_method_3_38 : decode method_3_code 38 = .ok (.if_icmp .le 7, 3) := by decide +kernel
theorem d_method_3_45 : decode method_3_code 45 = .ok (.lload_n 2, 1) := by decide +kernel
theorem d_method_3_46 : decode method_3_code 46 = .ok (.ldc2_w 46, 3) := by decide +kernel
theorem d_method_3_49 : decode method_3_code 49 = .ok (.lmul, 1) := by decide +kernel
theorem d_method_3_50 : decode method_3_code 50 = .ok (.iload 4, 2) := by decide +kernel
theorem d_method_3_52 : decode method_3_code 52 = .ok (.bipush 48, 2) := by decide +kernel
theorem d_method_3_54 : decode method_3_code 54 = .ok (.isub, 1) := by decide +kernel
theorem d_method_3_55 : decode method_3_code 55 = .ok (.i2l, 1) := by decide +kernel
theorem d_method_3_56 : decode method_3_code 56 = .ok (.ladd, 1) := by decide +kernel
theorem d_method_3_57 : decode method_3_code 57 = .ok (.lreturn, 1) := by decide +kernel
theorem d_method_3_18 : decode method_3_code 18 = .ok (.lload_n 2, 1) := by decide +kernel
theorem d_method_3_19 : decode method_3_code 19 = .ok (.lreturn, 1) := by decide +kernel
theorem d_prog_6_method_10_0 : decode prog_6_method_10_code 0 = .ok (.new 111, 3) := by decide +kernel
theorem d_prog_6_method_10_3 : decode prog_6_method_10_code 3 = .ok (.dup, 1) := by decide +kernel
theorem d_prog_6_method_10_4 : decode prog_6_method_10_code 4 = .ok (.invokespecial 113, 3) := by decide +kernel
theorem d_prog_6_method_10_7 : decode prog_6_method_10_code 7 = .ok (.ldc 129, 2) := by decide +kernel
theorem d_prog_6_method_10_9 : decode prog_6_method_10_code 9 = .ok (.invokevirtual 116, 3) := by decide +kernel
theorem d_prog_6_method_10_12 : decode prog_6_method_10_code 12 = .ok (.lload_n 0, 1) := by decide +kernel
theorem d_prog_6_method_10_13 : decode prog_6_method_10_code 13 = .ok (.invokevirtual 120, 3) := by decide +kernel
theorem d_prog_6_method_10_16 : decode prog_6_method_10_code 16 = .ok (.invokevirtual 123, 3) := by decide +kernel
theorem d_prog_6_method_10_19 : decode prog_6_method_10_code 19 = .ok (.areturn, 1) := by decide +kernel
theorem d_prog_6_method_5_0 : decode prog_6_method_5_code 0 = .ok (.ldc2_w 107, 3) := by decide +kernel
theorem d_prog_6_method_5_3 : decode prog_6_method_5_code 3 = .ok (.lload_n 1, 1) := by decide +kernel
theorem d_prog_6_method_5_4 : decode prog_6_method_5_code 4 = .ok (.lmul, 1) := by decide +kernel
theorem d_prog_6_method_5_5 : decode prog_6_method_5_code 5 = .ok (.aload_n 0, 1) := by decide +kernel
theorem d_prog_6_method_5_6 : decode prog_6_method_5_code 6 = .ok (.getfield 20, 3) := by decide +kernel
theorem d_prog_6_method_5_9 : decode prog_6_method_5_code 9 = .ok (.lrem, 1) := by decide +kernel
theorem d_prog_6_method_5_10 : decode prog_6_method_5_code 10 = .ok (.invokestatic 80, 3) := by decide +kernel
theorem d_prog_6_method_5_13 : decode prog_6_method_5_code 13 = .ok (.areturn, 1) := by decide +kernel
theorem d_prog_6_method_1_0 : decode prog_6_method_1_code 0 = .ok (.aload_n 0, 1) := by decide +kernel
theorem d_prog_6_method_1_1 : decode prog_6_method_1_code 1 = .ok (.invokespecial 1, 3) := by decide +kernel
theorem d_prog_6_method_1_4 : decode prog_6_method_1_code 4 = .ok (.aload_n 0, 1) := by decide +kernel
theorem d_prog_6_method_1_5 : decode prog_6_method_1_code 5 = .ok (.aload_n 1, 1) := by decide +kernel
theorem d_prog_6_method_1_6 : decode prog_6_method_1_code 6 = .ok (.putfield 7, 3) := by decide +kernel
theorem d_prog_6_method_1_9 : decode prog_6_method_1_code 9 = .ok (.aload_n 0, 1) := by decide +kernel
theorem d_prog_6_method_1_10 : decode prog_6_method_1_code 10 = .ok (.lload_n 2, 1) := by decide +kernel
theorem d_prog_6_method_1_11 : decode prog_6_method_1_code 11 = .ok (.putfield 13, 3) := by decide +kernel
theorem d_prog_6_method_1_14 : decode prog_6_method_1_code 14 = .ok (.aload_n 0, 1) := by decide +kernel
theorem d_prog_6_method_1_15 : decode prog_6_method_1_code 15 = .ok (.lload 4, 2) := by decide +kernel
theorem d_prog_6_method_1_17 : decode prog_6_method_1_code 17 = .ok (.putfield 17, 3) := by decide +kernel
theorem d_prog_6_method_1_20 : decode prog_6_method_1_code 20 = .ok (.aload_n 0, 1) := by decide +kernel
theorem d_prog_6_method_1_21 : decode prog_6_method_1_code 21 = .ok (.lload 6, 2) := by decide +kernel
theorem d_prog_6_method_1_23 : decode prog_6_method_1_code 23 = .ok (.putfield 20, 3) := by decide +kernel
theorem d_prog_6_method_1_26 : decode prog_6_method_1_code 26 = .ok (.aload_n 0, 1) := by decide +kernel
theorem d_prog_6_method_1_27 : decode prog_6_method_1_code 27 = .ok (.lload 8, 2) := by decide +kernel
theorem d_prog_6_method_1_29 : decode prog_6_method_1_code 29 = .ok (.putfield 23, 3) := by decide +kernel
theorem d_prog_6_method_1_32 : decode prog_6_method_1_code 32 = .ok (.aload_n 0, 1) := by decide +kernel
theorem d_prog_6_method_1_33 : decode prog_6_method_1_code 33 = .ok (.lload 10, 2) := by decide +kernel
theorem d_prog_6_method_1_35 : decode prog_6_method_1_code 35 = .ok (.putfield 26, 3) := by decide +kernel
theorem d_prog_6_method_1_38 : decode prog_6_method_1_code 38 = .ok (.aload_n 0, 1) := by decide +kernel
theorem d_prog_6_method_1_39 : decode prog_6_method_1_code 39 = .ok (.iload 12, 2) := by decide +kernel
theorem d_prog_6_method_1_41 : decode prog_6_method_1_code 41 = .ok (.putfield 29, 3) := by decide +kernel
theorem d_prog_6_method_1_44 : decode prog_6_method_1_code 44 = .ok (.return_, 1) := by decide +kernel
theorem pd_0 : parseMethodDescriptor "()B" = some ⟨[], some .byte⟩ := by decide +kernel
theorem pd_1 : parseMethodDescriptor "()I" = some ⟨[], some .int⟩ := by decide +kernel
theorem pd_2 : parseMethodDescriptor "(Ljava/lang/String;)V" = some ⟨[(.object "java/lang/String")], none⟩ := by decide +kernel
theorem pd_3 : parseMethodDescriptor "([BIB)V" = some ⟨[(.array .byte), .int, .byte], none⟩ := by decide +kernel
theorem pd_4 : parseMethodDescriptor "(I)V" = some ⟨[.int], none⟩ := by decide +kernel
theorem pd_5 : parseMethodDescriptor "(ILjava/lang/String;)V" = some ⟨[.int, (.object "java/lang/String")], none⟩ := by decide +kernel
theorem pd_6 : parseMethodDescriptor "(Ljava/lang/String;)Ljava/lang/AbstractStringBuilder;" = some ⟨[(.object "java/lang/String")], some (.object "java/lang/AbstractStringBuilder")⟩ := by decide +kernel
theorem pd_7 : parseMethodDescriptor "(J)I" = some ⟨[.long], some .int⟩ := by decide +kernel
theorem pd_8 : parseMethodDescriptor "()Z" = some ⟨[], some .boolean⟩ := by decide +kernel
theorem pd_9 : parseMethodDescriptor "(JI[B)I" = some ⟨[.long, .int, (.array .byte)], some .int⟩ := by decide +kernel
theorem pd_10 : parseMethodDescriptor "(J)Ljava/lang/AbstractStringBuilder;" = some ⟨[.long], some (.object "java/lang/AbstractStringBuilder")⟩ := by decide +kernel
theorem pd_11 : parseMethodDescriptor "(II)V" = some ⟨[.int, .int], none⟩ := by decide +kernel
theorem pd_12 : parseMethodDescriptor "(II)I" = some ⟨[.int, .int], some .int⟩ := by decide +kernel
theorem pd_13 : parseMethodDescriptor "([BII)[B" = some ⟨[(.array .byte), .int, .int], some (.array .byte)⟩ := by decide +kernel
theorem pd_14 : parseMethodDescriptor "()[B" = some ⟨[], some (.array .byte)⟩ := by decide +kernel
theorem pd_15 : parseMethodDescriptor "(Ljava/lang/AbstractStringBuilder;Ljava/lang/Void;)V" = some ⟨[(.object "java/lang/AbstractStringBuilder"), (.object "java/lang/Void")], none⟩ := by decide +kernel
theorem pd_16 : parseMethodDescriptor "(Ljava/lang/StringBuilder;)V" = some ⟨[(.object "java/lang/StringBuilder")], none⟩ := by decide +kernel
theorem pd_17 : parseMethodDescriptor "(IILjava/util/function/BiFunction;)I" = some ⟨[.int, .int, (.object "java/util/function/BiFunction")], some .int⟩ := by decide +kernel
theorem pd_18 : parseMethodDescriptor "([BI)C" = some ⟨[(.array .byte), .int], some .char⟩ := by decide +kernel
theorem pd_19 : parseMethodDescriptor "(I)C" = some ⟨[.int], some .char⟩ := by decide +kernel
theorem pd_20 : parseMethodDescriptor "()V" = some ⟨[], none⟩ := by decide +kernel
theorem pd_21 : parseMethodDescriptor "(Ljava/lang/String;)Ljava/lang/StringBuilder;" = some ⟨[(.object "java/lang/String")], some (.object "java/lang/StringBuilder")⟩ := by decide +kernel
theorem pd_22 : parseMethodDescriptor "(J)Ljava/lang/StringBuilder;" = some ⟨[.long], some (.object "java/lang/StringBuilder")⟩ := by decide +kernel
theorem pd_23 : parseMethodDescriptor "()Ljava/lang/String;" = some ⟨[], some (.object "java/lang/String")⟩ := by decide +kernel
theorem pd_24 : parseMethodDescriptor "(J)Ljava/lang/String;" = some ⟨[.long], some (.object "java/lang/String")⟩ := by decide +kernel
theorem pd_25 : parseMethodDescriptor "(Ljava/lang/String;JJJJJI)V" = some ⟨[(.object "java/lang/String"), .long, .long, .long, .long, .long, .int], none⟩ := by decide +kernel
theorem pd_26 : parseMethodDescriptor "(Ljava/lang/String;IJ)J" = some ⟨[(.object "java/lang/String"), .int, .long], some .long⟩ := by decide +kernel
/-! numbers -/
def own_len (n : Nat) : Nat := if n < 10 then 1 else if n < 100 then 2 else if n < 1000 then 3 else if n < 10000 then 4 else if n < 100000 then 5 else if n < 1000000 then 6 else if n < 10000000 then 7 else 8
def own_d1 (r : Nat) : Int32 := Int32.ofNat (48 + r % 10)
def own_d10 (r : Nat) : Int32 := Int32.ofNat (48 + r / 10)
/-- what getChars writes, from the place pos downwards -/
def own_gc : Nat → Nat → Nat → List Int32 → List Int32
  | 0, _, _, vs => vs
  | f + 1, m, pos, vs => if m < 100 then (if m < 10 then vs.set (pos - 1) (own_d1 m) else (vs.set (pos - 1) (own_d1 m)).set (pos - 2) (own_d10 m))
    else own_gc f (m / 100) (pos - 2) ((vs.set (pos - 1) (own_d1 (m % 100))).set (pos - 2) (own_d10 (m % 100)))
def own_v0 : List Int32 := [117, 0, 0, 0, 0, 0, 0, 0, 0, 0, 0, 0, 0, 0, 0, 0]
theorem own_gc_s (f m pos : Nat) (vs : List Int32) : own_gc (f + 1) m pos vs = if m < 100 then (if m < 10 then vs.set (pos - 1) (own_d1 m) else (vs.set (pos - 1) (own_d1 m)).set (pos - 2) (own_d10 m))
    else own_gc f (m / 100) (pos - 2) ((vs.set (pos - 1) (own_d1 (m % 100))).set (pos - 2) (own_d10 (m % 100))) := rfl
theorem own_gc_len : ∀ f m pos vs, (own_gc f m pos vs).length = vs.length := by
  intro f
  induction f with
  | zero => intro m pos vs; rfl
  | succ f ih =>
    intro m pos vs
    rw [own_gc_s]
    split
    · split <;> simp
    · rw [ih]; simp
theorem own_len_le (n : Nat) : 1 ≤ own_len n ∧ own_len n ≤ 8 := by
  unfold own_len
  repeat' split
  all_goals omega
/-- the text of n behind its u -/
def own_txt (n : Nat) : List Nat := (List.range (own_len n)).map fun j => n / 10 ^ (own_len n - 1 - j) % 10

theorem own_len1 {n : Nat}  (hhi : n < 10) : own_len n = 1 := by
  unfold own_len
  repeat' split
  all_goals omega
theorem own_gc1 {n : Nat}  (hhi : n < 10) : (own_gc 5 n 2 own_v0).take 2 = [117, Int32.ofNat (48 + n / 1 % 10)] := by
  rw [own_gc_s, if_pos (show n < 100 by omega), if_pos (show n < 10 by omega)]
  simp only [own_v0, List.set_cons_succ, List.set_cons_zero, List.take_succ_cons, List.take_zero, own_d1, own_d10, Nat.reduceSub, Nat.reduceAdd]
  simp only [List.cons.injEq, and_true, true_and]
  exact congrArg Int32.ofNat (by omega)
theorem own_len2 {n : Nat} (hlo : 10 ≤ n) (hhi : n < 100) : own_len n = 2 := by
  unfold own_len
  repeat' split
  all_goals omega
theorem own_gc2 {n : Nat} (hlo : 10 ≤ n) (hhi : n < 100) : (own_gc 5 n 3 own_v0).take 3 = [117, Int32.ofNat (48 + n / 10 % 10), Int32.ofNat (48 + n / 1 % 10)] := by
  rw [own_gc_s, if_pos (show n < 100 by omega), if_neg (show ¬ n < 10 by omega)]
  simp only [own_v0, List.set_cons_succ, List.set_cons_zero, List.take_succ_cons, List.take_zero, own_d1, own_d10, Nat.reduceSub, Nat.reduceAdd]
  simp only [List.cons.injEq, and_true, true_and]
  repeat' apply And.intro
  all_goals first | rfl | exact congrArg Int32.ofNat (by omega)
theorem own_len3 {n : Nat} (hlo : 100 ≤ n) (hhi : n < 1000) : own_len n = 3 := by
  unfold own_len
  repeat' split
  all_goals omega
theorem own_gc3 {n : Nat} (hlo : 100 ≤ n) (hhi : n < 1000) : (own_gc 5 n 4 own_v0).take 4 = [117, Int32.ofNat (48 + n / 100 % 10), Int32.ofNat (48 + n / 10 % 10), Int32.ofNat (48 + n / 1 % 10)] := by
  rw [own_gc_s, if_neg (show ¬ n < 100 by omega)]
  rw [own_gc_s, if_pos (show n / 100 < 100 by omega), if_pos (show n / 100 < 10 by omega)]
  simp only [own_v0, List.set_cons_succ, List.set_cons_zero, List.take_succ_cons, List.take_zero, own_d1, own_d10, Nat.reduceSub, Nat.reduceAdd]
  simp only [List.cons.injEq, and_true, true_and]
  repeat' apply And.intro
  all_goals first | rfl | exact congrArg Int32.ofNat (by omega)
theorem own_len4 {n : Nat} (hlo : 1000 ≤ n) (hhi : n < 10000) : own_len n = 4 := by
  unfold own_len
  repeat' split
  all_goals omega
theorem own_gc4 {n : Nat} (hlo : 1000 ≤ n) (hhi : n < 10000) : (own_gc 5 n 5 own_v0).take 5 = [117, Int32.ofNat (48 + n / 1000 % 10), Int32.ofNat (48 + n / 100 % 10), Int32.ofNat (48 + n / 10 % 10), Int32.ofNat (48 + n / 1 % 10)] := by
  rw [own_gc_s, if_neg (show ¬ n < 100 by omega)]
  rw [own_gc_s, if_pos (show n / 100 < 100 by omega), if_neg (show ¬ n / 100 < 10 by omega)]
  simp only [own_v0, List.set_cons_succ, List.set_cons_zero, List.take_succ_cons, List.take_zero, own_d1, own_d10, Nat.reduceSub, Nat.reduceAdd]
  simp only [List.cons.injEq, and_true, true_and]
  repeat' apply And.intro
  all_goals first | rfl | exact congrArg Int32.ofNat (by omega)
theorem own_len5 {n : Nat} (hlo : 10000 ≤ n) (hhi : n < 100000) : own_len n = 5 := by
  unfold own_len
  repeat' split
  all_goals omega
theorem own_gc5 {n : Nat} (hlo : 10000 ≤ n) (hhi : n < 100000) : (own_gc 5 n 6 own_v0).take 6 = [117, Int32.ofNat (48 + n / 10000 % 10), Int32.ofNat (48 + n / 1000 % 10), Int32.ofNat (48 + n / 100 % 10), Int32.ofNat (48 + n / 10 % 10), Int32.ofNat (48 + n / 1 % 10)] := by
  rw [own_gc_s, if_neg (show ¬ n < 100 by omega)]
  rw [own_gc_s, if_neg (show ¬ n / 100 < 100 by omega)]
  rw [own_gc_s, if_pos (show n / 100 / 100 < 100 by omega), if_pos (show n / 100 / 100 < 10 by omega)]
  simp only [own_v0, List.set_cons_succ, List.set_cons_zero, List.take_succ_cons, List.take_zero, own_d1, own_d10, Nat.reduceSub, Nat.reduceAdd]
  simp only [List.cons.injEq, and_true, true_and]
  repeat' apply And.intro
  all_goals first | rfl | exact congrArg Int32.ofNat (by omega)
theorem own_len6 {n : Nat} (hlo : 100000 ≤ n) (hhi : n < 1000000) : own_len n = 6 := by
  unfold own_len
  repeat' split
  all_goals omega
theorem own_gc6 {n : Nat} (hlo : 100000 ≤ n) (hhi : n < 1000000) : (own_gc 5 n 7 own_v0).take 7 = [117, Int32.ofNat (48 + n / 100000 % 10), Int32.ofNat (48 + n / 10000 % 10), Int32.ofNat (48 + n / 1000 % 10), Int32.ofNat (48 + n / 100 % 10), Int32.ofNat (48 + n / 10 % 10), Int32.ofNat (48 + n / 1 % 10)] := by
  rw [own_gc_s, if_neg (show ¬ n < 100 by omega)]
  rw [own_gc_s, if_neg (show ¬ n / 100 < 100 by omega)]
  rw [own_gc_s, if_pos (show n / 100 / 100 < 100 by omega), if_neg (show ¬ n / 100 / 100 < 10 by omega)]
  simp only [own_v0, List.set_cons_succ, List.set_cons_zero, List.take_succ_cons, List.take_zero, own_d1, own_d10, Nat.reduceSub, Nat.reduceAdd]
  simp only [List.cons.injEq, and_true, true_and]
  repeat' apply And.intro
  all_goals first | rfl | exact congrArg Int32.ofNat (by omega)
theorem own_len7 {n : Nat} (hlo : 1000000 ≤ n) (hhi : n < 10000000) : own_len n = 7 := by
  unfold own_len
  repeat' split
  all_goals omega
theorem own_gc7 {n : Nat} (hlo : 1000000 ≤ n) (hhi : n < 10000000) : (own_gc 5 n 8 own_v0).take 8 = [117, Int32.ofNat (48 + n / 1000000 % 10), Int32.ofNat (48 + n / 100000 % 10), Int32.ofNat (48 + n / 10000 % 10), Int32.ofNat (48 + n / 1000 % 10), Int32.ofNat (48 + n / 100 % 10), Int32.ofNat (48 + n / 10 % 10), Int32.ofNat (48 + n / 1 % 10)] := by
  rw [own_gc_s, if_neg (show ¬ n < 100 by omega)]
  rw [own_gc_s, if_neg (show ¬ n / 100 < 100 by omega)]
  rw [own_gc_s, if_neg (show ¬ n / 100 / 100 < 100 by omega)]
  rw [own_gc_s, if_pos (show n / 100 / 100 / 100 < 100 by omega), if_pos (show n / 100 / 100 / 100 < 10 by omega)]
  simp only [own_v0, List.set_cons_succ, List.set_cons_zero, List.take_succ_cons, List.take_zero, own_d1, own_d10, Nat.reduceSub, Nat.reduceAdd]
  simp only [List.cons.injEq, and_true, true_and]
  repeat' apply And.intro
  all_goals first | rfl | exact congrArg Int32.ofNat (by omega)
theorem own_len8 {n : Nat} (hlo : 10000000 ≤ n) (hhi : n < 100000000) : own_len n = 8 := by
  unfold own_len
  repeat' split
  all_goals omega
theorem own_gc8 {n : Nat} (hlo : 10000000 ≤ n) (hhi : n < 100000000) : (own_gc 5 n 9 own_v0).take 9 = [117, Int32.ofNat (48 + n / 10000000 % 10), Int32.ofNat (48 + n / 1000000 % 10), Int32.ofNat (48 + n / 100000 % 10), Int32.ofNat (48 + n / 10000 % 10), Int32.ofNat (48 + n / 1000 % 10), Int32.ofNat (48 + n / 100 % 10), Int32.ofNat (48 + n / 10 % 10), Int32.ofNat (48 + n / 1 % 10)] := by
  rw [own_gc_s, if_neg (show ¬ n < 100 by omega)]
  rw [own_gc_s, if_neg (show ¬ n / 100 < 100 by omega)]
  rw [own_gc_s, if_neg (show ¬ n / 100 / 100 < 100 by omega)]
  rw [own_gc_s, if_pos (show n / 100 / 100 / 100 < 100 by omega), if_neg (show ¬ n / 100 / 100 / 100 < 10 by omega)]
  simp only [own_v0, List.set_cons_succ, List.set_cons_zero, List.take_succ_cons, List.take_zero, own_d1, own_d10, Nat.reduceSub, Nat.reduceAdd]
  simp only [List.cons.injEq, and_true, true_and]
  repeat' apply And.intro
  all_goals first | rfl | exact congrArg Int32.ofNat (by omega)

theorem own_lo {a : Nat} (ha : a < 2 ^ 63) : (Int64.ofNat a).toInt = a := Int64.toInt_ofNat_of_lt ha
theorem own_le {a b : Nat} (ha : a < 2 ^ 63) (hb : b < 2 ^ 63) : Int64.ofNat a = Int64.ofNat b ↔ a = b := by
  rw [← Int64.toInt_inj, own_lo ha, own_lo hb]; omega
theorem own_ll {a b : Nat} (ha : a < 2 ^ 63) (hb : b < 2 ^ 63) : Int64.ofNat a < Int64.ofNat b ↔ a < b := by
  rw [Int64.lt_iff_toInt_lt, own_lo ha, own_lo hb]; omega
theorem own_lmul (a b : Nat) : Int64.ofNat a * Int64.ofNat b = Int64.ofNat (a * b) := (Int64.ofNat_mul a b).symm
theorem own_ladd (a b : Nat) : Int64.ofNat a + Int64.ofNat b = Int64.ofNat (a + b) := (Int64.ofNat_add a b).symm
theorem own_lsub {a b : Nat} (h : b ≤ a) : Int64.ofNat a - Int64.ofNat b = Int64.ofNat (a - b) := by
  have e := own_ladd (a - b) b
  rw [Nat.sub_add_cancel h] at e
  rw [← e]; exact Int64.add_sub_cancel _ _
theorem own_ldiv {a b : Nat} (ha : a < 2 ^ 63) (hb : b < 2 ^ 63) : Int64.ofNat a / Int64.ofNat b = Int64.ofNat (a / b) := by
  apply Int64.toInt_inj.mp
  have hd : a / b < 2 ^ 63 := Nat.lt_of_le_of_lt (Nat.div_le_self _ _) ha
  have hne : Int64.ofNat b ≠ -1 := fun h => by
    have := congrArg Int64.toInt h
    rw [own_lo hb, show (-1 : Int64).toInt = -1 from rfl] at this
    omega
  rw [Int64.toInt_div_of_ne_right _ _ hne, own_lo ha, own_lo hb, own_lo hd, Int.tdiv_eq_ediv_of_nonneg (by omega)]
  rfl
theorem own_lrem {a b : Nat} (ha : a < 2 ^ 63) (hb : b < 2 ^ 63) : Int64.ofNat a - Int64.ofNat a / Int64.ofNat b * Int64.ofNat b = Int64.ofNat (a % b) := by
  have h : a / b * b ≤ a := Nat.div_mul_le_self a b
  rw [own_ldiv ha hb, own_lmul, own_lsub h]
  congr 1
  have := Nat.div_add_mod a b
  have e : a / b * b = b * (a / b) := Nat.mul_comm _ _
  omega
theorem own_lmask (x m : Int64) (k : Nat) (hm : m.toBitVec.toNat = 2 ^ k - 1) : ∃ c : Nat, c < 2 ^ k ∧ x &&& m = Int64.ofNat c := by
  refine ⟨(x &&& m).toBitVec.toNat, ?_, ?_⟩
  · have h : (x &&& m).toBitVec.toNat = x.toBitVec.toNat &&& m.toBitVec.toNat := by simp [Int64.toBitVec_and, BitVec.toNat_and]
    rw [h, hm]
    have h1 : x.toBitVec.toNat &&& (2 ^ k - 1) ≤ 2 ^ k - 1 := Nat.and_le_right
    have h2 : 0 < 2 ^ k := Nat.two_pow_pos k
    omega
  · apply Int64.toBitVec_inj.mp
    simp
theorem own_m24 (x : Int64) : ∃ c : Nat, c < 2 ^ 24 ∧ x &&& 16777215 = Int64.ofNat c := own_lmask x 16777215 24 (by decide)
theorem own_m62 (x : Int64) : ∃ c : Nat, c < 2 ^ 62 ∧ x &&& 4611686018427387903 = Int64.ofNat c := own_lmask x 4611686018427387903 62 (by decide)
theorem own_m63 (x : Int64) : ∃ c : Nat, c < 2 ^ 63 ∧ x &&& 9223372036854775807 = Int64.ofNat c := own_lmask x 9223372036854775807 63 (by decide)
theorem own_q (x : Int64) : ∃ q : Nat, q < 2000 ∧ (x &&& 9223372036854775807) - (x &&& 9223372036854775807) / 2000 * 2000 = Int64.ofNat q := by
  obtain ⟨c, hc, e⟩ := own_m63 x
  rw [e]
  refine ⟨c % 2000, Nat.mod_lt _ (by decide), ?_⟩
  exact own_lrem (b := 2000) hc (by decide)
theorem own_mod_sub (t u : Nat) : (t - t % u) % u = 0 := by
  have h := Nat.div_add_mod t u
  have e : t - t % u = u * (t / u) := by omega
  rw [e]; exact Nat.mul_mod_right _ _
theorem own_shr0 (x : Int32) : x >>> ((0 : Int32) &&& 31) = x := by
  apply Int32.toInt_inj.mp
  simp
theorem own_shl0 (x : Int32) : x <<< ((0 : Int32) &&& 31) = x := by
  apply Int32.toInt_inj.mp
  simp
/-- minus a small number -/
def own_ng (m : Nat) : Int32 := -(Int32.ofNat m)
def own_nl (m : Nat) : Int64 := -(Int64.ofNat m)
theorem own_o32 {a : Nat} (ha : a < 2 ^ 31) : (Int32.ofNat a).toInt = a := Int32.toInt_ofNat_of_lt ha
theorem own_ng_i {m : Nat} (h : m < 2 ^ 31) : (own_ng m).toInt = -(m : Int) := by
  unfold own_ng
  rw [Int32.toInt_neg, own_o32 h, Int.bmod_eq_of_le (by omega) (by omega)]
theorem own_nl_i {m : Nat} (h : m < 2 ^ 63) : (own_nl m).toInt = -(m : Int) := by
  unfold own_nl
  rw [Int64.toInt_neg, own_lo h, Int.bmod_eq_of_le (by omega) (by omega)]
theorem own_nll {a b : Nat} (ha : a < 2 ^ 63) (hb : b < 2 ^ 63) : own_nl a < own_nl b ↔ b < a := by
  rw [Int64.lt_iff_toInt_lt, own_nl_i ha, own_nl_i hb]; omega
theorem own_ngl {a b : Nat} (ha : a < 2 ^ 31) (hb : b < 2 ^ 31) : own_ng a < own_ng b ↔ b < a := by
  rw [Int32.lt_iff_toInt_lt, own_ng_i ha, own_ng_i hb]; omega
theorem own_l2i {m : Nat} (h : m < 2 ^ 31) : (own_nl m).toInt32 = own_ng m := by
  apply Int32.toInt_inj.mp
  rw [Int64.toInt_toInt32, own_nl_i (by omega), own_ng_i h, Int.bmod_eq_of_le (by omega) (by omega)]
theorem own_ngdiv {m : Nat} (h : m < 2 ^ 31) : own_ng m / 100 = own_ng (m / 100) := by
  apply Int32.toInt_inj.mp
  have hd : m / 100 < 2 ^ 31 := by omega
  rw [Int32.toInt_div_of_ne_right _ _ (by decide), own_ng_i h, own_ng_i hd, show (100 : Int32).toInt = 100 from rfl, Int.neg_tdiv, Int.tdiv_eq_ediv_of_nonneg (by omega)]
  omega
theorem own_ngrem {m : Nat} (h : m < 2 ^ 31) : own_ng (m / 100) * 100 - own_ng m = Int32.ofNat (m % 100) := by
  apply Int32.toInt_inj.mp
  have hd : m / 100 < 2 ^ 31 := by omega
  have e1 : (own_ng (m / 100) * 100).toInt = -((m / 100 * 100 : Nat) : Int) := by
    rw [Int32.toInt_mul, own_ng_i hd, show (100 : Int32).toInt = 100 from rfl, Int.bmod_eq_of_le (by omega) (by omega)]; omega
  rw [Int32.toInt_sub, e1, own_ng_i h, own_o32 (by omega), Int.bmod_eq_of_le (by omega) (by omega)]; omega
theorem own_ngneg (m : Nat) : -(own_ng m) = Int32.ofNat m := by unfold own_ng; exact Int32.neg_neg


theorem own_oadd (a b : Nat) : Int32.ofNat a + Int32.ofNat b = Int32.ofNat (a + b) := (Int32.ofNat_add a b).symm
theorem own_osub {a b : Nat} (h : b ≤ a) : Int32.ofNat a - Int32.ofNat b = Int32.ofNat (a - b) := by
  have e := own_oadd (a - b) b
  rw [Nat.sub_add_cancel h] at e
  rw [← e]; exact Int32.add_sub_cancel _ _
theorem own_oe {a b : Nat} (ha : a < 2 ^ 31) (hb : b < 2 ^ 31) : Int32.ofNat a = Int32.ofNat b ↔ a = b := by
  rw [← Int32.toInt_inj, own_o32 ha, own_o32 hb]; omega
theorem own_ol {a b : Nat} (ha : a < 2 ^ 31) (hb : b < 2 ^ 31) : Int32.ofNat a < Int32.ofNat b ↔ a < b := by
  rw [Int32.lt_iff_toInt_lt, own_o32 ha, own_o32 hb]; omega
theorem own_clamp {i : Nat} (h : i < 2 ^ 31) : (Int32.ofNat i).toNatClampNeg = i := by
  show (Int32.ofNat i).toInt.toNat = i
  rw [own_o32 h]; rfl
theorem own_nn {i : Nat} (h : i < 2 ^ 31) : ¬ Int32.ofNat i < 0 := by
  rw [Int32.lt_iff_toInt_lt, own_o32 h]
  have e0 : (0 : Int32).toInt = 0 := by decide
  omega
/-- a method that its class declares is what its name finds there -/
theorem own_same {Z : State} {a0 : Array Value} {y y' : MethodName} {bytes : ByteArray} {maxL : Nat} {ret : Option FieldType} (w : (Cond.code y bytes maxL ret).before a0 Z = true) (nf : NotFace Z y') (hy : y.cls ≠ "java/lang/invoke/MethodHandle" ∧ y.cls ≠ "java/lang/invoke/VarHandle") (hc : y'.cls = y.cls := by rfl) (hn' : ∃ r, Z.methodNamed? y' = some r) : (Cond.sameMethod y.cls y.cls y.name y.desc).before a0 Z = true := by
  obtain ⟨m, hn⟩ := Cond.code_named w
  obtain ⟨r, hr⟩ := hn'
  have h1 := findClass_of_methodNamed hn
  have h2 := findClass_of_methodNamed hr
  rw [hc, h1] at h2
  obtain ⟨kr, q1, q2⟩ := nf r hr
  have e : m.cls = r.cls := Option.some.inj h2
  have hf := State.methodFound?_of_named hn hy
  simp [Cond.before, Cond.holds, Cond.value, h1, hf, hn, e, q1, q2]
theorem own_nf {s : State} {y y' : MethodName} (nf : NotFace s y') (hc : y'.cls = y.cls) (hn' : ∃ r, s.methodNamed? y' = some r) : NotFace s y := fun r0 h0 => by
  obtain ⟨r, hr⟩ := hn'
  have h1 := findClass_of_methodNamed h0
  have h2 := findClass_of_methodNamed hr
  rw [hc, h1] at h2
  have e : r0.cls = r.cls := Option.some.inj h2
  rw [e]; exact nf r hr
theorem own_decl {Z : State} {a0 : Array Value} {y : MethodName} {bytes : ByteArray} {maxL : Nat} {ret : Option FieldType} (w1 : (Cond.instanceMethod y).before a0 Z = true) (w2 : (Cond.code y bytes maxL ret).before a0 Z = true) : (Cond.declares y).before a0 Z = true := by
  obtain ⟨mk, methM, hnamed, hmethM, hstM, habM⟩ := Cond.instanceMethod_spec w1
  obtain ⟨m2, cM, q1, -, -, -, -, -, -, hsig⟩ := Cond.code_spec hnamed w2
  cases hmethM.symm.trans q1
  simp [Cond.before, Cond.holds, Cond.value, hnamed, hmethM, hstM, hsig]
theorem own_dec {a : Nat} (h : 1 ≤ a) : Int32.ofNat a + (-1 : Int32) = Int32.ofNat (a - 1) := by
  have e := own_oadd (a - 1) 1
  rw [Nat.sub_add_cancel h] at e
  rw [← e, Int32.add_assoc]
  exact Int32.add_zero _
theorem own_cap {k : Nat} (h : k ≤ 16) : ¬ (0 : Int32) < Int32.ofNat k - 16 := by
  have e1 := own_o32 (a := k) (by omega)
  have e2 := c_isub (Int32.ofNat k) 16
  have e3 := rng32 (Int32.ofNat k - 16)
  have e4 : (16 : Int32).toInt = 16 := by decide
  have e5 : (0 : Int32).toInt = 0 := by decide
  rw [Int32.lt_iff_toInt_lt]
  omega
theorem own_nlneg {n : Nat} (h : n < 2 ^ 63) : ¬ Int64.ofNat n < 0 := by
  rw [Int64.lt_iff_toInt_lt, own_lo h]
  have e0 : (0 : Int64).toInt = 0 := by decide
  omega
theorem own_nlmin {n : Nat} (h : n < 2 ^ 31) : (-2147483648 : Int64) < own_nl n := by
  rw [Int64.lt_iff_toInt_lt, own_nl_i (by omega)]
  have e0 : (-2147483648 : Int64).toInt = -2147483648 := by decide
  omega
theorem own_ng9 {k : Nat} (h : k < 2 ^ 31) : own_ng k < (-9 : Int32) ↔ ¬ k < 10 := by
  rw [Int32.lt_iff_toInt_lt, own_ng_i h]
  have e0 : (-9 : Int32).toInt = -9 := by decide
  omega
theorem own_d8 {k : Nat} (h : k < 128) : (Int32.ofNat k).toInt8.toInt32 = Int32.ofNat k := by
  have hh : ∀ u : Fin 128, (Int32.ofNat u.1).toInt8.toInt32 = Int32.ofNat u.1 := by decide +kernel
  exact hh ⟨k, h⟩
theorem own_len_div {k : Nat} (h : 100 ≤ k) (h2 : k < 100000000) : own_len (k / 100) + 2 = own_len k := by
  unfold own_len
  repeat' split
  all_goals omega
theorem own_f1 {mu f : Nat} (hf : mu < 100 ^ (f + 1)) (h : ¬ mu < 100) : 1 ≤ f := by
  rcases f with _ | f
  · exact absurd (by simpa using hf) h
  · omega
theorem own_take (vs : List Value) (d : Value) (k : Nat) (h : k ≤ vs.length) : (List.range k).map (fun i => vs.getD (0 + i) d) = vs.take k := by
  apply List.ext_getElem?
  intro i
  rw [List.getElem?_map, List.getElem?_take]
  by_cases hi : i < k
  · rw [if_pos hi, List.getElem?_range hi]
    have : i < vs.length := by omega
    simp [List.getD, this]
  · rw [if_neg hi, List.getElem?_eq_none (by simpa using hi)]; rfl
theorem own_cp {us : List Value} {k : Nat} (hk : k < 2 ^ 31) (d : Value) : (List.replicate k d).take (0 : Int32).toNatClampNeg ++ us ++ (List.replicate k d).drop ((0 : Int32).toNatClampNeg + (Int32.ofNat k).toNatClampNeg) = us := by
  rw [own_clamp hk, show (0 : Int32).toNatClampNeg = 0 from rfl, List.take_zero, List.drop_eq_nil_of_le (by simp)]; simp
theorem own_a255 {k : Nat} (h : k < 128) : Int32.ofNat k &&& 255 = Int32.ofNat k := by
  have hh : ∀ u : Fin 128, Int32.ofNat u.1 &&& 255 = Int32.ofNat u.1 := by decide +kernel
  exact hh ⟨k, h⟩
theorem own_i2c {k : Nat} (h : k < 128) : (Int32.ofNat k).toUInt32.toUInt16.toUInt32.toInt32 = Int32.ofNat k := by
  have hh : ∀ u : Fin 128, (Int32.ofNat u.1).toUInt32.toUInt16.toUInt32.toInt32 = Int32.ofNat u.1 := by decide +kernel
  exact hh ⟨k, h⟩
theorem own_i2l {k : Nat} (h : k < 2 ^ 31) : (Int32.ofNat k).toInt64 = Int64.ofNat k := by
  apply Int64.toInt_inj.mp
  rw [c_i2l, own_o32 h, own_lo (by omega)]
def own_z16 : List Value := List.replicate 16 (.int 0)
/-- one of the tables of digits -/
def Dgt (Z : State) (a : Addr) (f : Nat → Int32) : Prop := ∃ cl : Cell, Arr Z Z.heap a cl .byte ∧ ∀ r, r < 100 → (¬ (Int32.ofNat r < 0 ∨ cl.slots.size ≤ (Int32.ofNat r).toNatClampNeg) ∧ cl.slots[(Int32.ofNat r).toNatClampNeg]? = some (.int (f r)))
theorem own_n1 (r : Nat) : nar .byte (own_d1 r) = own_d1 r := by
  show (own_d1 r).toInt8.toInt32 = own_d1 r
  unfold own_d1; exact own_d8 (by omega)
theorem own_n10 {r : Nat} (h : r < 100) : nar .byte (own_d10 r) = own_d10 r := by
  show (own_d10 r).toInt8.toInt32 = own_d10 r
  unfold own_d10; exact own_d8 (by omega)
section New
variable {p : Program} {l : Launch} {e : Env} {R : Room} {s : State} {m : MethodId} {args : Array Value} {below : List Frame} {meth : Method} {c : Code} {T : State} {locs : List Loc} {cells slots : Nat}
/-- one place of an array of bytes is written -/
theorem own_putB (X : Stand p l e R s m args below meth c T locs cells slots) (hx : p.tables.exec = Jvm.exec) {Z : State} (hZ : Z.Warmed39 s.vm) {h : Heap} (eT : T.heap = h) {b : Addr} {k : ClassId} {x : Int32} {vs : List Int32} (V : Arv Z h b k .byte 16 (vs.map Value.int) (.int 0)) (hl : vs.length = 16) (hn : nar .byte x = x) (i : Nat) (hi : i < 16)
    {g : JFrame} (hg : g.method = m) {rest : List Value} (hs : g.stack = .int x :: .int (Int32.ofNat i) :: .ref b :: rest) (hd : decode c.code g.pc = .ok (.bastore, 1)) :
    ∃ T' h', Stand p l e R s m args below meth c T' (locs ++ [⟨b, (Int32.ofNat i).toNatClampNeg⟩]) cells slots ∧ T'.heap = h' ∧ Wr h h' b (Int32.ofNat i).toNatClampNeg (.int x) ∧ Arv Z h' b k .byte 16 ((vs.set i x).map Value.int) (.int 0) ∧ ∀ target, Steps p.tables e below (T'.setTop { g with pc := g.pc + 1, stack := rest }) target → Steps p.tables e below (T.setTop g) target := by
  obtain ⟨cl, Ar, q1, S, q3, H, G⟩ := V
  obtain ⟨T', h', X', e', W, st⟩ := stB X hx hZ eT Ar (j := Int32.ofNat i) (inb_of S ⟨own_nn (by omega), (own_ol (b := 16) (by omega) (by omega)).mpr hi⟩) hg hs hd
  have F := fits_nar_byte x
  have hn' : x.toInt8.toInt32 = x := hn
  rw [hn'] at F
  rw [hn] at W
  refine ⟨T', h', X', e', W, ?_, st⟩
  rw [List.map_set]
  exact Arv.set Ar q1 S q3 H G F W i (own_clamp (by omega)) (by rw [List.length_map, hl]; exact hi)
end New
/-- a String as it lies -/
def Str (Z : State) (h : Heap) (a b : Addr) (k : ClassId) (z : Int32) (vs : List Value) : Prop := Exa Z h a "java/lang/String" ∧ Fld Z h a "java/lang/String" "coder" "B" (.int 0) ∧ Fld Z h a "java/lang/String" "value" "[B" (.ref b) ∧ Arv Z h b k .byte z vs (.int 0)
/-- a builder as it lies -/
def Bld (Z : State) (h : Heap) (a b : Addr) (k : ClassId) (n : Int32) (vs : List Value) : Prop := Exa Z h a "java/lang/StringBuilder" ∧ Fld Z h a "java/lang/AbstractStringBuilder" "coder" "B" (.int 0) ∧ Fld Z h a "java/lang/AbstractStringBuilder" "value" "[B" (.ref b) ∧ Fld Z h a "java/lang/AbstractStringBuilder" "count" "I" (.int n) ∧ Arv Z h b k .byte 16 vs (.int 0)

theorem ef_coder (m : MethodId) (x0 : Addr) : entryFrame m #[(.ref x0)] 1 = mkF m 0 #[rv x0] [] := by first | (simp [entryFrame, mkF, argsToLocals, Value.category]; done) | rfl
theorem pn_coder : plainName "java/lang/String" = true := by first | (simp [plainName, overriddenIn]; done) | decide +kernel
def Q_coder (Z : State) (a : Addr) (cs : Int32) (h0 : Heap) (n0 : Nat) (v : Option Value) (h : Heap) (L : List Loc) : Prop := v = some (.int 0) ∧ Fr n0 L ∧ h = h0
set_option maxRecDepth 65536 in
set_option maxHeartbeats 40000000 in
theorem rm_coder (l : Launch) (Z : State) (a0 : Array Value) (hw : ∀ d ∈ tables_1, d.before a0 Z = true) (ws : List Jvm.Cond) (a : Addr) (cs : Int32) (h0 : Heap) (n0 : Nat) (Z0 : n0 ≤ h0.size) (O : Old Z n0 h0) (SC : Sta Z Z.heap "java/lang/String" "COMPACT_STRINGS" "Z" (.int cs)) (hcs : ¬ cs = (0 : Int32)) (sC : Fld Z h0 a "java/lang/String" "coder" "B" (.int 0)) :
    MetFree l (⟨"java/lang/String", "coder", "()B"⟩ : MethodName) (head1 (Jvm.Cond.code (⟨"java/lang/String", "coder", "()B"⟩ : MethodName) jdk_42_method_152_code 1 (some .byte) :: ws) ({ frames := 0, cells := 0, slots := 0, locals := 0 } : Room)) (fun as_ U => as_ = #[(.ref a)] ∧ Z.Warmed39 U.vm ∧ U.heap = h0) (fun _ _ _ _ _ => True) (fun _ U o U' => ∃ v L, o = .returned v ∧ Q_coder Z a cs h0 n0 v U'.heap L ∧ FrameEnd U o U' L ({ frames := 0, cells := 0, slots := 0, locals := 0 } : Room).cells ({ frames := 0, cells := 0, slots := 0, locals := 0 } : Room).slots) := by
  refine MetFree.of_bodySF (plainFor_of_name pn_coder) hisR ?_
  intro p e s m args below meth c s₁ Bd hml0 hP hK
  obtain ⟨rfl, hZ, hh⟩ := hP
  have hx := Bd.exec
  have hby := Bd.bytes
  have hml : c.maxLocals = 1 := hml0
  have hown : s.vm.findClass "java/lang/String" = some m.cls := findClass_of_methodNamed Bd.named
  have hnm := (name_of_methodNamed Bd.named Bd.method).1
  have X0 : Stand p l e ({ frames := 0, cells := 0, slots := 0, locals := 0 } : Room) s m #[(.ref a)] below meth c s₁ [] 0 0 := Stand.of_body Bd
  have e0 : s₁.heap = h0 := by rw [← hh, Bd.state]; rfl
  have N0 := Fr.nil n0
  refine Go.out ?_
  refine Go.pre (fun t k => castTop (ef_coder m a) k) ?_
  show Go p e below _ (s₁.setTop (mkF m 0 #[rv a] []))
  obtain ⟨T1, X1, e1, st1⟩ := getS2 X0 hx hZ hown (host := "") (Or.inl (hw _ (List.mem_of_getElem? (i := 83) rfl))) Via.refl e0 (SC.ext O.2) (g := (mkF m 0 #[rv a] [])) rfl (hb hby d_jdk_42_method_152_0)
  refine Go.pre st1 ?_
  show Go p e below _ (T1.setTop (mkF m 3 #[rv a] [(.int cs)]))
  refine Go.pre (fun _ k => XS.ifNo X1.here hx rfl (hb hby d_jdk_42_method_152_3) rfl ((if0 _ _).trans (feq hcs).1) k) ?_
  show Go p e below _ (T1.setTop (mkF m 6 #[rv a] []))
  refine Go.pre (fun _ k => XS.aloadN X1.here hx rfl (hb hby d_jdk_42_method_152_6) rfl rfl k) ?_
  show Go p e below _ (T1.setTop (mkF m 7 #[rv a] [(.ref a)]))
  obtain ⟨T2, X2, e2, st2⟩ := getF X1 hx hZ hown (host := "") (Or.inl (hw _ (List.mem_of_getElem? (i := 84) rfl))) Via.refl e1 sC (g := (mkF m 7 #[rv a] [(.ref a)])) rfl rfl (hb hby d_jdk_42_method_152_7)
  refine Go.pre st2 ?_
  show Go p e below _ (T2.setTop (mkF m 10 #[rv a] [(.int (0 : Int32))]))
  refine Go.pre (fun _ k => XS.goto X2.here hx rfl (pc0 := 10) (pc' := 14) rfl (hb hby d_jdk_42_method_152_10) (by decide) (by decide) k) ?_
  show Go p e below _ (T2.setTop (mkF m 14 #[rv a] [(.int (0 : Int32))]))
  obtain ⟨fs, hr, hrun, hended, hW, hsame⟩ := X2.leave (v := some (.int (0 : Int32))) (fun h => by rw [Bd.returns] at h; cases h)
  refine Go.fin (retN X2 hx (t := .byte) Bd.returns (by simp) (hb hby d_jdk_42_method_152_14) hr) ⟨hrun, hended, _, _, rfl, ?_, ⟨_, rfl⟩, hW, hsame.mono (by decide) (by decide)⟩
  show Q_coder Z a cs h0 n0 _ T2.heap _
  rw [e2]
  exact ⟨rfl, N0, rfl⟩

theorem ef_length (m : MethodId) (x0 : Addr) : entryFrame m #[(.ref x0)] 1 = mkF m 0 #[rv x0] [] := by first | (simp [entryFrame, mkF, argsToLocals, Value.category]; done) | rfl
theorem pn_length : plainName "java/lang/String" = true := by first | (simp [plainName, overriddenIn]; done) | decide +kernel
def Q_length (Z : State) (a : Addr) (bs : Addr) (ks : ClassId) (z : Int32) (us : List Value) (cs : Int32) (h0 : Heap) (n0 : Nat) (v : Option Value) (h : Heap) (L : List Loc) : Prop := v = some (.int z) ∧ Fr n0 L ∧ h = h0
set_option maxRecDepth 65536 in
set_option maxHeartbeats 40000000 in
theorem rm_length (l : Launch) (Z : State) (a0 : Array Value) (hw : ∀ d ∈ tables_1, d.before a0 Z = true) (ws : List Jvm.Cond) (a : Addr) (bs : Addr) (ks : ClassId) (z : Int32) (us : List Value) (cs : Int32) (h0 : Heap) (n0 : Nat) (Z0 : n0 ≤ h0.size) (O : Old Z n0 h0) (SC : Sta Z Z.heap "java/lang/String" "COMPACT_STRINGS" "Z" (.int cs)) (hcs : ¬ cs = (0 : Int32)) (SS : Str Z h0 a bs ks z us) :
    MetFree l (⟨"java/lang/String", "length", "()I"⟩ : MethodName) (head1 (Jvm.Cond.code (⟨"java/lang/String", "length", "()I"⟩ : MethodName) jdk_42_method_54_code 1 (some .int) :: ws) ({ frames := 1, cells := 0, slots := 0, locals := 13 } : Room)) (fun as_ U => as_ = #[(.ref a)] ∧ Z.Warmed39 U.vm ∧ U.heap = h0) (fun _ _ _ _ _ => True) (fun _ U o U' => ∃ v L, o = .returned v ∧ Q_length Z a bs ks z us cs h0 n0 v U'.heap L ∧ FrameEnd U o U' L ({ frames := 1, cells := 0, slots := 0, locals := 13 } : Room).cells ({ frames := 1, cells := 0, slots := 0, locals := 13 } : Room).slots) := by
  refine MetFree.of_bodySF (plainFor_of_name pn_length) hisR ?_
  intro p e s m args below meth c s₁ Bd hml0 hP hK
  obtain ⟨rfl, hZ, hh⟩ := hP
  have hx := Bd.exec
  have hby := Bd.bytes
  have hml : c.maxLocals = 1 := hml0
  have hown : s.vm.findClass "java/lang/String" = some m.cls := findClass_of_methodNamed Bd.named
  have hnm := (name_of_methodNamed Bd.named Bd.method).1
  have X0 : Stand p l e ({ frames := 1, cells := 0, slots := 0, locals := 13 } : Room) s m #[(.ref a)] below meth c s₁ [] 0 0 := Stand.of_body Bd
  have e0 : s₁.heap = h0 := by rw [← hh, Bd.state]; rfl
  have N0 := Fr.nil n0
  refine Go.out ?_
  refine Go.pre (fun t k => castTop (ef_length m a) k) ?_
  obtain ⟨sE, sC, sV, sA⟩ := SS
  show Go p e below _ (s₁.setTop (mkF m 0 #[rv a] []))
  refine Go.pre (fun _ k => XS.aloadN X0.here hx rfl (hb hby d_jdk_42_method_54_0) rfl rfl k) ?_
  show Go p e below _ (s₁.setTop (mkF m 1 #[rv a] [(.ref a)]))
  obtain ⟨T1, X1, e1, st1⟩ := getF X0 hx hZ hown (host := "") (Or.inl (hw _ (List.mem_of_getElem? (i := 77) rfl))) Via.refl e0 sV (g := (mkF m 1 #[rv a] [(.ref a)])) rfl rfl (hb hby d_jdk_42_method_54_1)
  refine Go.pre st1 ?_
  show Go p e below _ (T1.setTop (mkF m 4 #[rv a] [(.ref bs)]))
  obtain ⟨cl2, Ar2, -, S2, N2z, -, -⟩ := id sA
  refine Go.pre (X1.arraylength hx (by rw [e1]; exact Ar2.1) (State.isArrayOf_alike hZ.alike Ar2.2.1) (g := (mkF m 4 #[rv a] [(.ref bs)])) rfl rfl (hb hby d_jdk_42_method_54_4)) ?_
  rw [len_of S2 N2z]
  show Go p e below _ (T1.setTop (mkF m 5 #[rv a] [(.int z)]))
  refine Go.pre (fun _ k => XS.aloadN X1.here hx rfl (hb hby d_jdk_42_method_54_5) rfl rfl k) ?_
  show Go p e below _ (T1.setTop (mkF m 6 #[rv a] [(.ref a), (.int z)]))
  obtain ⟨cq3, kq3, q3a, q3b, q3c⟩ := isOf hZ e1 sE
  obtain ⟨_, _, ⟨T3, L3, k3, n3⟩, -, X3, ⟨Lc3, hQ3, l3, y3, z3⟩, st3⟩ := X1.virtualBack hx (y := (⟨"java/lang/String", "coder", "()B"⟩ : MethodName)) (z := (⟨"java/lang/String", "coder", "()B"⟩ : MethodName)) hown (mvT hZ (hw _ (List.mem_of_getElem? (i := 78) rfl))) (mvT hZ (hw _ (List.mem_of_getElem? (i := 79) rfl))) (notFace_of_selects (args := #[]) (mvT hZ (hw _ (List.mem_of_getElem? (i := 81) rfl)))) (mvT hZ (hw _ (List.mem_of_getElem? (i := 81) rfl))) (mvT hZ (hw _ (List.mem_of_getElem? (i := 80) rfl))) (by decide) (backOf (W := 1) (rm_coder l Z a0 hw [] a cs h0 n0 Z0 O SC hcs sC) hZ (hw _ (List.mem_of_getElem? (i := 82) rfl)) (hw _ (List.mem_of_getElem? (i := 7) rfl)) (by decide) (by decide)) q3a q3c (g := (mkF m 6 #[rv a] [(.ref a), (.int z)])) rfl (by rw [hml]; rfl) (Steps.refl _) (argsL := []) (rest := [(.int z)]) (lenOf pd_0 rfl) rfl (by show 2 * 0 + _ ≤ _; exact Nat.le_of_eq rfl) (hb hby d_jdk_42_method_54_6) (fun _ _ => ⟨rfl, e1, (by decide : 0 + 0 ≤ _), (by decide : 0 + 0 ≤ _)⟩)
  dsimp only [Pt.U, Pt.locs, Pt.cells, Pt.slots] at X3 l3 y3 z3 st3 hQ3
  subst l3 y3 z3
  refine Go.pre (own_cut st3) ?_
  obtain ⟨rfl, N3q, eh3⟩ := hQ3
  have N3 := Fr.app N0 N3q
  show Go p e below _ (T3.setTop (mkF m 9 #[rv a] [(.int (0 : Int32)), (.int z)]))
  refine Go.pre (fun _ k => XS.ishr X3.here hx rfl (hb hby d_jdk_42_method_54_9) rfl k) ?_
  show Go p e below _ (T3.setTop (mkF m 10 #[rv a] [(.int (z >>> ((0 : Int32) &&& 31)))]))
  rw [own_shr0]
  show Go p e below _ (T3.setTop (mkF m 10 #[rv a] [(.int z)]))
  obtain ⟨fs, hr, hrun, hended, hW, hsame⟩ := X3.leave (v := some (.int z)) (fun h => by rw [Bd.returns] at h; cases h)
  refine Go.fin (retI X3 hx Bd.returns (hb hby d_jdk_42_method_54_10) hr) ⟨hrun, hended, _, _, rfl, ?_, ⟨_, rfl⟩, hW, hsame.mono (by decide) (by decide)⟩
  show Q_length Z a bs ks z us cs h0 n0 _ T3.heap _
  rw [eh3]
  exact ⟨rfl, N3, rfl⟩

theorem ef_ens (m : MethodId) (x0 : Addr) (x1 : Int32) : entryFrame m #[(.ref x0), (.int x1)] 3 = mkF m 0 #[rv x0, iv x1, .unset] [] := by first | (simp [entryFrame, mkF, argsToLocals, Value.category]; done) | rfl
theorem pn_ens : plainName "java/lang/AbstractStringBuilder" = true := by first | (simp [plainName, overriddenIn]; done) | decide +kernel
def Q_ens (Z : State) (a : Addr) (b : Addr) (kb : ClassId) (nb : Int32) (vs : List Value) (mn : Nat) (h0 : Heap) (n0 : Nat) (v : Option Value) (h : Heap) (L : List Loc) : Prop := v = none ∧ Fr n0 L ∧ h = h0
set_option maxRecDepth 65536 in
set_option maxHeartbeats 40000000 in
theorem rm_ens (l : Launch) (Z : State) (a0 : Array Value) (hw : ∀ d ∈ tables_1, d.before a0 Z = true) (ws : List Jvm.Cond) (a : Addr) (b : Addr) (kb : ClassId) (nb : Int32) (vs : List Value) (mn : Nat) (h0 : Heap) (n0 : Nat) (Z0 : n0 ≤ h0.size) (O : Old Z n0 h0) (BB : Bld Z h0 a b kb nb vs) (hm : mn ≤ 16) :
    MetFree l (⟨"java/lang/AbstractStringBuilder", "ensureCapacityInternal", "(I)V"⟩ : MethodName) (head1 (Jvm.Cond.code (⟨"java/lang/AbstractStringBuilder", "ensureCapacityInternal", "(I)V"⟩ : MethodName) jdk_68_method_9_code 3 none :: ws) ({ frames := 0, cells := 0, slots := 0, locals := 0 } : Room)) (fun as_ U => as_ = #[(.ref a), (.int (Int32.ofNat mn))] ∧ Z.Warmed39 U.vm ∧ U.heap = h0) (fun _ _ _ _ _ => True) (fun _ U o U' => ∃ v L, o = .returned v ∧ Q_ens Z a b kb nb vs mn h0 n0 v U'.heap L ∧ FrameEnd U o U' L ({ frames := 0, cells := 0, slots := 0, locals := 0 } : Room).cells ({ frames := 0, cells := 0, slots := 0, locals := 0 } : Room).slots) := by
  refine MetFree.of_bodySF (plainFor_of_name pn_ens) hisR ?_
  intro p e s m args below meth c s₁ Bd hml0 hP hK
  obtain ⟨rfl, hZ, hh⟩ := hP
  have hx := Bd.exec
  have hby := Bd.bytes
  have hml : c.maxLocals = 3 := hml0
  have hown : s.vm.findClass "java/lang/AbstractStringBuilder" = some m.cls := findClass_of_methodNamed Bd.named
  have hnm := (name_of_methodNamed Bd.named Bd.method).1
  have X0 : Stand p l e ({ frames := 0, cells := 0, slots := 0, locals := 0 } : Room) s m #[(.ref a), (.int (Int32.ofNat mn))] below meth c s₁ [] 0 0 := Stand.of_body Bd
  have e0 : s₁.heap = h0 := by rw [← hh, Bd.state]; rfl
  have N0 := Fr.nil n0
  refine Go.out ?_
  refine Go.pre (fun t k => castTop (ef_ens m a (Int32.ofNat mn)) k) ?_
  obtain ⟨tE, tC, tV, tN, tA⟩ := BB
  show Go p e below _ (s₁.setTop (mkF m 0 #[rv a, iv (Int32.ofNat mn), .unset] []))
  refine Go.pre (fun _ k => XS.aloadN X0.here hx rfl (hb hby d_jdk_68_method_9_0) rfl rfl k) ?_
  show Go p e below _ (s₁.setTop (mkF m 1 #[rv a, iv (Int32.ofNat mn), .unset] [(.ref a)]))
  obtain ⟨T1, X1, e1, st1⟩ := getF X0 hx hZ hown (host := "") (Or.inl (hw _ (List.mem_of_getElem? (i := 57) rfl))) Via.refl e0 tV (g := (mkF m 1 #[rv a, iv (Int32.ofNat mn), .unset] [(.ref a)])) rfl rfl (hb hby d_jdk_68_method_9_1)
  refine Go.pre st1 ?_
  show Go p e below _ (T1.setTop (mkF m 4 #[rv a, iv (Int32.ofNat mn), .unset] [(.ref b)]))
  obtain ⟨cl2, Ar2, -, S2, N2z, -, -⟩ := id tA
  refine Go.pre (X1.arraylength hx (by rw [e1]; exact Ar2.1) (State.isArrayOf_alike hZ.alike Ar2.2.1) (g := (mkF m 4 #[rv a, iv (Int32.ofNat mn), .unset] [(.ref b)])) rfl rfl (hb hby d_jdk_68_method_9_4)) ?_
  rw [len_of S2 N2z]
  show Go p e below _ (T1.setTop (mkF m 5 #[rv a, iv (Int32.ofNat mn), .unset] [(.int (16 : Int32))]))
  refine Go.pre (fun _ k => XS.aloadN X1.here hx rfl (hb hby d_jdk_68_method_9_5) rfl rfl k) ?_
  show Go p e below _ (T1.setTop (mkF m 6 #[rv a, iv (Int32.ofNat mn), .unset] [(.ref a), (.int (16 : Int32))]))
  obtain ⟨T3, X3, e3, st3⟩ := getF X1 hx hZ hown (host := "") (Or.inl (hw _ (List.mem_of_getElem? (i := 59) rfl))) Via.refl e1 tC (g := (mkF m 6 #[rv a, iv (Int32.ofNat mn), .unset] [(.ref a), (.int (16 : Int32))])) rfl rfl (hb hby d_jdk_68_method_9_6)
  refine Go.pre st3 ?_
  show Go p e below _ (T3.setTop (mkF m 9 #[rv a, iv (Int32.ofNat mn), .unset] [(.int (0 : Int32)), (.int (16 : Int32))]))
  refine Go.pre (fun _ k => XS.ishr X3.here hx rfl (hb hby d_jdk_68_method_9_9) rfl k) ?_
  show Go p e below _ (T3.setTop (mkF m 10 #[rv a, iv (Int32.ofNat mn), .unset] [(.int ((16 : Int32) >>> ((0 : Int32) &&& 31)))]))
  rw [own_shr0]
  show Go p e below _ (T3.setTop (mkF m 10 #[rv a, iv (Int32.ofNat mn), .unset] [(.int (16 : Int32))]))
  refine Go.pre (fun _ k => XS.istoreN X3.here hx rfl (hb hby d_jdk_68_method_9_10) rfl (l' := #[rv a, iv (Int32.ofNat mn), iv (16 : Int32)]) rfl k) ?_
  show Go p e below _ (T3.setTop (mkF m 11 #[rv a, iv (Int32.ofNat mn), iv (16 : Int32)] []))
  refine Go.pre (fun _ k => XS.iloadN X3.here hx rfl (hb hby d_jdk_68_method_9_11) rfl k) ?_
  show Go p e below _ (T3.setTop (mkF m 12 #[rv a, iv (Int32.ofNat mn), iv (16 : Int32)] [(.int (Int32.ofNat mn))]))
  refine Go.pre (fun _ k => XS.iloadN X3.here hx rfl (hb hby d_jdk_68_method_9_12) rfl k) ?_
  show Go p e below _ (T3.setTop (mkF m 13 #[rv a, iv (Int32.ofNat mn), iv (16 : Int32)] [(.int (16 : Int32)), (.int (Int32.ofNat mn))]))
  refine Go.pre (fun _ k => XS.isub X3.here hx rfl (hb hby d_jdk_68_method_9_13) rfl k) ?_
  show Go p e below _ (T3.setTop (mkF m 14 #[rv a, iv (Int32.ofNat mn), iv (16 : Int32)] [(.int ((Int32.ofNat mn) - (16 : Int32)))]))
  refine Go.pre (fun _ k => XS.ifYes X3.here hx rfl (pc0 := 14) (pc' := 38) rfl (hb hby d_jdk_68_method_9_14) rfl ((if0 _ _).trans (flt (own_cap hm)).2.2.2) (by decide) (by decide) k) ?_
  show Go p e below _ (T3.setTop (mkF m 38 #[rv a, iv (Int32.ofNat mn), iv (16 : Int32)] []))
  obtain ⟨fs, hr, hrun, hended, hW, hsame⟩ := X3.leave (v := none) (fun _ => rfl)
  refine Go.fin (X3.returnOut hx Bd.returns (hb hby d_jdk_68_method_9_38) hr) ⟨hrun, hended, _, _, rfl, ?_, ⟨_, rfl⟩, hW, hsame.mono (by decide) (by decide)⟩
  show Q_ens Z a b kb nb vs mn h0 n0 _ T3.heap _
  rw [e3]
  exact ⟨rfl, N0, rfl⟩

theorem ef_isl (m : MethodId) (x0 : Addr) : entryFrame m #[(.ref x0)] 1 = mkF m 0 #[rv x0] [] := by first | (simp [entryFrame, mkF, argsToLocals, Value.category]; done) | rfl
theorem pn_isl : plainName "java/lang/AbstractStringBuilder" = true := by first | (simp [plainName, overriddenIn]; done) | decide +kernel
def Q_isl (Z : State) (a : Addr) (b : Addr) (kb : ClassId) (nb : Int32) (vs : List Value) (cs : Int32) (h0 : Heap) (n0 : Nat) (v : Option Value) (h : Heap) (L : List Loc) : Prop := v = some (.int 1) ∧ Fr n0 L ∧ h = h0
set_option maxRecDepth 65536 in
set_option maxHeartbeats 40000000 in
theorem rm_isl (l : Launch) (Z : State) (a0 : Array Value) (hw : ∀ d ∈ tables_1, d.before a0 Z = true) (ws : List Jvm.Cond) (a : Addr) (b : Addr) (kb : ClassId) (nb : Int32) (vs : List Value) (cs : Int32) (h0 : Heap) (n0 : Nat) (Z0 : n0 ≤ h0.size) (O : Old Z n0 h0) (SC : Sta Z Z.heap "java/lang/String" "COMPACT_STRINGS" "Z" (.int cs)) (hcs : ¬ cs = (0 : Int32)) (BB : Bld Z h0 a b kb nb vs) :
    MetFree l (⟨"java/lang/AbstractStringBuilder", "isLatin1", "()Z"⟩ : MethodName) (head1 (Jvm.Cond.code (⟨"java/lang/AbstractStringBuilder", "isLatin1", "()Z"⟩ : MethodName) jdk_68_method_68_code 1 (some .boolean) :: ws) ({ frames := 0, cells := 0, slots := 0, locals := 0 } : Room)) (fun as_ U => as_ = #[(.ref a)] ∧ Z.Warmed39 U.vm ∧ U.heap = h0) (fun _ _ _ _ _ => True) (fun _ U o U' => ∃ v L, o = .returned v ∧ Q_isl Z a b kb nb vs cs h0 n0 v U'.heap L ∧ FrameEnd U o U' L ({ frames := 0, cells := 0, slots := 0, locals := 0 } : Room).cells ({ frames := 0, cells := 0, slots := 0, locals := 0 } : Room).slots) := by
  refine MetFree.of_bodySF (plainFor_of_name pn_isl) hisR ?_
  intro p e s m args below meth c s₁ Bd hml0 hP hK
  obtain ⟨rfl, hZ, hh⟩ := hP
  have hx := Bd.exec
  have hby := Bd.bytes
  have hml : c.maxLocals = 1 := hml0
  have hown : s.vm.findClass "java/lang/AbstractStringBuilder" = some m.cls := findClass_of_methodNamed Bd.named
  have hnm := (name_of_methodNamed Bd.named Bd.method).1
  have X0 : Stand p l e ({ frames := 0, cells := 0, slots := 0, locals := 0 } : Room) s m #[(.ref a)] below meth c s₁ [] 0 0 := Stand.of_body Bd
  have e0 : s₁.heap = h0 := by rw [← hh, Bd.state]; rfl
  have N0 := Fr.nil n0
  refine Go.out ?_
  refine Go.pre (fun t k => castTop (ef_isl m a) k) ?_
  obtain ⟨tE, tC, tV, tN, tA⟩ := BB
  show Go p e below _ (s₁.setTop (mkF m 0 #[rv a] []))
  obtain ⟨T1, X1, e1, st1⟩ := getS2 X0 hx hZ hown (host := "") (Or.inl (hw _ (List.mem_of_getElem? (i := 56) rfl))) Via.refl e0 (SC.ext O.2) (g := (mkF m 0 #[rv a] [])) rfl (hb hby d_jdk_68_method_68_0)
  refine Go.pre st1 ?_
  show Go p e below _ (T1.setTop (mkF m 3 #[rv a] [(.int cs)]))
  refine Go.pre (fun _ k => XS.ifNo X1.here hx rfl (hb hby d_jdk_68_method_68_3) rfl ((if0 _ _).trans (feq hcs).1) k) ?_
  show Go p e below _ (T1.setTop (mkF m 6 #[rv a] []))
  refine Go.pre (fun _ k => XS.aloadN X1.here hx rfl (hb hby d_jdk_68_method_68_6) rfl rfl k) ?_
  show Go p e below _ (T1.setTop (mkF m 7 #[rv a] [(.ref a)]))
  obtain ⟨T2, X2, e2, st2⟩ := getF X1 hx hZ hown (host := "") (Or.inl (hw _ (List.mem_of_getElem? (i := 59) rfl))) Via.refl e1 tC (g := (mkF m 7 #[rv a] [(.ref a)])) rfl rfl (hb hby d_jdk_68_method_68_7)
  refine Go.pre st2 ?_
  show Go p e below _ (T2.setTop (mkF m 10 #[rv a] [(.int (0 : Int32))]))
  refine Go.pre (fun _ k => XS.ifNo X2.here hx rfl (hb hby d_jdk_68_method_68_10) rfl ((if0 _ _).trans (teq (by decide : (0 : Int32) = (0 : Int32))).2) k) ?_
  show Go p e below _ (T2.setTop (mkF m 13 #[rv a] []))
  refine Go.pre (fun _ k => XS.iconst X2.here hx rfl (hb hby d_jdk_68_method_68_13) k) ?_
  show Go p e below _ (T2.setTop (mkF m 14 #[rv a] [(.int (1 : Int32))]))
  refine Go.pre (fun _ k => XS.goto X2.here hx rfl (pc0 := 14) (pc' := 18) rfl (hb hby d_jdk_68_method_68_14) (by decide) (by decide) k) ?_
  show Go p e below _ (T2.setTop (mkF m 18 #[rv a] [(.int (1 : Int32))]))
  obtain ⟨fs, hr, hrun, hended, hW, hsame⟩ := X2.leave (v := some (.int (1 : Int32))) (fun h => by rw [Bd.returns] at h; cases h)
  refine Go.fin (retN X2 hx (t := .boolean) Bd.returns (by simp) (hb hby d_jdk_68_method_68_18) hr) ⟨hrun, hended, _, _, rfl, ?_, ⟨_, rfl⟩, hW, hsame.mono (by decide) (by decide)⟩
  show Q_isl Z a b kb nb vs cs h0 n0 _ T2.heap _
  rw [e2]
  exact ⟨rfl, N0, rfl⟩

theorem ef_gv (m : MethodId) (x0 : Addr) : entryFrame m #[(.ref x0)] 1 = mkF m 0 #[rv x0] [] := by first | (simp [entryFrame, mkF, argsToLocals, Value.category]; done) | rfl
theorem pn_gv : plainName "java/lang/AbstractStringBuilder" = true := by first | (simp [plainName, overriddenIn]; done) | decide +kernel
def Q_gv (Z : State) (a : Addr) (b : Addr) (kb : ClassId) (nb : Int32) (vs : List Value) (h0 : Heap) (n0 : Nat) (v : Option Value) (h : Heap) (L : List Loc) : Prop := v = some (.ref b) ∧ Fr n0 L ∧ h = h0
set_option maxRecDepth 65536 in
set_option maxHeartbeats 40000000 in
theorem rm_gv (l : Launch) (Z : State) (a0 : Array Value) (hw : ∀ d ∈ tables_1, d.before a0 Z = true) (ws : List Jvm.Cond) (a : Addr) (b : Addr) (kb : ClassId) (nb : Int32) (vs : List Value) (h0 : Heap) (n0 : Nat) (Z0 : n0 ≤ h0.size) (O : Old Z n0 h0) (BB : Bld Z h0 a b kb nb vs) :
    MetFree l (⟨"java/lang/AbstractStringBuilder", "getValue", "()[B"⟩ : MethodName) (head1 (Jvm.Cond.code (⟨"java/lang/AbstractStringBuilder", "getValue", "()[B"⟩ : MethodName) jdk_68_method_64_code 1 (some (.array .byte)) :: ws) ({ frames := 0, cells := 0, slots := 0, locals := 0 } : Room)) (fun as_ U => as_ = #[(.ref a)] ∧ Z.Warmed39 U.vm ∧ U.heap = h0) (fun _ _ _ _ _ => True) (fun _ U o U' => ∃ v L, o = .returned v ∧ Q_gv Z a b kb nb vs h0 n0 v U'.heap L ∧ FrameEnd U o U' L ({ frames := 0, cells := 0, slots := 0, locals := 0 } : Room).cells ({ frames := 0, cells := 0, slots := 0, locals := 0 } : Room).slots) := by
  refine MetFree.of_bodySF (plainFor_of_name pn_gv) hisR ?_
  intro p e s m args below meth c s₁ Bd hml0 hP hK
  obtain ⟨rfl, hZ, hh⟩ := hP
  have hx := Bd.exec
  have hby := Bd.bytes
  have hml : c.maxLocals = 1 := hml0
  have hown : s.vm.findClass "java/lang/AbstractStringBuilder" = some m.cls := findClass_of_methodNamed Bd.named
  have hnm := (name_of_methodNamed Bd.named Bd.method).1
  have X0 : Stand p l e ({ frames := 0, cells := 0, slots := 0, locals := 0 } : Room) s m #[(.ref a)] below meth c s₁ [] 0 0 := Stand.of_body Bd
  have e0 : s₁.heap = h0 := by rw [← hh, Bd.state]; rfl
  have N0 := Fr.nil n0
  refine Go.out ?_
  refine Go.pre (fun t k => castTop (ef_gv m a) k) ?_
  obtain ⟨tE, tC, tV, tN, tA⟩ := BB
  show Go p e below _ (s₁.setTop (mkF m 0 #[rv a] []))
  refine Go.pre (fun _ k => XS.aloadN X0.here hx rfl (hb hby d_jdk_68_method_64_0) rfl rfl k) ?_
  show Go p e below _ (s₁.setTop (mkF m 1 #[rv a] [(.ref a)]))
  obtain ⟨T1, X1, e1, st1⟩ := getF X0 hx hZ hown (host := "") (Or.inl (hw _ (List.mem_of_getElem? (i := 57) rfl))) Via.refl e0 tV (g := (mkF m 1 #[rv a] [(.ref a)])) rfl rfl (hb hby d_jdk_68_method_64_1)
  refine Go.pre st1 ?_
  show Go p e below _ (T1.setTop (mkF m 4 #[rv a] [(.ref b)]))
  obtain ⟨fs, hr, hrun, hended, hW, hsame⟩ := X1.leave (v := some (.ref b)) (fun h => by rw [Bd.returns] at h; cases h)
  refine Go.fin (retOut X1 hx Bd.returns rfl (Or.inr (Or.inr (Or.inr (Or.inr ⟨rfl, rfl, rfl⟩)))) (hb hby d_jdk_68_method_64_4) hr) ⟨hrun, hended, _, _, rfl, ?_, ⟨_, rfl⟩, hW, hsame.mono (by decide) (by decide)⟩
  show Q_gv Z a b kb nb vs h0 n0 _ T1.heap _
  rw [e1]
  exact ⟨rfl, N0, rfl⟩

theorem ef_alen (m : MethodId) (x0 : Addr) : entryFrame m #[(.ref x0)] 1 = mkF m 0 #[rv x0] [] := by first | (simp [entryFrame, mkF, argsToLocals, Value.category]; done) | rfl
theorem pn_alen : plainName "java/lang/AbstractStringBuilder" = true := by first | (simp [plainName, overriddenIn]; done) | decide +kernel
def Q_alen (Z : State) (a : Addr) (b : Addr) (kb : ClassId) (nb : Int32) (vs : List Value) (h0 : Heap) (n0 : Nat) (v : Option Value) (h : Heap) (L : List Loc) : Prop := v = some (.int nb) ∧ Fr n0 L ∧ h = h0
set_option maxRecDepth 65536 in
set_option maxHeartbeats 40000000 in
theorem rm_alen (l : Launch) (Z : State) (a0 : Array Value) (hw : ∀ d ∈ tables_1, d.before a0 Z = true) (ws : List Jvm.Cond) (a : Addr) (b : Addr) (kb : ClassId) (nb : Int32) (vs : List Value) (h0 : Heap) (n0 : Nat) (Z0 : n0 ≤ h0.size) (O : Old Z n0 h0) (BB : Bld Z h0 a b kb nb vs) :
    MetFree l (⟨"java/lang/AbstractStringBuilder", "length", "()I"⟩ : MethodName) (head1 (Jvm.Cond.code (⟨"java/lang/AbstractStringBuilder", "length", "()I"⟩ : MethodName) jdk_68_method_6_code 1 (some .int) :: ws) ({ frames := 0, cells := 0, slots := 0, locals := 0 } : Room)) (fun as_ U => as_ = #[(.ref a)] ∧ Z.Warmed39 U.vm ∧ U.heap = h0) (fun _ _ _ _ _ => True) (fun _ U o U' => ∃ v L, o = .returned v ∧ Q_alen Z a b kb nb vs h0 n0 v U'.heap L ∧ FrameEnd U o U' L ({ frames := 0, cells := 0, slots := 0, locals := 0 } : Room).cells ({ frames := 0, cells := 0, slots := 0, locals := 0 } : Room).slots) := by
  refine MetFree.of_bodySF (plainFor_of_name pn_alen) hisR ?_
  intro p e s m args below meth c s₁ Bd hml0 hP hK
  obtain ⟨rfl, hZ, hh⟩ := hP
  have hx := Bd.exec
  have hby := Bd.bytes
  have hml : c.maxLocals = 1 := hml0
  have hown : s.vm.findClass "java/lang/AbstractStringBuilder" = some m.cls := findClass_of_methodNamed Bd.named
  have hnm := (name_of_methodNamed Bd.named Bd.method).1
  have X0 : Stand p l e ({ frames := 0, cells := 0, slots := 0, locals := 0 } : Room) s m #[(.ref a)] below meth c s₁ [] 0 0 := Stand.of_body Bd
  have e0 : s₁.heap = h0 := by rw [← hh, Bd.state]; rfl
  have N0 := Fr.nil n0
  refine Go.out ?_
  refine Go.pre (fun t k => castTop (ef_alen m a) k) ?_
  obtain ⟨tE, tC, tV, tN, tA⟩ := BB
  show Go p e below _ (s₁.setTop (mkF m 0 #[rv a] []))
  refine Go.pre (fun _ k => XS.aloadN X0.here hx rfl (hb hby d_jdk_68_method_6_0) rfl rfl k) ?_
  show Go p e below _ (s₁.setTop (mkF m 1 #[rv a] [(.ref a)]))
  obtain ⟨T1, X1, e1, st1⟩ := getF X0 hx hZ hown (host := "") (Or.inl (hw _ (List.mem_of_getElem? (i := 85) rfl))) Via.refl e0 tN (g := (mkF m 1 #[rv a] [(.ref a)])) rfl rfl (hb hby d_jdk_68_method_6_1)
  refine Go.pre st1 ?_
  show Go p e below _ (T1.setTop (mkF m 4 #[rv a] [(.int nb)]))
  obtain ⟨fs, hr, hrun, hended, hW, hsame⟩ := X1.leave (v := some (.int nb)) (fun h => by rw [Bd.returns] at h; cases h)
  refine Go.fin (retI X1 hx Bd.returns (hb hby d_jdk_68_method_6_4) hr) ⟨hrun, hended, _, _, rfl, ?_, ⟨_, rfl⟩, hW, hsame.mono (by decide) (by decide)⟩
  show Q_alen Z a b kb nb vs h0 n0 _ T1.heap _
  rw [e1]
  exact ⟨rfl, N0, rfl⟩

theorem ef_slen (m : MethodId) (x0 : Addr) : entryFrame m #[(.ref x0)] 1 = mkF m 0 #[rv x0] [] := by first | (simp [entryFrame, mkF, argsToLocals, Value.category]; done) | rfl
theorem pn_slen : plainName "java/lang/StringBuilder" = true := by first | (simp [plainName, overriddenIn]; done) | decide +kernel
def Q_slen (Z : State) (a : Addr) (b : Addr) (kb : ClassId) (nb : Int32) (vs : List Value) (h0 : Heap) (n0 : Nat) (v : Option Value) (h : Heap) (L : List Loc) : Prop := v = some (.int nb) ∧ Fr n0 L ∧ h = h0
set_option maxRecDepth 65536 in
set_option maxHeartbeats 40000000 in
theorem rm_slen (l : Launch) (Z : State) (a0 : Array Value) (hw : ∀ d ∈ tables_1, d.before a0 Z = true) (ws : List Jvm.Cond) (a : Addr) (b : Addr) (kb : ClassId) (nb : Int32) (vs : List Value) (h0 : Heap) (n0 : Nat) (Z0 : n0 ≤ h0.size) (O : Old Z n0 h0) (BB : Bld Z h0 a b kb nb vs) :
    MetFree l (⟨"java/lang/StringBuilder", "length", "()I"⟩ : MethodName) (head1 (Jvm.Cond.code (⟨"java/lang/StringBuilder", "length", "()I"⟩ : MethodName) jdk_67_method_93_code 1 (some .int) :: ws) ({ frames := 1, cells := 0, slots := 0, locals := 12 } : Room)) (fun as_ U => as_ = #[(.ref a)] ∧ Z.Warmed39 U.vm ∧ U.heap = h0) (fun _ _ _ _ _ => True) (fun _ U o U' => ∃ v L, o = .returned v ∧ Q_slen Z a b kb nb vs h0 n0 v U'.heap L ∧ FrameEnd U o U' L ({ frames := 1, cells := 0, slots := 0, locals := 12 } : Room).cells ({ frames := 1, cells := 0, slots := 0, locals := 12 } : Room).slots) := by
  refine MetFree.of_bodySF (plainFor_of_name pn_slen) hisR ?_
  intro p e s m args below meth c s₁ Bd hml0 hP hK
  obtain ⟨rfl, hZ, hh⟩ := hP
  have hx := Bd.exec
  have hby := Bd.bytes
  have hml : c.maxLocals = 1 := hml0
  have hown : s.vm.findClass "java/lang/StringBuilder" = some m.cls := findClass_of_methodNamed Bd.named
  have hnm := (name_of_methodNamed Bd.named Bd.method).1
  have X0 : Stand p l e ({ frames := 1, cells := 0, slots := 0, locals := 12 } : Room) s m #[(.ref a)] below meth c s₁ [] 0 0 := Stand.of_body Bd
  have e0 : s₁.heap = h0 := by rw [← hh, Bd.state]; rfl
  have N0 := Fr.nil n0
  refine Go.out ?_
  refine Go.pre (fun t k => castTop (ef_slen m a) k) ?_
  obtain ⟨tE, tC, tV, tN, tA⟩ := BB
  show Go p e below _ (s₁.setTop (mkF m 0 #[rv a] []))
  refine Go.pre (fun _ k => XS.aloadN X0.here hx rfl (hb hby d_jdk_67_method_93_0) rfl rfl k) ?_
  show Go p e below _ (s₁.setTop (mkF m 1 #[rv a] [(.ref a)]))
  obtain ⟨_, _, ⟨T1, L1, k1, n1⟩, -, X1, ⟨Lc1, hQ1, l1, y1, z1⟩, st1⟩ := superBack X0 hx hZ (y := (⟨"java/lang/AbstractStringBuilder", "length", "()I"⟩ : MethodName)) hown (hw _ (List.mem_of_getElem? (i := 162) rfl)) (own_same (hw _ (List.mem_of_getElem? (i := 163) rfl)) (notFace_of_selects (args := a0) (y := (⟨"java/lang/AbstractStringBuilder", "getValue", "()[B"⟩ : MethodName)) (hw _ (List.mem_of_getElem? (i := 154) rfl))) (by decide) rfl (Cond.code_named (hw _ (List.mem_of_getElem? (i := 155) rfl)))) (hw _ (List.mem_of_getElem? (i := 158) rfl)) (hw _ (List.mem_of_getElem? (i := 69) rfl)) (by decide) (backOf (W := 0) (rm_alen l Z a0 hw [] a b kb nb vs h0 n0 Z0 O ⟨tE, tC, tV, tN, tA⟩) hZ (hw _ (List.mem_of_getElem? (i := 163) rfl)) (hw _ (List.mem_of_getElem? (i := 53) rfl)) (by decide) (by decide)) e0 (Ins.self tE) (g := (mkF m 1 #[rv a] [(.ref a)])) rfl (by rw [hml]; rfl) (hw _ (List.mem_of_getElem? (i := 163) rfl)) (argsL := []) (rest := []) (lenOf pd_1 rfl) rfl (by show 2 * 0 + _ ≤ _; exact Nat.le_of_eq rfl) (hb hby d_jdk_67_method_93_1) (fun _ _ => ⟨rfl, e0, (by decide : 0 + 0 ≤ _), (by decide : 0 + 0 ≤ _)⟩)
  dsimp only [Pt.U, Pt.locs, Pt.cells, Pt.slots] at X1 l1 y1 z1 st1 hQ1
  subst l1 y1 z1
  refine Go.pre (own_cut st1) ?_
  obtain ⟨rfl, N1q, eh1⟩ := hQ1
  have N1 := Fr.app N0 N1q
  show Go p e below _ (T1.setTop (mkF m 4 #[rv a] [(.int nb)]))
  obtain ⟨fs, hr, hrun, hended, hW, hsame⟩ := X1.leave (v := some (.int nb)) (fun h => by rw [Bd.returns] at h; cases h)
  refine Go.fin (retI X1 hx Bd.returns (hb hby d_jdk_67_method_93_4) hr) ⟨hrun, hended, _, _, rfl, ?_, ⟨_, rfl⟩, hW, hsame.mono (by decide) (by decide)⟩
  show Q_slen Z a b kb nb vs h0 n0 _ T1.heap _
  rw [eh1]
  exact ⟨rfl, N1, rfl⟩

theorem ef_infl (m : MethodId) (x0 : Addr) (x1 : Addr) : entryFrame m #[(.ref x0), (.ref x1)] 2 = mkF m 0 #[rv x0, rv x1] [] := by first | (simp [entryFrame, mkF, argsToLocals, Value.category]; done) | rfl
theorem pn_infl : plainName "java/lang/AbstractStringBuilder" = true := by first | (simp [plainName, overriddenIn]; done) | decide +kernel
def Q_infl (Z : State) (a : Addr) (b : Addr) (kb : ClassId) (sa : Addr) (bs : Addr) (ks : ClassId) (cs : Int32) (h0 : Heap) (n0 : Nat) (v : Option Value) (h : Heap) (L : List Loc) : Prop := v = none ∧ Fr n0 L ∧ h = h0
set_option maxRecDepth 65536 in
set_option maxHeartbeats 40000000 in
theorem rm_infl (l : Launch) (Z : State) (a0 : Array Value) (hw : ∀ d ∈ tables_1, d.before a0 Z = true) (ws : List Jvm.Cond) (a : Addr) (b : Addr) (kb : ClassId) (sa : Addr) (bs : Addr) (ks : ClassId) (cs : Int32) (h0 : Heap) (n0 : Nat) (Z0 : n0 ≤ h0.size) (O : Old Z n0 h0) (SC : Sta Z Z.heap "java/lang/String" "COMPACT_STRINGS" "Z" (.int cs)) (hcs : ¬ cs = (0 : Int32)) (BB : Bld Z h0 a b kb 0 own_z16) (SS : Str Z h0 sa bs ks 1 [.int 117]) :
    MetFree l (⟨"java/lang/AbstractStringBuilder", "inflateIfNeededFor", "(Ljava/lang/String;)V"⟩ : MethodName) (head1 (Jvm.Cond.code (⟨"java/lang/AbstractStringBuilder", "inflateIfNeededFor", "(Ljava/lang/String;)V"⟩ : MethodName) jdk_68_method_71_code 2 none :: ws) ({ frames := 1, cells := 0, slots := 0, locals := 13 } : Room)) (fun as_ U => as_ = #[(.ref a), (.ref sa)] ∧ Z.Warmed39 U.vm ∧ U.heap = h0) (fun _ _ _ _ _ => True) (fun _ U o U' => ∃ v L, o = .returned v ∧ Q_infl Z a b kb sa bs ks cs h0 n0 v U'.heap L ∧ FrameEnd U o U' L ({ frames := 1, cells := 0, slots := 0, locals := 13 } : Room).cells ({ frames := 1, cells := 0, slots := 0, locals := 13 } : Room).slots) := by
  refine MetFree.of_bodySF (plainFor_of_name pn_infl) hisR ?_
  intro p e s m args below meth c s₁ Bd hml0 hP hK
  obtain ⟨rfl, hZ, hh⟩ := hP
  have hx := Bd.exec
  have hby := Bd.bytes
  have hml : c.maxLocals = 2 := hml0
  have hown : s.vm.findClass "java/lang/AbstractStringBuilder" = some m.cls := findClass_of_methodNamed Bd.named
  have hnm := (name_of_methodNamed Bd.named Bd.method).1
  have X0 : Stand p l e ({ frames := 1, cells := 0, slots := 0, locals := 13 } : Room) s m #[(.ref a), (.ref sa)] below meth c s₁ [] 0 0 := Stand.of_body Bd
  have e0 : s₁.heap = h0 := by rw [← hh, Bd.state]; rfl
  have N0 := Fr.nil n0
  refine Go.out ?_
  refine Go.pre (fun t k => castTop (ef_infl m a sa) k) ?_
  obtain ⟨tE, tC, tV, tN, tA⟩ := BB
  obtain ⟨sE, sC, sV, sA⟩ := SS
  show Go p e below _ (s₁.setTop (mkF m 0 #[rv a, rv sa] []))
  obtain ⟨T1, X1, e1, st1⟩ := getS2 X0 hx hZ hown (host := "") (Or.inl (hw _ (List.mem_of_getElem? (i := 56) rfl))) Via.refl e0 (SC.ext O.2) (g := (mkF m 0 #[rv a, rv sa] [])) rfl (hb hby d_jdk_68_method_71_0)
  refine Go.pre st1 ?_
  show Go p e below _ (T1.setTop (mkF m 3 #[rv a, rv sa] [(.int cs)]))
  refine Go.pre (fun _ k => XS.ifNo X1.here hx rfl (hb hby d_jdk_68_method_71_3) rfl ((if0 _ _).trans (feq hcs).1) k) ?_
  show Go p e below _ (T1.setTop (mkF m 6 #[rv a, rv sa] []))
  refine Go.pre (fun _ k => XS.aloadN X1.here hx rfl (hb hby d_jdk_68_method_71_6) rfl rfl k) ?_
  show Go p e below _ (T1.setTop (mkF m 7 #[rv a, rv sa] [(.ref a)]))
  obtain ⟨T2, X2, e2, st2⟩ := getF X1 hx hZ hown (host := "") (Or.inl (hw _ (List.mem_of_getElem? (i := 59) rfl))) Via.refl e1 tC (g := (mkF m 7 #[rv a, rv sa] [(.ref a)])) rfl rfl (hb hby d_jdk_68_method_71_7)
  refine Go.pre st2 ?_
  show Go p e below _ (T2.setTop (mkF m 10 #[rv a, rv sa] [(.int (0 : Int32))]))
  refine Go.pre (fun _ k => XS.aloadN X2.here hx rfl (hb hby d_jdk_68_method_71_10) rfl rfl k) ?_
  show Go p e below _ (T2.setTop (mkF m 11 #[rv a, rv sa] [(.ref sa), (.int (0 : Int32))]))
  obtain ⟨cq3, kq3, q3a, q3b, q3c⟩ := isOf hZ e2 sE
  obtain ⟨_, _, ⟨T3, L3, k3, n3⟩, -, X3, ⟨Lc3, hQ3, l3, y3, z3⟩, st3⟩ := X2.virtualBack hx (y := (⟨"java/lang/String", "coder", "()B"⟩ : MethodName)) (z := (⟨"java/lang/String", "coder", "()B"⟩ : MethodName)) hown (mvT hZ (hw _ (List.mem_of_getElem? (i := 102) rfl))) (mvT hZ (hw _ (List.mem_of_getElem? (i := 79) rfl))) (notFace_of_selects (args := #[]) (mvT hZ (hw _ (List.mem_of_getElem? (i := 81) rfl)))) (mvT hZ (hw _ (List.mem_of_getElem? (i := 81) rfl))) (mvT hZ (hw _ (List.mem_of_getElem? (i := 80) rfl))) (by decide) (backOf (W := 1) (rm_coder l Z a0 hw [] sa cs h0 n0 Z0 O SC hcs sC) hZ (hw _ (List.mem_of_getElem? (i := 82) rfl)) (hw _ (List.mem_of_getElem? (i := 7) rfl)) (by decide) (by decide)) q3a q3c (g := (mkF m 11 #[rv a, rv sa] [(.ref sa), (.int (0 : Int32))])) rfl (by rw [hml]; rfl) (Steps.refl _) (argsL := []) (rest := [(.int (0 : Int32))]) (lenOf pd_0 rfl) rfl (by show 2 * 0 + _ ≤ _; exact Nat.le_of_eq rfl) (hb hby d_jdk_68_method_71_11) (fun _ _ => ⟨rfl, e2, (by decide : 0 + 0 ≤ _), (by decide : 0 + 0 ≤ _)⟩)
  dsimp only [Pt.U, Pt.locs, Pt.cells, Pt.slots] at X3 l3 y3 z3 st3 hQ3
  subst l3 y3 z3
  refine Go.pre (own_cut st3) ?_
  obtain ⟨rfl, N3q, eh3⟩ := hQ3
  have N3 := Fr.app N0 N3q
  show Go p e below _ (T3.setTop (mkF m 14 #[rv a, rv sa] [(.int (0 : Int32)), (.int (0 : Int32))]))
  refine Go.pre (fun _ k => XS.icmpYes X3.here hx rfl (pc0 := 14) (pc' := 21) rfl (hb hby d_jdk_68_method_71_14) rfl (teq (by decide : (0 : Int32) = (0 : Int32))).1 (by decide) (by decide) k) ?_
  show Go p e below _ (T3.setTop (mkF m 21 #[rv a, rv sa] []))
  obtain ⟨fs, hr, hrun, hended, hW, hsame⟩ := X3.leave (v := none) (fun _ => rfl)
  refine Go.fin (X3.returnOut hx Bd.returns (hb hby d_jdk_68_method_71_21) hr) ⟨hrun, hended, _, _, rfl, ?_, ⟨_, rfl⟩, hW, hsame.mono (by decide) (by decide)⟩
  show Q_infl Z a b kb sa bs ks cs h0 n0 _ T3.heap _
  rw [eh3]
  exact ⟨rfl, N3, rfl⟩

theorem ef_gb (m : MethodId) (x0 : Addr) (x1 : Addr) (x2 : Int32) (x3 : Int32) : entryFrame m #[(.ref x0), (.ref x1), (.int x2), (.int x3)] 4 = mkF m 0 #[rv x0, rv x1, iv x2, iv x3] [] := by first | (simp [entryFrame, mkF, argsToLocals, Value.category]; done) | rfl
theorem pn_gb : plainName "java/lang/String" = true := by first | (simp [plainName, overriddenIn]; done) | decide +kernel
def Q_gb (Z : State) (sa : Addr) (bs : Addr) (ks : ClassId) (b : Addr) (kb : ClassId) (cs : Int32) (h0 : Heap) (n0 : Nat) (v : Option Value) (h : Heap) (L : List Loc) : Prop := v = none ∧ Fr n0 L ∧ Keep h0 h [b] ∧ Arv Z h b kb .byte 16 (own_v0.map Value.int) (.int 0)
set_option maxRecDepth 65536 in
set_option maxHeartbeats 40000000 in
theorem rm_gb (l : Launch) (Z : State) (a0 : Array Value) (hw : ∀ d ∈ tables_1, d.before a0 Z = true) (ws : List Jvm.Cond) (sa : Addr) (bs : Addr) (ks : ClassId) (b : Addr) (kb : ClassId) (cs : Int32) (h0 : Heap) (n0 : Nat) (Z0 : n0 ≤ h0.size) (O : Old Z n0 h0) (SC : Sta Z Z.heap "java/lang/String" "COMPACT_STRINGS" "Z" (.int cs)) (hcs : ¬ cs = (0 : Int32)) (SS : Str Z h0 sa bs ks 1 [.int 117]) (tA : Arv Z h0 b kb .byte 16 own_z16 (.int 0)) (gb_ : n0 ≤ b) :
    MetFree l (⟨"java/lang/String", "getBytes", "([BIB)V"⟩ : MethodName) (head1 (Jvm.Cond.code (⟨"java/lang/String", "getBytes", "([BIB)V"⟩ : MethodName) jdk_42_method_147_code 4 none :: ws) ({ frames := 1, cells := 0, slots := 0, locals := 30 } : Room)) (fun as_ U => as_ = #[(.ref sa), (.ref b), (.int (0 : Int32)), (.int (0 : Int32))] ∧ Z.Warmed39 U.vm ∧ U.heap = h0) (fun _ _ _ _ _ => True) (fun _ U o U' => ∃ v L, o = .returned v ∧ Q_gb Z sa bs ks b kb cs h0 n0 v U'.heap L ∧ FrameEnd U o U' L ({ frames := 1, cells := 0, slots := 0, locals := 30 } : Room).cells ({ frames := 1, cells := 0, slots := 0, locals := 30 } : Room).slots) := by
  refine MetFree.of_bodySF (plainFor_of_name pn_gb) hisR ?_
  intro p e s m args below meth c s₁ Bd hml0 hP hK
  obtain ⟨rfl, hZ, hh⟩ := hP
  have hx := Bd.exec
  have hby := Bd.bytes
  have hml : c.maxLocals = 4 := hml0
  have hown : s.vm.findClass "java/lang/String" = some m.cls := findClass_of_methodNamed Bd.named
  have hnm := (name_of_methodNamed Bd.named Bd.method).1
  have X0 : Stand p l e ({ frames := 1, cells := 0, slots := 0, locals := 30 } : Room) s m #[(.ref sa), (.ref b), (.int (0 : Int32)), (.int (0 : Int32))] below meth c s₁ [] 0 0 := Stand.of_body Bd
  have e0 : s₁.heap = h0 := by rw [← hh, Bd.state]; rfl
  have N0 := Fr.nil n0
  refine Go.out ?_
  refine Go.pre (fun t k => castTop (ef_gb m sa b (0 : Int32) (0 : Int32)) k) ?_
  obtain ⟨sE, sC, sV, sA⟩ := SS
  show Go p e below _ (s₁.setTop (mkF m 0 #[rv sa, rv b, iv (0 : Int32), iv (0 : Int32)] []))
  refine Go.pre (fun _ k => XS.aloadN X0.here hx rfl (hb hby d_jdk_42_method_147_0) rfl rfl k) ?_
  show Go p e below _ (s₁.setTop (mkF m 1 #[rv sa, rv b, iv (0 : Int32), iv (0 : Int32)] [(.ref sa)]))
  obtain ⟨cq1, kq1, q1a, q1b, q1c⟩ := isOf hZ e0 sE
  obtain ⟨_, _, ⟨T1, L1, k1, n1⟩, -, X1, ⟨Lc1, hQ1, l1, y1, z1⟩, st1⟩ := X0.virtualBack hx (y := (⟨"java/lang/String", "coder", "()B"⟩ : MethodName)) (z := (⟨"java/lang/String", "coder", "()B"⟩ : MethodName)) hown (mvT hZ (hw _ (List.mem_of_getElem? (i := 78) rfl))) (mvT hZ (hw _ (List.mem_of_getElem? (i := 79) rfl))) (notFace_of_selects (args := #[]) (mvT hZ (hw _ (List.mem_of_getElem? (i := 81) rfl)))) (mvT hZ (hw _ (List.mem_of_getElem? (i := 81) rfl))) (mvT hZ (hw _ (List.mem_of_getElem? (i := 80) rfl))) (by decide) (backOf (W := 0) (rm_coder l Z a0 hw [] sa cs h0 n0 Z0 O SC hcs sC) hZ (hw _ (List.mem_of_getElem? (i := 82) rfl)) (hw _ (List.mem_of_getElem? (i := 7) rfl)) (by decide) (by decide)) q1a q1c (g := (mkF m 1 #[rv sa, rv b, iv (0 : Int32), iv (0 : Int32)] [(.ref sa)])) rfl (by rw [hml]; rfl) (Steps.refl _) (argsL := []) (rest := []) (lenOf pd_0 rfl) rfl (by show 2 * 0 + _ ≤ _; exact Nat.le_of_eq rfl) (hb hby d_jdk_42_method_147_1) (fun _ _ => ⟨rfl, e0, (by decide : 0 + 0 ≤ _), (by decide : 0 + 0 ≤ _)⟩)
  dsimp only [Pt.U, Pt.locs, Pt.cells, Pt.slots] at X1 l1 y1 z1 st1 hQ1
  subst l1 y1 z1
  refine Go.pre (own_cut st1) ?_
  obtain ⟨rfl, N1q, eh1⟩ := hQ1
  have N1 := Fr.app N0 N1q
  show Go p e below _ (T1.setTop (mkF m 4 #[rv sa, rv b, iv (0 : Int32), iv (0 : Int32)] [(.int (0 : Int32))]))
  refine Go.pre (fun _ k => XS.iloadN X1.here hx rfl (hb hby d_jdk_42_method_147_4) rfl k) ?_
  show Go p e below _ (T1.setTop (mkF m 5 #[rv sa, rv b, iv (0 : Int32), iv (0 : Int32)] [(.int (0 : Int32)), (.int (0 : Int32))]))
  refine Go.pre (fun _ k => XS.icmpNo X1.here hx rfl (hb hby d_jdk_42_method_147_5) rfl (teq (by decide : (0 : Int32) = (0 : Int32))).2 k) ?_
  show Go p e below _ (T1.setTop (mkF m 8 #[rv sa, rv b, iv (0 : Int32), iv (0 : Int32)] []))
  refine Go.pre (fun _ k => XS.aloadN X1.here hx rfl (hb hby d_jdk_42_method_147_8) rfl rfl k) ?_
  show Go p e below _ (T1.setTop (mkF m 9 #[rv sa, rv b, iv (0 : Int32), iv (0 : Int32)] [(.ref sa)]))
  obtain ⟨T2, X2, e2, st2⟩ := getF X1 hx hZ hown (host := "") (Or.inl (hw _ (List.mem_of_getElem? (i := 77) rfl))) Via.refl eh1 sV (g := (mkF m 9 #[rv sa, rv b, iv (0 : Int32), iv (0 : Int32)] [(.ref sa)])) rfl rfl (hb hby d_jdk_42_method_147_9)
  refine Go.pre st2 ?_
  show Go p e below _ (T2.setTop (mkF m 12 #[rv sa, rv b, iv (0 : Int32), iv (0 : Int32)] [(.ref bs)]))
  refine Go.pre (fun _ k => XS.iconst X2.here hx rfl (hb hby d_jdk_42_method_147_12) k) ?_
  show Go p e below _ (T2.setTop (mkF m 13 #[rv sa, rv b, iv (0 : Int32), iv (0 : Int32)] [(.int (0 : Int32)), (.ref bs)]))
  refine Go.pre (fun _ k => XS.aloadN X2.here hx rfl (hb hby d_jdk_42_method_147_13) rfl rfl k) ?_
  show Go p e below _ (T2.setTop (mkF m 14 #[rv sa, rv b, iv (0 : Int32), iv (0 : Int32)] [(.ref b), (.int (0 : Int32)), (.ref bs)]))
  refine Go.pre (fun _ k => XS.iloadN X2.here hx rfl (hb hby d_jdk_42_method_147_14) rfl k) ?_
  show Go p e below _ (T2.setTop (mkF m 15 #[rv sa, rv b, iv (0 : Int32), iv (0 : Int32)] [(.int (0 : Int32)), (.ref b), (.int (0 : Int32)), (.ref bs)]))
  refine Go.pre (fun _ k => XS.iloadN X2.here hx rfl (hb hby d_jdk_42_method_147_15) rfl k) ?_
  show Go p e below _ (T2.setTop (mkF m 16 #[rv sa, rv b, iv (0 : Int32), iv (0 : Int32)] [(.int (0 : Int32)), (.int (0 : Int32)), (.ref b), (.int (0 : Int32)), (.ref bs)]))
  refine Go.pre (fun _ k => XS.ishl X2.here hx rfl (hb hby d_jdk_42_method_147_16) rfl k) ?_
  show Go p e below _ (T2.setTop (mkF m 17 #[rv sa, rv b, iv (0 : Int32), iv (0 : Int32)] [(.int ((0 : Int32) <<< ((0 : Int32) &&& 31))), (.ref b), (.int (0 : Int32)), (.ref bs)]))
  rw [own_shl0]
  show Go p e below _ (T2.setTop (mkF m 17 #[rv sa, rv b, iv (0 : Int32), iv (0 : Int32)] [(.int (0 : Int32)), (.ref b), (.int (0 : Int32)), (.ref bs)]))
  refine Go.pre (fun _ k => XS.aloadN X2.here hx rfl (hb hby d_jdk_42_method_147_17) rfl rfl k) ?_
  show Go p e below _ (T2.setTop (mkF m 18 #[rv sa, rv b, iv (0 : Int32), iv (0 : Int32)] [(.ref sa), (.int (0 : Int32)), (.ref b), (.int (0 : Int32)), (.ref bs)]))
  obtain ⟨T3, X3, e3, st3⟩ := getF X2 hx hZ hown (host := "") (Or.inl (hw _ (List.mem_of_getElem? (i := 77) rfl))) Via.refl e2 sV (g := (mkF m 18 #[rv sa, rv b, iv (0 : Int32), iv (0 : Int32)] [(.ref sa), (.int (0 : Int32)), (.ref b), (.int (0 : Int32)), (.ref bs)])) rfl rfl (hb hby d_jdk_42_method_147_18)
  refine Go.pre st3 ?_
  show Go p e below _ (T3.setTop (mkF m 21 #[rv sa, rv b, iv (0 : Int32), iv (0 : Int32)] [(.ref bs), (.int (0 : Int32)), (.ref b), (.int (0 : Int32)), (.ref bs)]))
  obtain ⟨cl4, Ar4, -, S4, N4z, -, -⟩ := id sA
  refine Go.pre (X3.arraylength hx (by rw [e3]; exact Ar4.1) (State.isArrayOf_alike hZ.alike Ar4.2.1) (g := (mkF m 21 #[rv sa, rv b, iv (0 : Int32), iv (0 : Int32)] [(.ref bs), (.int (0 : Int32)), (.ref b), (.int (0 : Int32)), (.ref bs)])) rfl rfl (hb hby d_jdk_42_method_147_21)) ?_
  rw [len_of S4 N4z]
  show Go p e below _ (T3.setTop (mkF m 22 #[rv sa, rv b, iv (0 : Int32), iv (0 : Int32)] [(.int (1 : Int32)), (.int (0 : Int32)), (.ref b), (.int (0 : Int32)), (.ref bs)]))
  obtain ⟨T5, h5, L5, X5, e5, N5, K5, V5, st5⟩ := cpA X3 hx hZ hown (hw _ (List.mem_of_getElem? (i := 108) rfl)) (hw _ (List.mem_of_getElem? (i := 111) rfl)) (hw _ (List.mem_of_getElem? (i := 109) rfl)) (hw _ (List.mem_of_getElem? (i := 110) rfl)) e3 sA tA (Or.inl ⟨rfl, rfl⟩) (by decide) (by decide) (by decide) (by decide) (by decide) (us := [.int 117]) rfl (by decide) N1 gb_ (g := (mkF m 22 #[rv sa, rv b, iv (0 : Int32), iv (0 : Int32)] [(.int (1 : Int32)), (.int (0 : Int32)), (.ref b), (.int (0 : Int32)), (.ref bs)])) rfl (by rw [hml]; rfl) (rest := []) rfl (hb hby d_jdk_42_method_147_22) (by decide) (W := 0) (by show 2 * 0 + _ ≤ _; exact Nat.le_of_eq rfl) (by decide)
  refine Go.pre st5 ?_
  have KC5 : Keep h0 h5 [b] := (Keep.refl h0 [b]).trans K5 (allS (Or.inl (List.mem_of_getElem? (i := 0) rfl)) all0)
  have V5 : Arv Z h5 b kb .byte (16 : Int32) (own_v0.map Value.int) (.int 0) := V5
  show Go p e below _ (T5.setTop (mkF m 25 #[rv sa, rv b, iv (0 : Int32), iv (0 : Int32)] []))
  refine Go.pre (fun _ k => XS.goto X5.here hx rfl (pc0 := 25) (pc' := 43) rfl (hb hby d_jdk_42_method_147_25) (by decide) (by decide) k) ?_
  show Go p e below _ (T5.setTop (mkF m 43 #[rv sa, rv b, iv (0 : Int32), iv (0 : Int32)] []))
  obtain ⟨fs, hr, hrun, hended, hW, hsame⟩ := X5.leave (v := none) (fun _ => rfl)
  refine Go.fin (X5.returnOut hx Bd.returns (hb hby d_jdk_42_method_147_43) hr) ⟨hrun, hended, _, _, rfl, ?_, ⟨_, rfl⟩, hW, hsame.mono (by decide) (by decide)⟩
  show Q_gb Z sa bs ks b kb cs h0 n0 _ T5.heap _
  rw [e5]
  exact ⟨rfl, N5, KC5, V5⟩

theorem ef_psa (m : MethodId) (x0 : Addr) (x1 : Int32) (x2 : Addr) : entryFrame m #[(.ref x0), (.int x1), (.ref x2)] 3 = mkF m 0 #[rv x0, iv x1, rv x2] [] := by first | (simp [entryFrame, mkF, argsToLocals, Value.category]; done) | rfl
theorem pn_psa : plainName "java/lang/AbstractStringBuilder" = true := by first | (simp [plainName, overriddenIn]; done) | decide +kernel
def Q_psa (Z : State) (a : Addr) (b : Addr) (kb : ClassId) (sa : Addr) (bs : Addr) (ks : ClassId) (cs : Int32) (h0 : Heap) (n0 : Nat) (v : Option Value) (h : Heap) (L : List Loc) : Prop := v = none ∧ Fr n0 L ∧ Keep h0 h [b] ∧ Arv Z h b kb .byte 16 (own_v0.map Value.int) (.int 0)
set_option maxRecDepth 65536 in
set_option maxHeartbeats 40000000 in
theorem rm_psa (l : Launch) (Z : State) (a0 : Array Value) (hw : ∀ d ∈ tables_1, d.before a0 Z = true) (ws : List Jvm.Cond) (a : Addr) (b : Addr) (kb : ClassId) (sa : Addr) (bs : Addr) (ks : ClassId) (cs : Int32) (h0 : Heap) (n0 : Nat) (Z0 : n0 ≤ h0.size) (O : Old Z n0 h0) (SC : Sta Z Z.heap "java/lang/String" "COMPACT_STRINGS" "Z" (.int cs)) (hcs : ¬ cs = (0 : Int32)) (BB : Bld Z h0 a b kb 0 own_z16) (SS : Str Z h0 sa bs ks 1 [.int 117]) (gb_ : n0 ≤ b) (hne : bs ≠ b) :
    MetFree l (⟨"java/lang/AbstractStringBuilder", "putStringAt", "(ILjava/lang/String;)V"⟩ : MethodName) (head1 (Jvm.Cond.code (⟨"java/lang/AbstractStringBuilder", "putStringAt", "(ILjava/lang/String;)V"⟩ : MethodName) jdk_68_method_73_code 3 none :: ws) ({ frames := 2, cells := 0, slots := 0, locals := 48 } : Room)) (fun as_ U => as_ = #[(.ref a), (.int (0 : Int32)), (.ref sa)] ∧ Z.Warmed39 U.vm ∧ U.heap = h0) (fun _ _ _ _ _ => True) (fun _ U o U' => ∃ v L, o = .returned v ∧ Q_psa Z a b kb sa bs ks cs h0 n0 v U'.heap L ∧ FrameEnd U o U' L ({ frames := 2, cells := 0, slots := 0, locals := 48 } : Room).cells ({ frames := 2, cells := 0, slots := 0, locals := 48 } : Room).slots) := by
  refine MetFree.of_bodySF (plainFor_of_name pn_psa) hisR ?_
  intro p e s m args below meth c s₁ Bd hml0 hP hK
  obtain ⟨rfl, hZ, hh⟩ := hP
  have hx := Bd.exec
  have hby := Bd.bytes
  have hml : c.maxLocals = 3 := hml0
  have hown : s.vm.findClass "java/lang/AbstractStringBuilder" = some m.cls := findClass_of_methodNamed Bd.named
  have hnm := (name_of_methodNamed Bd.named Bd.method).1
  have X0 : Stand p l e ({ frames := 2, cells := 0, slots := 0, locals := 48 } : Room) s m #[(.ref a), (.int (0 : Int32)), (.ref sa)] below meth c s₁ [] 0 0 := Stand.of_body Bd
  have e0 : s₁.heap = h0 := by rw [← hh, Bd.state]; rfl
  have N0 := Fr.nil n0
  refine Go.out ?_
  refine Go.pre (fun t k => castTop (ef_psa m a (0 : Int32) sa) k) ?_
  obtain ⟨tE, tC, tV, tN, tA⟩ := BB
  obtain ⟨sE, sC, sV, sA⟩ := SS
  have neab : a ≠ b := Exa.neArv tE tA (hw _ (List.mem_of_getElem? (i := 44) rfl))
  have nesb : sa ≠ b := Exa.neArv sE tA (hw _ (List.mem_of_getElem? (i := 8) rfl))
  have nesa : sa ≠ a := Exa.ne sE tE (by decide)
  have neba : bs ≠ a := Ne.symm (Exa.neArv tE sA (hw _ (List.mem_of_getElem? (i := 44) rfl)))
  show Go p e below _ (s₁.setTop (mkF m 0 #[rv a, iv (0 : Int32), rv sa] []))
  refine Go.pre (fun _ k => XS.aloadN X0.here hx rfl (hb hby d_jdk_68_method_73_0) rfl rfl k) ?_
  show Go p e below _ (s₁.setTop (mkF m 1 #[rv a, iv (0 : Int32), rv sa] [(.ref a)]))
  refine Go.pre (fun _ k => XS.aloadN X0.here hx rfl (hb hby d_jdk_68_method_73_1) rfl rfl k) ?_
  show Go p e below _ (s₁.setTop (mkF m 2 #[rv a, iv (0 : Int32), rv sa] [(.ref sa), (.ref a)]))
  obtain ⟨cq1, kq1, q1a, q1b, q1c⟩ := isOf hZ e0 tE
  obtain ⟨_, _, ⟨T1, L1, k1, n1⟩, -, X1, ⟨Lc1, hQ1, l1, y1, z1⟩, st1⟩ := X0.virtualBack hx (y := (⟨"java/lang/AbstractStringBuilder", "inflateIfNeededFor", "(Ljava/lang/String;)V"⟩ : MethodName)) (z := (⟨"java/lang/AbstractStringBuilder", "inflateIfNeededFor", "(Ljava/lang/String;)V"⟩ : MethodName)) hown (mvT hZ (hw _ (List.mem_of_getElem? (i := 97) rfl))) (mvT hZ (own_decl (hw _ (List.mem_of_getElem? (i := 98) rfl)) (hw _ (List.mem_of_getElem? (i := 101) rfl)))) (notFace_of_selects (args := #[]) (mvT hZ (hw _ (List.mem_of_getElem? (i := 100) rfl)))) (mvT hZ (hw _ (List.mem_of_getElem? (i := 100) rfl))) (mvT hZ (hw _ (List.mem_of_getElem? (i := 98) rfl))) (by decide) (backOf (W := 0) (rm_infl l Z a0 hw [] a b kb sa bs ks cs h0 n0 Z0 O SC hcs ⟨tE, tC, tV, tN, tA⟩ ⟨sE, sC, sV, sA⟩) hZ (hw _ (List.mem_of_getElem? (i := 101) rfl)) (hw _ (List.mem_of_getElem? (i := 53) rfl)) (by decide) (by decide)) q1a q1c (g := (mkF m 2 #[rv a, iv (0 : Int32), rv sa] [(.ref sa), (.ref a)])) rfl (by rw [hml]; rfl) (Steps.refl _) (argsL := [(.ref sa)]) (rest := []) (lenOf pd_2 rfl) rfl (by show 2 * 0 + _ ≤ _; exact Nat.le_of_eq rfl) (hb hby d_jdk_68_method_73_2) (fun _ _ => ⟨rfl, e0, (by decide : 0 + 0 ≤ _), (by decide : 0 + 0 ≤ _)⟩)
  dsimp only [Pt.U, Pt.locs, Pt.cells, Pt.slots] at X1 l1 y1 z1 st1 hQ1
  subst l1 y1 z1
  refine Go.pre (own_cut st1) ?_
  obtain ⟨rfl, N1q, eh1⟩ := hQ1
  have N1 := Fr.app N0 N1q
  show Go p e below _ (T1.setTop (mkF m 5 #[rv a, iv (0 : Int32), rv sa] []))
  refine Go.pre (fun _ k => XS.aloadN X1.here hx rfl (hb hby d_jdk_68_method_73_5) rfl rfl k) ?_
  show Go p e below _ (T1.setTop (mkF m 6 #[rv a, iv (0 : Int32), rv sa] [(.ref sa)]))
  refine Go.pre (fun _ k => XS.aloadN X1.here hx rfl (hb hby d_jdk_68_method_73_6) rfl rfl k) ?_
  show Go p e below _ (T1.setTop (mkF m 7 #[rv a, iv (0 : Int32), rv sa] [(.ref a), (.ref sa)]))
  obtain ⟨T2, X2, e2, st2⟩ := getF X1 hx hZ hown (host := "") (Or.inl (hw _ (List.mem_of_getElem? (i := 57) rfl))) Via.refl eh1 tV (g := (mkF m 7 #[rv a, iv (0 : Int32), rv sa] [(.ref a), (.ref sa)])) rfl rfl (hb hby d_jdk_68_method_73_7)
  refine Go.pre st2 ?_
  show Go p e below _ (T2.setTop (mkF m 10 #[rv a, iv (0 : Int32), rv sa] [(.ref b), (.ref sa)]))
  refine Go.pre (fun _ k => XS.iloadN X2.here hx rfl (hb hby d_jdk_68_method_73_10) rfl k) ?_
  show Go p e below _ (T2.setTop (mkF m 11 #[rv a, iv (0 : Int32), rv sa] [(.int (0 : Int32)), (.ref b), (.ref sa)]))
  refine Go.pre (fun _ k => XS.aloadN X2.here hx rfl (hb hby d_jdk_68_method_73_11) rfl rfl k) ?_
  show Go p e below _ (T2.setTop (mkF m 12 #[rv a, iv (0 : Int32), rv sa] [(.ref a), (.int (0 : Int32)), (.ref b), (.ref sa)]))
  obtain ⟨T3, X3, e3, st3⟩ := getF X2 hx hZ hown (host := "") (Or.inl (hw _ (List.mem_of_getElem? (i := 59) rfl))) Via.refl e2 tC (g := (mkF m 12 #[rv a, iv (0 : Int32), rv sa] [(.ref a), (.int (0 : Int32)), (.ref b), (.ref sa)])) rfl rfl (hb hby d_jdk_68_method_73_12)
  refine Go.pre st3 ?_
  show Go p e below _ (T3.setTop (mkF m 15 #[rv a, iv (0 : Int32), rv sa] [(.int (0 : Int32)), (.int (0 : Int32)), (.ref b), (.ref sa)]))
  obtain ⟨cq4, kq4, q4a, q4b, q4c⟩ := isOf hZ e3 sE
  obtain ⟨_, _, ⟨T4, L4, k4, n4⟩, -, X4, ⟨Lc4, hQ4, l4, y4, z4⟩, st4⟩ := X3.virtualBack hx (y := (⟨"java/lang/String", "getBytes", "([BIB)V"⟩ : MethodName)) (z := (⟨"java/lang/String", "getBytes", "([BIB)V"⟩ : MethodName)) hown (mvT hZ (hw _ (List.mem_of_getElem? (i := 103) rfl))) (mvT hZ (hw _ (List.mem_of_getElem? (i := 104) rfl))) (notFace_of_selects (args := #[]) (mvT hZ (hw _ (List.mem_of_getElem? (i := 106) rfl)))) (mvT hZ (hw _ (List.mem_of_getElem? (i := 106) rfl))) (mvT hZ (hw _ (List.mem_of_getElem? (i := 105) rfl))) (by decide) (backOf (W := 0) (rm_gb l Z a0 hw [] sa bs ks b kb cs h0 n0 Z0 O SC hcs ⟨sE, sC, sV, sA⟩ tA gb_) hZ (hw _ (List.mem_of_getElem? (i := 107) rfl)) (hw _ (List.mem_of_getElem? (i := 7) rfl)) (by decide) (by decide)) q4a q4c (g := (mkF m 15 #[rv a, iv (0 : Int32), rv sa] [(.int (0 : Int32)), (.int (0 : Int32)), (.ref b), (.ref sa)])) rfl (by rw [hml]; rfl) (Steps.refl _) (argsL := [(.ref b), (.int (0 : Int32)), (.int (0 : Int32))]) (rest := []) (lenOf pd_3 rfl) rfl (by show 2 * 0 + _ ≤ _; exact Nat.le_of_eq rfl) (hb hby d_jdk_68_method_73_15) (fun _ _ => ⟨rfl, e3, (by decide : 0 + 0 ≤ _), (by decide : 0 + 0 ≤ _)⟩)
  dsimp only [Pt.U, Pt.locs, Pt.cells, Pt.slots] at X4 l4 y4 z4 st4 hQ4
  subst l4 y4 z4
  refine Go.pre (own_cut st4) ?_
  obtain ⟨rfl, N4q, K4, V4⟩ := hQ4
  have N4 := Fr.app N1 N4q
  have KC4 : Keep h0 T4.heap [b] := (Keep.refl h0 [b]).trans K4 (allS (Or.inl (List.mem_of_getElem? (i := 0) rfl)) all0)
  show Go p e below _ (T4.setTop (mkF m 18 #[rv a, iv (0 : Int32), rv sa] []))
  obtain ⟨fs, hr, hrun, hended, hW, hsame⟩ := X4.leave (v := none) (fun _ => rfl)
  refine Go.fin (X4.returnOut hx Bd.returns (hb hby d_jdk_68_method_73_18) hr) ⟨hrun, hended, _, _, rfl, ?_, ⟨_, rfl⟩, hW, hsame.mono (by decide) (by decide)⟩
  show Q_psa Z a b kb sa bs ks cs h0 n0 _ T4.heap _
  exact ⟨rfl, N4, KC4, V4⟩

theorem ef_apS (m : MethodId) (x0 : Addr) (x1 : Addr) : entryFrame m #[(.ref x0), (.ref x1)] 3 = mkF m 0 #[rv x0, rv x1, .unset] [] := by first | (simp [entryFrame, mkF, argsToLocals, Value.category]; done) | rfl
theorem pn_apS : plainName "java/lang/AbstractStringBuilder" = true := by first | (simp [plainName, overriddenIn]; done) | decide +kernel
def Q_apS (Z : State) (a : Addr) (b : Addr) (kb : ClassId) (sa : Addr) (bs : Addr) (ks : ClassId) (cs : Int32) (h0 : Heap) (n0 : Nat) (v : Option Value) (h : Heap) (L : List Loc) : Prop := v = some (.ref a) ∧ Fr n0 L ∧ Keep h0 h [a, b] ∧ Bld Z h a b kb 1 (own_v0.map Value.int)
set_option maxRecDepth 65536 in
set_option maxHeartbeats 40000000 in
theorem rm_apS (l : Launch) (Z : State) (a0 : Array Value) (hw : ∀ d ∈ tables_1, d.before a0 Z = true) (ws : List Jvm.Cond) (a : Addr) (b : Addr) (kb : ClassId) (sa : Addr) (bs : Addr) (ks : ClassId) (cs : Int32) (h0 : Heap) (n0 : Nat) (Z0 : n0 ≤ h0.size) (O : Old Z n0 h0) (SC : Sta Z Z.heap "java/lang/String" "COMPACT_STRINGS" "Z" (.int cs)) (hcs : ¬ cs = (0 : Int32)) (BB : Bld Z h0 a b kb 0 own_z16) (SS : Str Z h0 sa bs ks 1 [.int 117]) (ga : n0 ≤ a) (gb_ : n0 ≤ b) (hne : bs ≠ b) :
    MetFree l (⟨"java/lang/AbstractStringBuilder", "append", "(Ljava/lang/String;)Ljava/lang/AbstractStringBuilder;"⟩ : MethodName) (head1 (Jvm.Cond.code (⟨"java/lang/AbstractStringBuilder", "append", "(Ljava/lang/String;)Ljava/lang/AbstractStringBuilder;"⟩ : MethodName) jdk_68_method_22_code 3 (some (.object "java/lang/AbstractStringBuilder")) :: ws) ({ frames := 3, cells := 0, slots := 0, locals := 63 } : Room)) (fun as_ U => as_ = #[(.ref a), (.ref sa)] ∧ Z.Warmed39 U.vm ∧ U.heap = h0) (fun _ _ _ _ _ => True) (fun _ U o U' => ∃ v L, o = .returned v ∧ Q_apS Z a b kb sa bs ks cs h0 n0 v U'.heap L ∧ FrameEnd U o U' L ({ frames := 3, cells := 0, slots := 0, locals := 63 } : Room).cells ({ frames := 3, cells := 0, slots := 0, locals := 63 } : Room).slots) := by
  refine MetFree.of_bodySF (plainFor_of_name pn_apS) hisR ?_
  intro p e s m args below meth c s₁ Bd hml0 hP hK
  obtain ⟨rfl, hZ, hh⟩ := hP
  have hx := Bd.exec
  have hby := Bd.bytes
  have hml : c.maxLocals = 3 := hml0
  have hown : s.vm.findClass "java/lang/AbstractStringBuilder" = some m.cls := findClass_of_methodNamed Bd.named
  have hnm := (name_of_methodNamed Bd.named Bd.method).1
  have X0 : Stand p l e ({ frames := 3, cells := 0, slots := 0, locals := 63 } : Room) s m #[(.ref a), (.ref sa)] below meth c s₁ [] 0 0 := Stand.of_body Bd
  have e0 : s₁.heap = h0 := by rw [← hh, Bd.state]; rfl
  have N0 := Fr.nil n0
  refine Go.out ?_
  refine Go.pre (fun t k => castTop (ef_apS m a sa) k) ?_
  obtain ⟨tE, tC, tV, tN, tA⟩ := BB
  obtain ⟨sE, sC, sV, sA⟩ := SS
  have neab : a ≠ b := Exa.neArv tE tA (hw _ (List.mem_of_getElem? (i := 44) rfl))
  have nesb : sa ≠ b := Exa.neArv sE tA (hw _ (List.mem_of_getElem? (i := 8) rfl))
  have nesa : sa ≠ a := Exa.ne sE tE (by decide)
  have neba : bs ≠ a := Ne.symm (Exa.neArv tE sA (hw _ (List.mem_of_getElem? (i := 44) rfl)))
  show Go p e below _ (s₁.setTop (mkF m 0 #[rv a, rv sa, .unset] []))
  refine Go.pre (fun _ k => XS.aloadN X0.here hx rfl (hb hby d_jdk_68_method_22_0) rfl rfl k) ?_
  show Go p e below _ (s₁.setTop (mkF m 1 #[rv a, rv sa, .unset] [(.ref sa)]))
  refine Go.pre (fun _ k => XS.ifnonnullYes X0.here hx rfl (pc0 := 1) (pc' := 9) rfl (hb hby d_jdk_68_method_22_1) rfl (by decide) (by decide) k) ?_
  show Go p e below _ (s₁.setTop (mkF m 9 #[rv a, rv sa, .unset] []))
  refine Go.pre (fun _ k => XS.aloadN X0.here hx rfl (hb hby d_jdk_68_method_22_9) rfl rfl k) ?_
  show Go p e below _ (s₁.setTop (mkF m 10 #[rv a, rv sa, .unset] [(.ref sa)]))
  obtain ⟨cq1, kq1, q1a, q1b, q1c⟩ := isOf hZ e0 sE
  obtain ⟨_, _, ⟨T1, L1, k1, n1⟩, -, X1, ⟨Lc1, hQ1, l1, y1, z1⟩, st1⟩ := X0.virtualBack hx (y := (⟨"java/lang/String", "length", "()I"⟩ : MethodName)) (z := (⟨"java/lang/String", "length", "()I"⟩ : MethodName)) hown (mvT hZ (hw _ (List.mem_of_getElem? (i := 72) rfl))) (mvT hZ (hw _ (List.mem_of_getElem? (i := 73) rfl))) (notFace_of_selects (args := #[]) (mvT hZ (hw _ (List.mem_of_getElem? (i := 75) rfl)))) (mvT hZ (hw _ (List.mem_of_getElem? (i := 75) rfl))) (mvT hZ (hw _ (List.mem_of_getElem? (i := 74) rfl))) (by decide) (backOf (W := 0) (rm_length l Z a0 hw [] sa bs ks 1 [.int 117] cs h0 n0 Z0 O SC hcs ⟨sE, sC, sV, sA⟩) hZ (hw _ (List.mem_of_getElem? (i := 76) rfl)) (hw _ (List.mem_of_getElem? (i := 7) rfl)) (by decide) (by decide)) q1a q1c (g := (mkF m 10 #[rv a, rv sa, .unset] [(.ref sa)])) rfl (by rw [hml]; rfl) (Steps.refl _) (argsL := []) (rest := []) (lenOf pd_1 rfl) rfl (by show 2 * 0 + _ ≤ _; exact Nat.le_of_eq rfl) (hb hby d_jdk_68_method_22_10) (fun _ _ => ⟨rfl, e0, (by decide : 0 + 0 ≤ _), (by decide : 0 + 0 ≤ _)⟩)
  dsimp only [Pt.U, Pt.locs, Pt.cells, Pt.slots] at X1 l1 y1 z1 st1 hQ1
  subst l1 y1 z1
  refine Go.pre (own_cut st1) ?_
  obtain ⟨rfl, N1q, eh1⟩ := hQ1
  have N1 := Fr.app N0 N1q
  show Go p e below _ (T1.setTop (mkF m 13 #[rv a, rv sa, .unset] [(.int (1 : Int32))]))
  refine Go.pre (fun _ k => XS.istoreN X1.here hx rfl (hb hby d_jdk_68_method_22_13) rfl (l' := #[rv a, rv sa, iv (1 : Int32)]) rfl k) ?_
  show Go p e below _ (T1.setTop (mkF m 14 #[rv a, rv sa, iv (1 : Int32)] []))
  refine Go.pre (fun _ k => XS.aloadN X1.here hx rfl (hb hby d_jdk_68_method_22_14) rfl rfl k) ?_
  show Go p e below _ (T1.setTop (mkF m 15 #[rv a, rv sa, iv (1 : Int32)] [(.ref a)]))
  refine Go.pre (fun _ k => XS.aloadN X1.here hx rfl (hb hby d_jdk_68_method_22_15) rfl rfl k) ?_
  show Go p e below _ (T1.setTop (mkF m 16 #[rv a, rv sa, iv (1 : Int32)] [(.ref a), (.ref a)]))
  obtain ⟨T2, X2, e2, st2⟩ := getF X1 hx hZ hown (host := "") (Or.inl (hw _ (List.mem_of_getElem? (i := 85) rfl))) Via.refl eh1 tN (g := (mkF m 16 #[rv a, rv sa, iv (1 : Int32)] [(.ref a), (.ref a)])) rfl rfl (hb hby d_jdk_68_method_22_16)
  refine Go.pre st2 ?_
  show Go p e below _ (T2.setTop (mkF m 19 #[rv a, rv sa, iv (1 : Int32)] [(.int (0 : Int32)), (.ref a)]))
  refine Go.pre (fun _ k => XS.iloadN X2.here hx rfl (hb hby d_jdk_68_method_22_19) rfl k) ?_
  show Go p e below _ (T2.setTop (mkF m 20 #[rv a, rv sa, iv (1 : Int32)] [(.int (1 : Int32)), (.int (0 : Int32)), (.ref a)]))
  refine Go.pre (fun _ k => XS.iadd X2.here hx rfl (hb hby d_jdk_68_method_22_20) rfl k) ?_
  show Go p e below _ (T2.setTop (mkF m 21 #[rv a, rv sa, iv (1 : Int32)] [(.int (1 : Int32)), (.ref a)]))
  obtain ⟨cq3, kq3, q3a, q3b, q3c⟩ := isOf hZ e2 tE
  obtain ⟨_, _, ⟨T3, L3, k3, n3⟩, -, X3, ⟨Lc3, hQ3, l3, y3, z3⟩, st3⟩ := X2.virtualBack hx (y := (⟨"java/lang/AbstractStringBuilder", "ensureCapacityInternal", "(I)V"⟩ : MethodName)) (z := (⟨"java/lang/AbstractStringBuilder", "ensureCapacityInternal", "(I)V"⟩ : MethodName)) hown (mvT hZ (hw _ (List.mem_of_getElem? (i := 87) rfl))) (mvT hZ (own_decl (hw _ (List.mem_of_getElem? (i := 88) rfl)) (hw _ (List.mem_of_getElem? (i := 91) rfl)))) (notFace_of_selects (args := #[]) (mvT hZ (hw _ (List.mem_of_getElem? (i := 90) rfl)))) (mvT hZ (hw _ (List.mem_of_getElem? (i := 90) rfl))) (mvT hZ (hw _ (List.mem_of_getElem? (i := 88) rfl))) (by decide) (backOf (W := 0) (rm_ens l Z a0 hw [] a b kb (0 : Int32) own_z16 1 h0 n0 Z0 O ⟨tE, tC, tV, tN, tA⟩ (by omega)) hZ (hw _ (List.mem_of_getElem? (i := 91) rfl)) (hw _ (List.mem_of_getElem? (i := 53) rfl)) (by decide) (by decide)) q3a q3c (g := (mkF m 21 #[rv a, rv sa, iv (1 : Int32)] [(.int (1 : Int32)), (.ref a)])) rfl (by rw [hml]; rfl) (Steps.refl _) (argsL := [(.int (1 : Int32))]) (rest := []) (lenOf pd_4 rfl) rfl (by show 2 * 0 + _ ≤ _; exact Nat.le_of_eq rfl) (hb hby d_jdk_68_method_22_21) (fun _ _ => ⟨rfl, e2, (by decide : 0 + 0 ≤ _), (by decide : 0 + 0 ≤ _)⟩)
  dsimp only [Pt.U, Pt.locs, Pt.cells, Pt.slots] at X3 l3 y3 z3 st3 hQ3
  subst l3 y3 z3
  refine Go.pre (own_cut st3) ?_
  obtain ⟨rfl, N3q, eh3⟩ := hQ3
  have N3 := Fr.app N1 N3q
  show Go p e below _ (T3.setTop (mkF m 24 #[rv a, rv sa, iv (1 : Int32)] []))
  refine Go.pre (fun _ k => XS.aloadN X3.here hx rfl (hb hby d_jdk_68_method_22_24) rfl rfl k) ?_
  show Go p e below _ (T3.setTop (mkF m 25 #[rv a, rv sa, iv (1 : Int32)] [(.ref a)]))
  refine Go.pre (fun _ k => XS.aloadN X3.here hx rfl (hb hby d_jdk_68_method_22_25) rfl rfl k) ?_
  show Go p e below _ (T3.setTop (mkF m 26 #[rv a, rv sa, iv (1 : Int32)] [(.ref a), (.ref a)]))
  obtain ⟨T4, X4, e4, st4⟩ := getF X3 hx hZ hown (host := "") (Or.inl (hw _ (List.mem_of_getElem? (i := 85) rfl))) Via.refl eh3 tN (g := (mkF m 26 #[rv a, rv sa, iv (1 : Int32)] [(.ref a), (.ref a)])) rfl rfl (hb hby d_jdk_68_method_22_26)
  refine Go.pre st4 ?_
  show Go p e below _ (T4.setTop (mkF m 29 #[rv a, rv sa, iv (1 : Int32)] [(.int (0 : Int32)), (.ref a)]))
  refine Go.pre (fun _ k => XS.aloadN X4.here hx rfl (hb hby d_jdk_68_method_22_29) rfl rfl k) ?_
  show Go p e below _ (T4.setTop (mkF m 30 #[rv a, rv sa, iv (1 : Int32)] [(.ref sa), (.int (0 : Int32)), (.ref a)]))
  obtain ⟨cq5, kq5, q5a, q5b, q5c⟩ := isOf hZ e4 tE
  obtain ⟨_, _, ⟨T5, L5, k5, n5⟩, -, X5, ⟨Lc5, hQ5, l5, y5, z5⟩, st5⟩ := X4.virtualBack hx (y := (⟨"java/lang/AbstractStringBuilder", "putStringAt", "(ILjava/lang/String;)V"⟩ : MethodName)) (z := (⟨"java/lang/AbstractStringBuilder", "putStringAt", "(ILjava/lang/String;)V"⟩ : MethodName)) hown (mvT hZ (hw _ (List.mem_of_getElem? (i := 92) rfl))) (mvT hZ (own_decl (hw _ (List.mem_of_getElem? (i := 93) rfl)) (hw _ (List.mem_of_getElem? (i := 96) rfl)))) (notFace_of_selects (args := #[]) (mvT hZ (hw _ (List.mem_of_getElem? (i := 95) rfl)))) (mvT hZ (hw _ (List.mem_of_getElem? (i := 95) rfl))) (mvT hZ (hw _ (List.mem_of_getElem? (i := 93) rfl))) (by decide) (backOf (W := 0) (rm_psa l Z a0 hw [] a b kb sa bs ks cs h0 n0 Z0 O SC hcs ⟨tE, tC, tV, tN, tA⟩ ⟨sE, sC, sV, sA⟩ gb_ hne) hZ (hw _ (List.mem_of_getElem? (i := 96) rfl)) (hw _ (List.mem_of_getElem? (i := 53) rfl)) (by decide) (by decide)) q5a q5c (g := (mkF m 30 #[rv a, rv sa, iv (1 : Int32)] [(.ref sa), (.int (0 : Int32)), (.ref a)])) rfl (by rw [hml]; rfl) (Steps.refl _) (argsL := [(.int (0 : Int32)), (.ref sa)]) (rest := []) (lenOf pd_5 rfl) rfl (by show 2 * 0 + _ ≤ _; exact Nat.le_of_eq rfl) (hb hby d_jdk_68_method_22_30) (fun _ _ => ⟨rfl, e4, (by decide : 0 + 0 ≤ _), (by decide : 0 + 0 ≤ _)⟩)
  dsimp only [Pt.U, Pt.locs, Pt.cells, Pt.slots] at X5 l5 y5 z5 st5 hQ5
  subst l5 y5 z5
  refine Go.pre (own_cut st5) ?_
  obtain ⟨rfl, N5q, K5, V5⟩ := hQ5
  have N5 := Fr.app N3 N5q
  have KC5 : Keep h0 T5.heap [a, b] := (Keep.refl h0 [a, b]).trans K5 (allS (Or.inl (List.mem_of_getElem? (i := 1) rfl)) all0)
  show Go p e below _ (T5.setTop (mkF m 33 #[rv a, rv sa, iv (1 : Int32)] []))
  refine Go.pre (fun _ k => XS.aloadN X5.here hx rfl (hb hby d_jdk_68_method_22_33) rfl rfl k) ?_
  show Go p e below _ (T5.setTop (mkF m 34 #[rv a, rv sa, iv (1 : Int32)] [(.ref a)]))
  refine Go.pre (fun _ k => XS.dup X5.here hx rfl (hb hby d_jdk_68_method_22_34) rfl rfl k) ?_
  show Go p e below _ (T5.setTop (mkF m 35 #[rv a, rv sa, iv (1 : Int32)] [(.ref a), (.ref a)]))
  obtain ⟨T6, X6, e6, st6⟩ := getF X5 hx hZ hown (host := "") (Or.inl (hw _ (List.mem_of_getElem? (i := 85) rfl))) Via.refl rfl (tN.keep K5 (ninS neab nin0)) (g := (mkF m 35 #[rv a, rv sa, iv (1 : Int32)] [(.ref a), (.ref a)])) rfl rfl (hb hby d_jdk_68_method_22_35)
  refine Go.pre st6 ?_
  show Go p e below _ (T6.setTop (mkF m 38 #[rv a, rv sa, iv (1 : Int32)] [(.int (0 : Int32)), (.ref a)]))
  refine Go.pre (fun _ k => XS.iloadN X6.here hx rfl (hb hby d_jdk_68_method_22_38) rfl k) ?_
  show Go p e below _ (T6.setTop (mkF m 39 #[rv a, rv sa, iv (1 : Int32)] [(.int (1 : Int32)), (.int (0 : Int32)), (.ref a)]))
  refine Go.pre (fun _ k => XS.iadd X6.here hx rfl (hb hby d_jdk_68_method_22_39) rfl k) ?_
  show Go p e below _ (T6.setTop (mkF m 40 #[rv a, rv sa, iv (1 : Int32)] [(.int (1 : Int32)), (.ref a)]))
  obtain ⟨T7, h7, X7, e7, W7, st7⟩ := putF X6 hx hZ hown (host := "") (Or.inl (hw _ (List.mem_of_getElem? (i := 85) rfl))) Via.refl e6 (tN.keep K5 (ninS neab nin0)) (tE.keep K5) (Or.inl (hw _ (List.mem_of_getElem? (i := 86) rfl))) (hw _ (List.mem_of_getElem? (i := 44) rfl)) (ty := .int) (by decide) rfl rfl (g := (mkF m 40 #[rv a, rv sa, iv (1 : Int32)] [(.int (1 : Int32)), (.ref a)])) rfl rfl (hb hby d_jdk_68_method_22_40)
  have F7 := (tN.keep K5 (ninS neab nin0)).same W7
  have N7 := Fr.snoc X7 N5 ga
  refine Go.pre st7 ?_
  have KC7 : Keep h0 h7 [a, b] := KC5.wr W7 (Or.inl (List.mem_of_getElem? (i := 0) rfl))
  show Go p e below _ (T7.setTop (mkF m 43 #[rv a, rv sa, iv (1 : Int32)] []))
  refine Go.pre (fun _ k => XS.aloadN X7.here hx rfl (hb hby d_jdk_68_method_22_43) rfl rfl k) ?_
  show Go p e below _ (T7.setTop (mkF m 44 #[rv a, rv sa, iv (1 : Int32)] [(.ref a)]))
  obtain ⟨fs, hr, hrun, hended, hW, hsame⟩ := X7.leave (v := some (.ref a)) (fun h => by rw [Bd.returns] at h; cases h)
  refine Go.fin (retOut X7 hx Bd.returns rfl (Or.inr (Or.inr (Or.inr (Or.inr ⟨rfl, rfl, rfl⟩)))) (hb hby d_jdk_68_method_22_44) hr) ⟨hrun, hended, _, _, rfl, ?_, ⟨_, rfl⟩, hW, hsame.mono (by decide) (by decide)⟩
  show Q_apS Z a b kb sa bs ks cs h0 n0 _ T7.heap _
  rw [e7]
  exact ⟨rfl, N7, KC7, ⟨((tE.keep K5).wr W7), ((tC.keep K5 (ninS neab nin0)).other W7 (Or.inr (slot_ne (Or.inl (hw _ (List.mem_of_getElem? (i := 60) rfl))) (Or.inl (hw _ (List.mem_of_getElem? (i := 86) rfl))) (by decide) (t := .byte) (t' := .int) (by decide) (by decide)))), ((tV.keep K5 (ninS neab nin0)).other W7 (Or.inr (slot_ne (Or.inl (hw _ (List.mem_of_getElem? (i := 58) rfl))) (Or.inl (hw _ (List.mem_of_getElem? (i := 86) rfl))) (by decide) (t := (.array .byte)) (t' := .int) (by decide) (by decide)))), F7, (V5.other W7 (Ne.symm neab))⟩⟩

theorem ef_sbS (m : MethodId) (x0 : Addr) (x1 : Addr) : entryFrame m #[(.ref x0), (.ref x1)] 2 = mkF m 0 #[rv x0, rv x1] [] := by first | (simp [entryFrame, mkF, argsToLocals, Value.category]; done) | rfl
theorem pn_sbS : plainName "java/lang/StringBuilder" = true := by first | (simp [plainName, overriddenIn]; done) | decide +kernel
def Q_sbS (Z : State) (a : Addr) (b : Addr) (kb : ClassId) (sa : Addr) (bs : Addr) (ks : ClassId) (cs : Int32) (h0 : Heap) (n0 : Nat) (v : Option Value) (h : Heap) (L : List Loc) : Prop := v = some (.ref a) ∧ Fr n0 L ∧ Keep h0 h [a, b] ∧ Bld Z h a b kb 1 (own_v0.map Value.int)
set_option maxRecDepth 65536 in
set_option maxHeartbeats 40000000 in
theorem rm_sbS (l : Launch) (Z : State) (a0 : Array Value) (hw : ∀ d ∈ tables_1, d.before a0 Z = true) (ws : List Jvm.Cond) (a : Addr) (b : Addr) (kb : ClassId) (sa : Addr) (bs : Addr) (ks : ClassId) (cs : Int32) (h0 : Heap) (n0 : Nat) (Z0 : n0 ≤ h0.size) (O : Old Z n0 h0) (SC : Sta Z Z.heap "java/lang/String" "COMPACT_STRINGS" "Z" (.int cs)) (hcs : ¬ cs = (0 : Int32)) (BB : Bld Z h0 a b kb 0 own_z16) (SS : Str Z h0 sa bs ks 1 [.int 117]) (ga : n0 ≤ a) (gb_ : n0 ≤ b) (hne : bs ≠ b) :
    MetFree l (⟨"java/lang/StringBuilder", "append", "(Ljava/lang/String;)Ljava/lang/StringBuilder;"⟩ : MethodName) (head1 (Jvm.Cond.code (⟨"java/lang/StringBuilder", "append", "(Ljava/lang/String;)Ljava/lang/StringBuilder;"⟩ : MethodName) jdk_67_method_7_code 2 (some (.object "java/lang/StringBuilder")) :: ws) ({ frames := 4, cells := 0, slots := 0, locals := 77 } : Room)) (fun as_ U => as_ = #[(.ref a), (.ref sa)] ∧ Z.Warmed39 U.vm ∧ U.heap = h0) (fun _ _ _ _ _ => True) (fun _ U o U' => ∃ v L, o = .returned v ∧ Q_sbS Z a b kb sa bs ks cs h0 n0 v U'.heap L ∧ FrameEnd U o U' L ({ frames := 4, cells := 0, slots := 0, locals := 77 } : Room).cells ({ frames := 4, cells := 0, slots := 0, locals := 77 } : Room).slots) := by
  refine MetFree.of_bodySF (plainFor_of_name pn_sbS) hisR ?_
  intro p e s m args below meth c s₁ Bd hml0 hP hK
  obtain ⟨rfl, hZ, hh⟩ := hP
  have hx := Bd.exec
  have hby := Bd.bytes
  have hml : c.maxLocals = 2 := hml0
  have hown : s.vm.findClass "java/lang/StringBuilder" = some m.cls := findClass_of_methodNamed Bd.named
  have hnm := (name_of_methodNamed Bd.named Bd.method).1
  have X0 : Stand p l e ({ frames := 4, cells := 0, slots := 0, locals := 77 } : Room) s m #[(.ref a), (.ref sa)] below meth c s₁ [] 0 0 := Stand.of_body Bd
  have e0 : s₁.heap = h0 := by rw [← hh, Bd.state]; rfl
  have N0 := Fr.nil n0
  refine Go.out ?_
  refine Go.pre (fun t k => castTop (ef_sbS m a sa) k) ?_
  obtain ⟨tE, tC, tV, tN, tA⟩ := BB
  obtain ⟨sE, sC, sV, sA⟩ := SS
  have neab : a ≠ b := Exa.neArv tE tA (hw _ (List.mem_of_getElem? (i := 44) rfl))
  have nesb : sa ≠ b := Exa.neArv sE tA (hw _ (List.mem_of_getElem? (i := 8) rfl))
  have nesa : sa ≠ a := Exa.ne sE tE (by decide)
  have neba : bs ≠ a := Ne.symm (Exa.neArv tE sA (hw _ (List.mem_of_getElem? (i := 44) rfl)))
  show Go p e below _ (s₁.setTop (mkF m 0 #[rv a, rv sa] []))
  refine Go.pre (fun _ k => XS.aloadN X0.here hx rfl (hb hby d_jdk_67_method_7_0) rfl rfl k) ?_
  show Go p e below _ (s₁.setTop (mkF m 1 #[rv a, rv sa] [(.ref a)]))
  refine Go.pre (fun _ k => XS.aloadN X0.here hx rfl (hb hby d_jdk_67_method_7_1) rfl rfl k) ?_
  show Go p e below _ (s₁.setTop (mkF m 2 #[rv a, rv sa] [(.ref sa), (.ref a)]))
  obtain ⟨_, _, ⟨T1, L1, k1, n1⟩, -, X1, ⟨Lc1, hQ1, l1, y1, z1⟩, st1⟩ := superBack X0 hx hZ (y := (⟨"java/lang/AbstractStringBuilder", "append", "(Ljava/lang/String;)Ljava/lang/AbstractStringBuilder;"⟩ : MethodName)) hown (hw _ (List.mem_of_getElem? (i := 67) rfl)) (own_same (hw _ (List.mem_of_getElem? (i := 71) rfl)) (notFace_of_selects (args := a0) (y := (⟨"java/lang/AbstractStringBuilder", "getValue", "()[B"⟩ : MethodName)) (hw _ (List.mem_of_getElem? (i := 154) rfl))) (by decide) rfl (Cond.code_named (hw _ (List.mem_of_getElem? (i := 155) rfl)))) (hw _ (List.mem_of_getElem? (i := 68) rfl)) (hw _ (List.mem_of_getElem? (i := 69) rfl)) (by decide) (backOf (W := 0) (rm_apS l Z a0 hw [] a b kb sa bs ks cs h0 n0 Z0 O SC hcs ⟨tE, tC, tV, tN, tA⟩ ⟨sE, sC, sV, sA⟩ ga gb_ hne) hZ (hw _ (List.mem_of_getElem? (i := 71) rfl)) (hw _ (List.mem_of_getElem? (i := 53) rfl)) (by decide) (by decide)) e0 (Ins.self tE) (g := (mkF m 2 #[rv a, rv sa] [(.ref sa), (.ref a)])) rfl (by rw [hml]; rfl) (hw _ (List.mem_of_getElem? (i := 71) rfl)) (argsL := [(.ref sa)]) (rest := []) (lenOf pd_6 rfl) rfl (by show 2 * 0 + _ ≤ _; exact Nat.le_of_eq rfl) (hb hby d_jdk_67_method_7_2) (fun _ _ => ⟨rfl, e0, (by decide : 0 + 0 ≤ _), (by decide : 0 + 0 ≤ _)⟩)
  dsimp only [Pt.U, Pt.locs, Pt.cells, Pt.slots] at X1 l1 y1 z1 st1 hQ1
  subst l1 y1 z1
  refine Go.pre (own_cut st1) ?_
  obtain ⟨rfl, N1q, K1, B1⟩ := hQ1
  have N1 := Fr.app N0 N1q
  have KC1 : Keep h0 T1.heap [a, b] := (Keep.refl h0 [a, b]).trans K1 (allS (Or.inl (List.mem_of_getElem? (i := 0) rfl)) (allS (Or.inl (List.mem_of_getElem? (i := 1) rfl)) all0))
  obtain ⟨uE1, uC1, uV1, uN1, uA1⟩ := B1
  show Go p e below _ (T1.setTop (mkF m 5 #[rv a, rv sa] [(.ref a)]))
  refine Go.pre (fun _ k => XS.pop X1.here hx rfl (hb hby d_jdk_67_method_7_5) rfl rfl k) ?_
  show Go p e below _ (T1.setTop (mkF m 6 #[rv a, rv sa] []))
  refine Go.pre (fun _ k => XS.aloadN X1.here hx rfl (hb hby d_jdk_67_method_7_6) rfl rfl k) ?_
  show Go p e below _ (T1.setTop (mkF m 7 #[rv a, rv sa] [(.ref a)]))
  obtain ⟨fs, hr, hrun, hended, hW, hsame⟩ := X1.leave (v := some (.ref a)) (fun h => by rw [Bd.returns] at h; cases h)
  refine Go.fin (retOut X1 hx Bd.returns rfl (Or.inr (Or.inr (Or.inr (Or.inr ⟨rfl, rfl, rfl⟩)))) (hb hby d_jdk_67_method_7_7) hr) ⟨hrun, hended, _, _, rfl, ?_, ⟨_, rfl⟩, hW, hsame.mono (by decide) (by decide)⟩
  show Q_sbS Z a b kb sa bs ks cs h0 n0 _ T1.heap _
  exact ⟨rfl, N1, KC1, ⟨uE1, uC1, uV1, uN1, uA1⟩⟩

theorem ef_ss (m : MethodId) (x0 : Int64) : entryFrame m #[(.long x0)] 6 = mkF m 0 #[.val (.long x0), .second, .unset, .unset, .unset, .unset] [] := by first | (simp [entryFrame, mkF, argsToLocals, Value.category]; done) | rfl
theorem pn_ss : plainName "java/lang/Long" = true := by first | (simp [plainName, overriddenIn]; done) | decide +kernel
def Q_ss (Z : State) (nu : Nat) (h0 : Heap) (n0 : Nat) (v : Option Value) (h : Heap) (L : List Loc) : Prop := v = some (.int (Int32.ofNat (own_len nu))) ∧ Fr n0 L ∧ h = h0
set_option maxRecDepth 65536 in
set_option maxHeartbeats 40000000 in
theorem rm_ss (l : Launch) (Z : State) (a0 : Array Value) (hw : ∀ d ∈ tables_1, d.before a0 Z = true) (ws : List Jvm.Cond) (nu : Nat) (h0 : Heap) (n0 : Nat) (Z0 : n0 ≤ h0.size) (hn : nu < 100000000) :
    MetFree l (⟨"java/lang/Long", "stringSize", "(J)I"⟩ : MethodName) (head1 (Jvm.Cond.code (⟨"java/lang/Long", "stringSize", "(J)I"⟩ : MethodName) jdk_35_method_15_code 6 (some .int) :: ws) ({ frames := 0, cells := 0, slots := 0, locals := 0 } : Room)) (fun as_ U => as_ = #[(.long (Int64.ofNat nu))] ∧ Z.Warmed39 U.vm ∧ U.heap = h0) (fun _ _ _ _ _ => True) (fun _ U o U' => ∃ v L, o = .returned v ∧ Q_ss Z nu h0 n0 v U'.heap L ∧ FrameEnd U o U' L ({ frames := 0, cells := 0, slots := 0, locals := 0 } : Room).cells ({ frames := 0, cells := 0, slots := 0, locals := 0 } : Room).slots) := by
  refine MetFree.of_bodySF (plainFor_of_name pn_ss) hisR ?_
  intro p e s m args below meth c s₁ Bd hml0 hP hK
  obtain ⟨rfl, hZ, hh⟩ := hP
  have hx := Bd.exec
  have hby := Bd.bytes
  have hml : c.maxLocals = 6 := hml0
  have hown : s.vm.findClass "java/lang/Long" = some m.cls := findClass_of_methodNamed Bd.named
  have hnm := (name_of_methodNamed Bd.named Bd.method).1
  have X0 : Stand p l e ({ frames := 0, cells := 0, slots := 0, locals := 0 } : Room) s m #[(.long (Int64.ofNat nu))] below meth c s₁ [] 0 0 := Stand.of_body Bd
  have e0 : s₁.heap = h0 := by rw [← hh, Bd.state]; rfl
  have N0 := Fr.nil n0
  refine Go.out ?_
  refine Go.pre (fun t k => castTop (ef_ss m (Int64.ofNat nu)) k) ?_
  show Go p e below _ (s₁.setTop (mkF m 0 #[.val (.long (Int64.ofNat nu)), .second, .unset, .unset, .unset, .unset] []))
  refine Go.pre (fun _ k => XS.iconst X0.here hx rfl (hb hby d_jdk_35_method_15_0) k) ?_
  show Go p e below _ (s₁.setTop (mkF m 1 #[.val (.long (Int64.ofNat nu)), .second, .unset, .unset, .unset, .unset] [(.int (1 : Int32))]))
  refine Go.pre (fun _ k => XS.istoreN X0.here hx rfl (hb hby d_jdk_35_method_15_1) rfl (l' := #[.val (.long (Int64.ofNat nu)), .second, iv (1 : Int32), .unset, .unset, .unset]) rfl k) ?_
  show Go p e below _ (s₁.setTop (mkF m 2 #[.val (.long (Int64.ofNat nu)), .second, iv (1 : Int32), .unset, .unset, .unset] []))
  refine Go.pre (fun _ k => XS.lloadN X0.here hx rfl (hb hby d_jdk_35_method_15_2) rfl k) ?_
  show Go p e below _ (s₁.setTop (mkF m 3 #[.val (.long (Int64.ofNat nu)), .second, iv (1 : Int32), .unset, .unset, .unset] [(.long (Int64.ofNat nu))]))
  refine Go.pre (fun _ k => XS.lconst X0.here hx rfl (hb hby d_jdk_35_method_15_3) k) ?_
  show Go p e below _ (s₁.setTop (mkF m 4 #[.val (.long (Int64.ofNat nu)), .second, iv (1 : Int32), .unset, .unset, .unset] [(.long (0 : Int64)), (.long (Int64.ofNat nu))]))
  refine Go.pre (fun _ k => XS.lcmp X0.here hx rfl (hb hby d_jdk_35_method_15_4) rfl k) ?_
  show Go p e below _ (s₁.setTop (mkF m 5 #[.val (.long (Int64.ofNat nu)), .second, iv (1 : Int32), .unset, .unset, .unset] [(.int (lcmpW (Int64.ofNat nu) (0 : Int64)))]))
  refine Go.pre (fun _ k => XS.ifNo X0.here hx rfl (hb hby d_jdk_35_method_15_5) rfl ((if0 _ _).trans (flt (own_ltF (own_nlneg (by omega)))).1) k) ?_
  show Go p e below _ (s₁.setTop (mkF m 8 #[.val (.long (Int64.ofNat nu)), .second, iv (1 : Int32), .unset, .unset, .unset] []))
  refine Go.pre (fun _ k => XS.iconst X0.here hx rfl (hb hby d_jdk_35_method_15_8) k) ?_
  show Go p e below _ (s₁.setTop (mkF m 9 #[.val (.long (Int64.ofNat nu)), .second, iv (1 : Int32), .unset, .unset, .unset] [(.int (0 : Int32))]))
  refine Go.pre (fun _ k => XS.istoreN X0.here hx rfl (hb hby d_jdk_35_method_15_9) rfl (l' := #[.val (.long (Int64.ofNat nu)), .second, iv (0 : Int32), .unset, .unset, .unset]) rfl k) ?_
  show Go p e below _ (s₁.setTop (mkF m 10 #[.val (.long (Int64.ofNat nu)), .second, iv (0 : Int32), .unset, .unset, .unset] []))
  refine Go.pre (fun _ k => XS.lloadN X0.here hx rfl (hb hby d_jdk_35_method_15_10) rfl k) ?_
  show Go p e below _ (s₁.setTop (mkF m 11 #[.val (.long (Int64.ofNat nu)), .second, iv (0 : Int32), .unset, .unset, .unset] [(.long (Int64.ofNat nu))]))
  refine Go.pre (fun _ k => XS.lneg X0.here hx rfl (hb hby d_jdk_35_method_15_11) rfl k) ?_
  show Go p e below _ (s₁.setTop (mkF m 12 #[.val (.long (Int64.ofNat nu)), .second, iv (0 : Int32), .unset, .unset, .unset] [(.long (own_nl nu))]))
  refine Go.pre (fun _ k => XS.lstoreN X0.here hx rfl (hb hby d_jdk_35_method_15_12) rfl (l' := #[.val (.long (own_nl nu)), .second, iv (0 : Int32), .unset, .unset, .unset]) rfl k) ?_
  show Go p e below _ (s₁.setTop (mkF m 13 #[.val (.long (own_nl nu)), .second, iv (0 : Int32), .unset, .unset, .unset] []))
  refine Go.pre (X0.ldc2Long hx hown (mvT hZ (hw _ (List.mem_of_getElem? (i := 125) rfl))) (g := (mkF m 13 #[.val (.long (own_nl nu)), .second, iv (0 : Int32), .unset, .unset, .unset] [])) rfl (hb hby d_jdk_35_method_15_13)) ?_
  show Go p e below _ (s₁.setTop (mkF m 16 #[.val (.long (own_nl nu)), .second, iv (0 : Int32), .unset, .unset, .unset] [(.long (-10 : Int64))]))
  refine Go.pre (fun _ k => XS.lstoreN X0.here hx rfl (hb hby d_jdk_35_method_15_16) rfl (l' := #[.val (.long (own_nl nu)), .second, iv (0 : Int32), .val (.long (-10 : Int64)), .second, .unset]) rfl k) ?_
  show Go p e below _ (s₁.setTop (mkF m 17 #[.val (.long (own_nl nu)), .second, iv (0 : Int32), .val (.long (-10 : Int64)), .second, .unset] []))
  refine Go.pre (fun _ k => XS.iconst X0.here hx rfl (hb hby d_jdk_35_method_15_17) k) ?_
  show Go p e below _ (s₁.setTop (mkF m 18 #[.val (.long (own_nl nu)), .second, iv (0 : Int32), .val (.long (-10 : Int64)), .second, .unset] [(.int (1 : Int32))]))
  refine Go.pre (fun _ k => XS.istore X0.here hx rfl (hb hby d_jdk_35_method_15_18) rfl (l' := #[.val (.long (own_nl nu)), .second, iv (0 : Int32), .val (.long (-10 : Int64)), .second, iv (1 : Int32)]) rfl k) ?_
  show Go p e below _ (s₁.setTop (mkF m 20 #[.val (.long (own_nl nu)), .second, iv (0 : Int32), .val (.long (-10 : Int64)), .second, iv (1 : Int32)] []))
  refine Go.pre (fun _ k => XS.iload X0.here hx rfl (hb hby d_jdk_35_method_15_20) rfl k) ?_
  show Go p e below _ (s₁.setTop (mkF m 22 #[.val (.long (own_nl nu)), .second, iv (0 : Int32), .val (.long (-10 : Int64)), .second, iv (1 : Int32)] [(.int (1 : Int32))]))
  refine Go.pre (fun _ k => XS.bipush X0.here hx rfl (hb hby d_jdk_35_method_15_22) k) ?_
  show Go p e below _ (s₁.setTop (mkF m 24 #[.val (.long (own_nl nu)), .second, iv (0 : Int32), .val (.long (-10 : Int64)), .second, iv (1 : Int32)] [(.int (19 : Int32)), (.int (1 : Int32))]))
  refine Go.pre (fun _ k => XS.icmpNo X0.here hx rfl (hb hby d_jdk_35_method_15_24) rfl (tlt (by decide : (1 : Int32) < (19 : Int32))).2.1 k) ?_
  show Go p e below _ (s₁.setTop (mkF m 27 #[.val (.long (own_nl nu)), .second, iv (0 : Int32), .val (.long (-10 : Int64)), .second, iv (1 : Int32)] []))
  refine Go.pre (fun _ k => XS.lloadN X0.here hx rfl (hb hby d_jdk_35_method_15_27) rfl k) ?_
  show Go p e below _ (s₁.setTop (mkF m 28 #[.val (.long (own_nl nu)), .second, iv (0 : Int32), .val (.long (-10 : Int64)), .second, iv (1 : Int32)] [(.long (own_nl nu))]))
  refine Go.pre (fun _ k => XS.lloadN X0.here hx rfl (hb hby d_jdk_35_method_15_28) rfl k) ?_
  show Go p e below _ (s₁.setTop (mkF m 29 #[.val (.long (own_nl nu)), .second, iv (0 : Int32), .val (.long (-10 : Int64)), .second, iv (1 : Int32)] [(.long (-10 : Int64)), (.long (own_nl nu))]))
  refine Go.pre (fun _ k => XS.lcmp X0.here hx rfl (hb hby d_jdk_35_method_15_29) rfl k) ?_
  show Go p e below _ (s₁.setTop (mkF m 30 #[.val (.long (own_nl nu)), .second, iv (0 : Int32), .val (.long (-10 : Int64)), .second, iv (1 : Int32)] [(.int (lcmpW (own_nl nu) (-10 : Int64)))]))
  by_cases hc30_1 : nu < 10
  · skip
    refine Go.pre (fun _ k => XS.ifNo X0.here hx rfl (hb hby d_jdk_35_method_15_30) rfl ((if0 _ _).trans (tlt (own_gtT ((own_nll (a := 10) (b := nu) (by omega) (by omega)).mpr hc30_1))).2.2.2) k) ?_
    show Go p e below _ (s₁.setTop (mkF m 33 #[.val (.long (own_nl nu)), .second, iv (0 : Int32), .val (.long (-10 : Int64)), .second, iv (1 : Int32)] []))
    refine Go.pre (fun _ k => XS.iload X0.here hx rfl (hb hby d_jdk_35_method_15_33) rfl k) ?_
    show Go p e below _ (s₁.setTop (mkF m 35 #[.val (.long (own_nl nu)), .second, iv (0 : Int32), .val (.long (-10 : Int64)), .second, iv (1 : Int32)] [(.int (1 : Int32))]))
    refine Go.pre (fun _ k => XS.iloadN X0.here hx rfl (hb hby d_jdk_35_method_15_35) rfl k) ?_
    show Go p e below _ (s₁.setTop (mkF m 36 #[.val (.long (own_nl nu)), .second, iv (0 : Int32), .val (.long (-10 : Int64)), .second, iv (1 : Int32)] [(.int (0 : Int32)), (.int (1 : Int32))]))
    refine Go.pre (fun _ k => XS.iadd X0.here hx rfl (hb hby d_jdk_35_method_15_36) rfl k) ?_
    show Go p e below _ (s₁.setTop (mkF m 37 #[.val (.long (own_nl nu)), .second, iv (0 : Int32), .val (.long (-10 : Int64)), .second, iv (1 : Int32)] [(.int (1 : Int32))]))
    obtain ⟨fs, hr, hrun, hended, hW, hsame⟩ := X0.leave (v := some (.int (1 : Int32))) (fun h => by rw [Bd.returns] at h; cases h)
    refine Go.fin (retI X0 hx Bd.returns (hb hby d_jdk_35_method_15_37) hr) ⟨hrun, hended, _, _, rfl, ?_, ⟨_, rfl⟩, hW, hsame.mono (by decide) (by decide)⟩
    show Q_ss Z nu h0 n0 _ s₁.heap _
    rw [e0]
    exact ⟨by rw [own_len1 (by omega)]; rfl, N0, rfl⟩
  · skip
    refine Go.pre (fun _ k => XS.ifYes X0.here hx rfl (pc0 := 30) (pc' := 38) rfl (hb hby d_jdk_35_method_15_30) rfl ((if0 _ _).trans (flt (own_gtF (fun q => hc30_1 ((own_nll (a := 10) (b := nu) (by omega) (by omega)).mp q)))).2.2.2) (by decide) (by decide) k) ?_
    show Go p e below _ (s₁.setTop (mkF m 38 #[.val (.long (own_nl nu)), .second, iv (0 : Int32), .val (.long (-10 : Int64)), .second, iv (1 : Int32)] []))
    refine Go.pre (X0.ldc2Long hx hown (mvT hZ (hw _ (List.mem_of_getElem? (i := 210) rfl))) (g := (mkF m 38 #[.val (.long (own_nl nu)), .second, iv (0 : Int32), .val (.long (-10 : Int64)), .second, iv (1 : Int32)] [])) rfl (hb hby d_jdk_35_method_15_38)) ?_
    show Go p e below _ (s₁.setTop (mkF m 41 #[.val (.long (own_nl nu)), .second, iv (0 : Int32), .val (.long (-10 : Int64)), .second, iv (1 : Int32)] [(.long (10 : Int64))]))
    refine Go.pre (fun _ k => XS.lloadN X0.here hx rfl (hb hby d_jdk_35_method_15_41) rfl k) ?_
    show Go p e below _ (s₁.setTop (mkF m 42 #[.val (.long (own_nl nu)), .second, iv (0 : Int32), .val (.long (-10 : Int64)), .second, iv (1 : Int32)] [(.long (-10 : Int64)), (.long (10 : Int64))]))
    refine Go.pre (fun _ k => XS.lmul X0.here hx rfl (hb hby d_jdk_35_method_15_42) rfl k) ?_
    show Go p e below _ (s₁.setTop (mkF m 43 #[.val (.long (own_nl nu)), .second, iv (0 : Int32), .val (.long (-10 : Int64)), .second, iv (1 : Int32)] [(.long (-100 : Int64))]))
    refine Go.pre (fun _ k => XS.lstoreN X0.here hx rfl (hb hby d_jdk_35_method_15_43) rfl (l' := #[.val (.long (own_nl nu)), .second, iv (0 : Int32), .val (.long (-100 : Int64)), .second, iv (1 : Int32)]) rfl k) ?_
    show Go p e below _ (s₁.setTop (mkF m 44 #[.val (.long (own_nl nu)), .second, iv (0 : Int32), .val (.long (-100 : Int64)), .second, iv (1 : Int32)] []))
    refine Go.pre (fun _ k => XS.iinc X0.here hx rfl (hb hby d_jdk_35_method_15_44) rfl (l' := #[.val (.long (own_nl nu)), .second, iv (0 : Int32), .val (.long (-100 : Int64)), .second, iv (2 : Int32)]) rfl k) ?_
    show Go p e below _ (s₁.setTop (mkF m 47 #[.val (.long (own_nl nu)), .second, iv (0 : Int32), .val (.long (-100 : Int64)), .second, iv (2 : Int32)] []))
    refine Go.pre (fun _ k => XS.goto X0.here hx rfl (pc0 := 47) (pc' := 20) rfl (hb hby d_jdk_35_method_15_47) (by decide) (by decide) k) ?_
    show Go p e below _ (s₁.setTop (mkF m 20 #[.val (.long (own_nl nu)), .second, iv (0 : Int32), .val (.long (-100 : Int64)), .second, iv (2 : Int32)] []))
    refine Go.pre (fun _ k => XS.iload X0.here hx rfl (hb hby d_jdk_35_method_15_20) rfl k) ?_
    show Go p e below _ (s₁.setTop (mkF m 22 #[.val (.long (own_nl nu)), .second, iv (0 : Int32), .val (.long (-100 : Int64)), .second, iv (2 : Int32)] [(.int (2 : Int32))]))
    refine Go.pre (fun _ k => XS.bipush X0.here hx rfl (hb hby d_jdk_35_method_15_22) k) ?_
    show Go p e below _ (s₁.setTop (mkF m 24 #[.val (.long (own_nl nu)), .second, iv (0 : Int32), .val (.long (-100 : Int64)), .second, iv (2 : Int32)] [(.int (19 : Int32)), (.int (2 : Int32))]))
    refine Go.pre (fun _ k => XS.icmpNo X0.here hx rfl (hb hby d_jdk_35_method_15_24) rfl (tlt (by decide : (2 : Int32) < (19 : Int32))).2.1 k) ?_
    show Go p e below _ (s₁.setTop (mkF m 27 #[.val (.long (own_nl nu)), .second, iv (0 : Int32), .val (.long (-100 : Int64)), .second, iv (2 : Int32)] []))
    refine Go.pre (fun _ k => XS.lloadN X0.here hx rfl (hb hby d_jdk_35_method_15_27) rfl k) ?_
    show Go p e below _ (s₁.setTop (mkF m 28 #[.val (.long (own_nl nu)), .second, iv (0 : Int32), .val (.long (-100 : Int64)), .second, iv (2 : Int32)] [(.long (own_nl nu))]))
    refine Go.pre (fun _ k => XS.lloadN X0.here hx rfl (hb hby d_jdk_35_method_15_28) rfl k) ?_
    show Go p e below _ (s₁.setTop (mkF m 29 #[.val (.long (own_nl nu)), .second, iv (0 : Int32), .val (.long (-100 : Int64)), .second, iv (2 : Int32)] [(.long (-100 : Int64)), (.long (own_nl nu))]))
    refine Go.pre (fun _ k => XS.lcmp X0.here hx rfl (hb hby d_jdk_35_method_15_29) rfl k) ?_
    show Go p e below _ (s₁.setTop (mkF m 30 #[.val (.long (own_nl nu)), .second, iv (0 : Int32), .val (.long (-100 : Int64)), .second, iv (2 : Int32)] [(.int (lcmpW (own_nl nu) (-100 : Int64)))]))
    by_cases hc30_2 : nu < 100
    · skip
      refine Go.pre (fun _ k => XS.ifNo X0.here hx rfl (hb hby d_jdk_35_method_15_30) rfl ((if0 _ _).trans (tlt (own_gtT ((own_nll (a := 100) (b := nu) (by omega) (by omega)).mpr hc30_2))).2.2.2) k) ?_
      show Go p e below _ (s₁.setTop (mkF m 33 #[.val (.long (own_nl nu)), .second, iv (0 : Int32), .val (.long (-100 : Int64)), .second, iv (2 : Int32)] []))
      refine Go.pre (fun _ k => XS.iload X0.here hx rfl (hb hby d_jdk_35_method_15_33) rfl k) ?_
      show Go p e below _ (s₁.setTop (mkF m 35 #[.val (.long (own_nl nu)), .second, iv (0 : Int32), .val (.long (-100 : Int64)), .second, iv (2 : Int32)] [(.int (2 : Int32))]))
      refine Go.pre (fun _ k => XS.iloadN X0.here hx rfl (hb hby d_jdk_35_method_15_35) rfl k) ?_
      show Go p e below _ (s₁.setTop (mkF m 36 #[.val (.long (own_nl nu)), .second, iv (0 : Int32), .val (.long (-100 : Int64)), .second, iv (2 : Int32)] [(.int (0 : Int32)), (.int (2 : Int32))]))
      refine Go.pre (fun _ k => XS.iadd X0.here hx rfl (hb hby d_jdk_35_method_15_36) rfl k) ?_
      show Go p e below _ (s₁.setTop (mkF m 37 #[.val (.long (own_nl nu)), .second, iv (0 : Int32), .val (.long (-100 : Int64)), .second, iv (2 : Int32)] [(.int (2 : Int32))]))
      obtain ⟨fs, hr, hrun, hended, hW, hsame⟩ := X0.leave (v := some (.int (2 : Int32))) (fun h => by rw [Bd.returns] at h; cases h)
      refine Go.fin (retI X0 hx Bd.returns (hb hby d_jdk_35_method_15_37) hr) ⟨hrun, hended, _, _, rfl, ?_, ⟨_, rfl⟩, hW, hsame.mono (by decide) (by decide)⟩
      show Q_ss Z nu h0 n0 _ s₁.heap _
      rw [e0]
      exact ⟨by rw [own_len2 (by omega) (by omega)]; rfl, N0, rfl⟩
    · skip
      refine Go.pre (fun _ k => XS.ifYes X0.here hx rfl (pc0 := 30) (pc' := 38) rfl (hb hby d_jdk_35_method_15_30) rfl ((if0 _ _).trans (flt (own_gtF (fun q => hc30_2 ((own_nll (a := 100) (b := nu) (by omega) (by omega)).mp q)))).2.2.2) (by decide) (by decide) k) ?_
      show Go p e below _ (s₁.setTop (mkF m 38 #[.val (.long (own_nl nu)), .second, iv (0 : Int32), .val (.long (-100 : Int64)), .second, iv (2 : Int32)] []))
      refine Go.pre (X0.ldc2Long hx hown (mvT hZ (hw _ (List.mem_of_getElem? (i := 210) rfl))) (g := (mkF m 38 #[.val (.long (own_nl nu)), .second, iv (0 : Int32), .val (.long (-100 : Int64)), .second, iv (2 : Int32)] [])) rfl (hb hby d_jdk_35_method_15_38)) ?_
      show Go p e below _ (s₁.setTop (mkF m 41 #[.val (.long (own_nl nu)), .second, iv (0 : Int32), .val (.long (-100 : Int64)), .second, iv (2 : Int32)] [(.long (10 : Int64))]))
      refine Go.pre (fun _ k => XS.lloadN X0.here hx rfl (hb hby d_jdk_35_method_15_41) rfl k) ?_
      show Go p e below _ (s₁.setTop (mkF m 42 #[.val (.long (own_nl nu)), .second, iv (0 : Int32), .val (.long (-100 : Int64)), .second, iv (2 : Int32)] [(.long (-100 : Int64)), (.long (10 : Int64))]))
      refine Go.pre (fun _ k => XS.lmul X0.here hx rfl (hb hby d_jdk_35_method_15_42) rfl k) ?_
      show Go p e below _ (s₁.setTop (mkF m 43 #[.val (.long (own_nl nu)), .second, iv (0 : Int32), .val (.long (-100 : Int64)), .second, iv (2 : Int32)] [(.long (-1000 : Int64))]))
      refine Go.pre (fun _ k => XS.lstoreN X0.here hx rfl (hb hby d_jdk_35_method_15_43) rfl (l' := #[.val (.long (own_nl nu)), .second, iv (0 : Int32), .val (.long (-1000 : Int64)), .second, iv (2 : Int32)]) rfl k) ?_
      show Go p e below _ (s₁.setTop (mkF m 44 #[.val (.long (own_nl nu)), .second, iv (0 : Int32), .val (.long (-1000 : Int64)), .second, iv (2 : Int32)] []))
      refine Go.pre (fun _ k => XS.iinc X0.here hx rfl (hb hby d_jdk_35_method_15_44) rfl (l' := #[.val (.long (own_nl nu)), .second, iv (0 : Int32), .val (.long (-1000 : Int64)), .second, iv (3 : Int32)]) rfl k) ?_
      show Go p e below _ (s₁.setTop (mkF m 47 #[.val (.long (own_nl nu)), .second, iv (0 : Int32), .val (.long (-1000 : Int64)), .second, iv (3 : Int32)] []))
      refine Go.pre (fun _ k => XS.goto X0.here hx rfl (pc0 := 47) (pc' := 20) rfl (hb hby d_jdk_35_method_15_47) (by decide) (by decide) k) ?_
      show Go p e below _ (s₁.setTop (mkF m 20 #[.val (.long (own_nl nu)), .second, iv (0 : Int32), .val (.long (-1000 : Int64)), .second, iv (3 : Int32)] []))
      refine Go.pre (fun _ k => XS.iload X0.here hx rfl (hb hby d_jdk_35_method_15_20) rfl k) ?_
      show Go p e below _ (s₁.setTop (mkF m 22 #[.val (.long (own_nl nu)), .second, iv (0 : Int32), .val (.long (-1000 : Int64)), .second, iv (3 : Int32)] [(.int (3 : Int32))]))
      refine Go.pre (fun _ k => XS.bipush X0.here hx rfl (hb hby d_jdk_35_method_15_22) k) ?_
      show Go p e below _ (s₁.setTop (mkF m 24 #[.val (.long (own_nl nu)), .second, iv (0 : Int32), .val (.long (-1000 : Int64)), .second, iv (3 : Int32)] [(.int (19 : Int32)), (.int (3 : Int32))]))
      refine Go.pre (fun _ k => XS.icmpNo X0.here hx rfl (hb hby d_jdk_35_method_15_24) rfl (tlt (by decide : (3 : Int32) < (19 : Int32))).2.1 k) ?_
      show Go p e below _ (s₁.setTop (mkF m 27 #[.val (.long (own_nl nu)), .second, iv (0 : Int32), .val (.long (-1000 : Int64)), .second, iv (3 : Int32)] []))
      refine Go.pre (fun _ k => XS.lloadN X0.here hx rfl (hb hby d_jdk_35_method_15_27) rfl k) ?_
      show Go p e below _ (s₁.setTop (mkF m 28 #[.val (.long (own_nl nu)), .second, iv (0 : Int32), .val (.long (-1000 : Int64)), .second, iv (3 : Int32)] [(.long (own_nl nu))]))
      refine Go.pre (fun _ k => XS.lloadN X0.here hx rfl (hb hby d_jdk_35_method_15_28) rfl k) ?_
      show Go p e below _ (s₁.setTop (mkF m 29 #[.val (.long (own_nl nu)), .second, iv (0 : Int32), .val (.long (-1000 : Int64)), .second, iv (3 : Int32)] [(.long (-1000 : Int64)), (.long (own_nl nu))]))
      refine Go.pre (fun _ k => XS.lcmp X0.here hx rfl (hb hby d_jdk_35_method_15_29) rfl k) ?_
      show Go p e below _ (s₁.setTop (mkF m 30 #[.val (.long (own_nl nu)), .second, iv (0 : Int32), .val (.long (-1000 : Int64)), .second, iv (3 : Int32)] [(.int (lcmpW (own_nl nu) (-1000 : Int64)))]))
      by_cases hc30_3 : nu < 1000
      · skip
        refine Go.pre (fun _ k => XS.ifNo X0.here hx rfl (hb hby d_jdk_35_method_15_30) rfl ((if0 _ _).trans (tlt (own_gtT ((own_nll (a := 1000) (b := nu) (by omega) (by omega)).mpr hc30_3))).2.2.2) k) ?_
        show Go p e below _ (s₁.setTop (mkF m 33 #[.val (.long (own_nl nu)), .second, iv (0 : Int32), .val (.long (-1000 : Int64)), .second, iv (3 : Int32)] []))
        refine Go.pre (fun _ k => XS.iload X0.here hx rfl (hb hby d_jdk_35_method_15_33) rfl k) ?_
        show Go p e below _ (s₁.setTop (mkF m 35 #[.val (.long (own_nl nu)), .second, iv (0 : Int32), .val (.long (-1000 : Int64)), .second, iv (3 : Int32)] [(.int (3 : Int32))]))
        refine Go.pre (fun _ k => XS.iloadN X0.here hx rfl (hb hby d_jdk_35_method_15_35) rfl k) ?_
        show Go p e below _ (s₁.setTop (mkF m 36 #[.val (.long (own_nl nu)), .second, iv (0 : Int32), .val (.long (-1000 : Int64)), .second, iv (3 : Int32)] [(.int (0 : Int32)), (.int (3 : Int32))]))
        refine Go.pre (fun _ k => XS.iadd X0.here hx rfl (hb hby d_jdk_35_method_15_36) rfl k) ?_
        show Go p e below _ (s₁.setTop (mkF m 37 #[.val (.long (own_nl nu)), .second, iv (0 : Int32), .val (.long (-1000 : Int64)), .second, iv (3 : Int32)] [(.int (3 : Int32))]))
        obtain ⟨fs, hr, hrun, hended, hW, hsame⟩ := X0.leave (v := some (.int (3 : Int32))) (fun h => by rw [Bd.returns] at h; cases h)
        refine Go.fin (retI X0 hx Bd.returns (hb hby d_jdk_35_method_15_37) hr) ⟨hrun, hended, _, _, rfl, ?_, ⟨_, rfl⟩, hW, hsame.mono (by decide) (by decide)⟩
        show Q_ss Z nu h0 n0 _ s₁.heap _
        rw [e0]
        exact ⟨by rw [own_len3 (by omega) (by omega)]; rfl, N0, rfl⟩
      · skip
        refine Go.pre (fun _ k => XS.ifYes X0.here hx rfl (pc0 := 30) (pc' := 38) rfl (hb hby d_jdk_35_method_15_30) rfl ((if0 _ _).trans (flt (own_gtF (fun q => hc30_3 ((own_nll (a := 1000) (b := nu) (by omega) (by omega)).mp q)))).2.2.2) (by decide) (by decide) k) ?_
        show Go p e below _ (s₁.setTop (mkF m 38 #[.val (.long (own_nl nu)), .second, iv (0 : Int32), .val (.long (-1000 : Int64)), .second, iv (3 : Int32)] []))
        refine Go.pre (X0.ldc2Long hx hown (mvT hZ (hw _ (List.mem_of_getElem? (i := 210) rfl))) (g := (mkF m 38 #[.val (.long (own_nl nu)), .second, iv (0 : Int32), .val (.long (-1000 : Int64)), .second, iv (3 : Int32)] [])) rfl (hb hby d_jdk_35_method_15_38)) ?_
        show Go p e below _ (s₁.setTop (mkF m 41 #[.val (.long (own_nl nu)), .second, iv (0 : Int32), .val (.long (-1000 : Int64)), .second, iv (3 : Int32)] [(.long (10 : Int64))]))
        refine Go.pre (fun _ k => XS.lloadN X0.here hx rfl (hb hby d_jdk_35_method_15_41) rfl k) ?_
        show Go p e below _ (s₁.setTop (mkF m 42 #[.val (.long (own_nl nu)), .second, iv (0 : Int32), .val (.long (-1000 : Int64)), .second, iv (3 : Int32)] [(.long (-1000 : Int64)), (.long (10 : Int64))]))
        refine Go.pre (fun _ k => XS.lmul X0.here hx rfl (hb hby d_jdk_35_method_15_42) rfl k) ?_
        show Go p e below _ (s₁.setTop (mkF m 43 #[.val (.long (own_nl nu)), .second, iv (0 : Int32), .val (.long (-1000 : Int64)), .second, iv (3 : Int32)] [(.long (-10000 : Int64))]))
        refine Go.pre (fun _ k => XS.lstoreN X0.here hx rfl (hb hby d_jdk_35_method_15_43) rfl (l' := #[.val (.long (own_nl nu)), .second, iv (0 : Int32), .val (.long (-10000 : Int64)), .second, iv (3 : Int32)]) rfl k) ?_
        show Go p e below _ (s₁.setTop (mkF m 44 #[.val (.long (own_nl nu)), .second, iv (0 : Int32), .val (.long (-10000 : Int64)), .second, iv (3 : Int32)] []))
        refine Go.pre (fun _ k => XS.iinc X0.here hx rfl (hb hby d_jdk_35_method_15_44) rfl (l' := #[.val (.long (own_nl nu)), .second, iv (0 : Int32), .val (.long (-10000 : Int64)), .second, iv (4 : Int32)]) rfl k) ?_
        show Go p e below _ (s₁.setTop (mkF m 47 #[.val (.long (own_nl nu)), .second, iv (0 : Int32), .val (.long (-10000 : Int64)), .second, iv (4 : Int32)] []))
        refine Go.pre (fun _ k => XS.goto X0.here hx rfl (pc0 := 47) (pc' := 20) rfl (hb hby d_jdk_35_method_15_47) (by decide) (by decide) k) ?_
        show Go p e below _ (s₁.setTop (mkF m 20 #[.val (.long (own_nl nu)), .second, iv (0 : Int32), .val (.long (-10000 : Int64)), .second, iv (4 : Int32)] []))
        refine Go.pre (fun _ k => XS.iload X0.here hx rfl (hb hby d_jdk_35_method_15_20) rfl k) ?_
        show Go p e below _ (s₁.setTop (mkF m 22 #[.val (.long (own_nl nu)), .second, iv (0 : Int32), .val (.long (-10000 : Int64)), .second, iv (4 : Int32)] [(.int (4 : Int32))]))
        refine Go.pre (fun _ k => XS.bipush X0.here hx rfl (hb hby d_jdk_35_method_15_22) k) ?_
        show Go p e below _ (s₁.setTop (mkF m 24 #[.val (.long (own_nl nu)), .second, iv (0 : Int32), .val (.long (-10000 : Int64)), .second, iv (4 : Int32)] [(.int (19 : Int32)), (.int (4 : Int32))]))
        refine Go.pre (fun _ k => XS.icmpNo X0.here hx rfl (hb hby d_jdk_35_method_15_24) rfl (tlt (by decide : (4 : Int32) < (19 : Int32))).2.1 k) ?_
        show Go p e below _ (s₁.setTop (mkF m 27 #[.val (.long (own_nl nu)), .second, iv (0 : Int32), .val (.long (-10000 : Int64)), .second, iv (4 : Int32)] []))
        refine Go.pre (fun _ k => XS.lloadN X0.here hx rfl (hb hby d_jdk_35_method_15_27) rfl k) ?_
        show Go p e below _ (s₁.setTop (mkF m 28 #[.val (.long (own_nl nu)), .second, iv (0 : Int32), .val (.long (-10000 : Int64)), .second, iv (4 : Int32)] [(.long (own_nl nu))]))
        refine Go.pre (fun _ k => XS.lloadN X0.here hx rfl (hb hby d_jdk_35_method_15_28) rfl k) ?_
        show Go p e below _ (s₁.setTop (mkF m 29 #[.val (.long (own_nl nu)), .second, iv (0 : Int32), .val (.long (-10000 : Int64)), .second, iv (4 : Int32)] [(.long (-10000 : Int64)), (.long (own_nl nu))]))
        refine Go.pre (fun _ k => XS.lcmp X0.here hx rfl (hb hby d_jdk_35_method_15_29) rfl k) ?_
        show Go p e below _ (s₁.setTop (mkF m 30 #[.val (.long (own_nl nu)), .second, iv (0 : Int32), .val (.long (-10000 : Int64)), .second, iv (4 : Int32)] [(.int (lcmpW (own_nl nu) (-10000 : Int64)))]))
        by_cases hc30_4 : nu < 10000
        · skip
          refine Go.pre (fun _ k => XS.ifNo X0.here hx rfl (hb hby d_jdk_35_method_15_30) rfl ((if0 _ _).trans (tlt (own_gtT ((own_nll (a := 10000) (b := nu) (by omega) (by omega)).mpr hc30_4))).2.2.2) k) ?_
          show Go p e below _ (s₁.setTop (mkF m 33 #[.val (.long (own_nl nu)), .second, iv (0 : Int32), .val (.long (-10000 : Int64)), .second, iv (4 : Int32)] []))
          refine Go.pre (fun _ k => XS.iload X0.here hx rfl (hb hby d_jdk_35_method_15_33) rfl k) ?_
          show Go p e below _ (s₁.setTop (mkF m 35 #[.val (.long (own_nl nu)), .second, iv (0 : Int32), .val (.long (-10000 : Int64)), .second, iv (4 : Int32)] [(.int (4 : Int32))]))
          refine Go.pre (fun _ k => XS.iloadN X0.here hx rfl (hb hby d_jdk_35_method_15_35) rfl k) ?_
          show Go p e below _ (s₁.setTop (mkF m 36 #[.val (.long (own_nl nu)), .second, iv (0 : Int32), .val (.long (-10000 : Int64)), .second, iv (4 : Int32)] [(.int (0 : Int32)), (.int (4 : Int32))]))
          refine Go.pre (fun _ k => XS.iadd X0.here hx rfl (hb hby d_jdk_35_method_15_36) rfl k) ?_
          show Go p e below _ (s₁.setTop (mkF m 37 #[.val (.long (own_nl nu)), .second, iv (0 : Int32), .val (.long (-10000 : Int64)), .second, iv (4 : Int32)] [(.int (4 : Int32))]))
          obtain ⟨fs, hr, hrun, hended, hW, hsame⟩ := X0.leave (v := some (.int (4 : Int32))) (fun h => by rw [Bd.returns] at h; cases h)
          refine Go.fin (retI X0 hx Bd.returns (hb hby d_jdk_35_method_15_37) hr) ⟨hrun, hended, _, _, rfl, ?_, ⟨_, rfl⟩, hW, hsame.mono (by decide) (by decide)⟩
          show Q_ss Z nu h0 n0 _ s₁.heap _
          rw [e0]
          exact ⟨by rw [own_len4 (by omega) (by omega)]; rfl, N0, rfl⟩
        · skip
          refine Go.pre (fun _ k => XS.ifYes X0.here hx rfl (pc0 := 30) (pc' := 38) rfl (hb hby d_jdk_35_method_15_30) rfl ((if0 _ _).trans (flt (own_gtF (fun q => hc30_4 ((own_nll (a := 10000) (b := nu) (by omega) (by omega)).mp q)))).2.2.2) (by decide) (by decide) k) ?_
          show Go p e below _ (s₁.setTop (mkF m 38 #[.val (.long (own_nl nu)), .second, iv (0 : Int32), .val (.long (-10000 : Int64)), .second, iv (4 : Int32)] []))
          refine Go.pre (X0.ldc2Long hx hown (mvT hZ (hw _ (List.mem_of_getElem? (i := 210) rfl))) (g := (mkF m 38 #[.val (.long (own_nl nu)), .second, iv (0 : Int32), .val (.long (-10000 : Int64)), .second, iv (4 : Int32)] [])) rfl (hb hby d_jdk_35_method_15_38)) ?_
          show Go p e below _ (s₁.setTop (mkF m 41 #[.val (.long (own_nl nu)), .second, iv (0 : Int32), .val (.long (-10000 : Int64)), .second, iv (4 : Int32)] [(.long (10 : Int64))]))
          refine Go.pre (fun _ k => XS.lloadN X0.here hx rfl (hb hby d_jdk_35_method_15_41) rfl k) ?_
          show Go p e below _ (s₁.setTop (mkF m 42 #[.val (.long (own_nl nu)), .second, iv (0 : Int32), .val (.long (-10000 : Int64)), .second, iv (4 : Int32)] [(.long (-10000 : Int64)), (.long (10 : Int64))]))
          refine Go.pre (fun _ k => XS.lmul X0.here hx rfl (hb hby d_jdk_35_method_15_42) rfl k) ?_
          show Go p e below _ (s₁.setTop (mkF m 43 #[.val (.long (own_nl nu)), .second, iv (0 : Int32), .val (.long (-10000 : Int64)), .second, iv (4 : Int32)] [(.long (-100000 : Int64))]))
          refine Go.pre (fun _ k => XS.lstoreN X0.here hx rfl (hb hby d_jdk_35_method_15_43) rfl (l' := #[.val (.long (own_nl nu)), .second, iv (0 : Int32), .val (.long (-100000 : Int64)), .second, iv (4 : Int32)]) rfl k) ?_
          show Go p e below _ (s₁.setTop (mkF m 44 #[.val (.long (own_nl nu)), .second, iv (0 : Int32), .val (.long (-100000 : Int64)), .second, iv (4 : Int32)] []))
          refine Go.pre (fun _ k => XS.iinc X0.here hx rfl (hb hby d_jdk_35_method_15_44) rfl (l' := #[.val (.long (own_nl nu)), .second, iv (0 : Int32), .val (.long (-100000 : Int64)), .second, iv (5 : Int32)]) rfl k) ?_
          show Go p e below _ (s₁.setTop (mkF m 47 #[.val (.long (own_nl nu)), .second, iv (0 : Int32), .val (.long (-100000 : Int64)), .second, iv (5 : Int32)] []))
          refine Go.pre (fun _ k => XS.goto X0.here hx rfl (pc0 := 47) (pc' := 20) rfl (hb hby d_jdk_35_method_15_47) (by decide) (by decide) k) ?_
          show Go p e below _ (s₁.setTop (mkF m 20 #[.val (.long (own_nl nu)), .second, iv (0 : Int32), .val (.long (-100000 : Int64)), .second, iv (5 : Int32)] []))
          refine Go.pre (fun _ k => XS.iload X0.here hx rfl (hb hby d_jdk_35_method_15_20) rfl k) ?_
          show Go p e below _ (s₁.setTop (mkF m 22 #[.val (.long (own_nl nu)), .second, iv (0 : Int32), .val (.long (-100000 : Int64)), .second, iv (5 : Int32)] [(.int (5 : Int32))]))
          refine Go.pre (fun _ k => XS.bipush X0.here hx rfl (hb hby d_jdk_35_method_15_22) k) ?_
          show Go p e below _ (s₁.setTop (mkF m 24 #[.val (.long (own_nl nu)), .second, iv (0 : Int32), .val (.long (-100000 : Int64)), .second, iv (5 : Int32)] [(.int (19 : Int32)), (.int (5 : Int32))]))
          refine Go.pre (fun _ k => XS.icmpNo X0.here hx rfl (hb hby d_jdk_35_method_15_24) rfl (tlt (by decide : (5 : Int32) < (19 : Int32))).2.1 k) ?_
          show Go p e below _ (s₁.setTop (mkF m 27 #[.val (.long (own_nl nu)), .second, iv (0 : Int32), .val (.long (-100000 : Int64)), .second, iv (5 : Int32)] []))
          refine Go.pre (fun _ k => XS.lloadN X0.here hx rfl (hb hby d_jdk_35_method_15_27) rfl k) ?_
          show Go p e below _ (s₁.setTop (mkF m 28 #[.val (.long (own_nl nu)), .second, iv (0 : Int32), .val (.long (-100000 : Int64)), .second, iv (5 : Int32)] [(.long (own_nl nu))]))
          refine Go.pre (fun _ k => XS.lloadN X0.here hx rfl (hb hby d_jdk_35_method_15_28) rfl k) ?_
          show Go p e below _ (s₁.setTop (mkF m 29 #[.val (.long (own_nl nu)), .second, iv (0 : Int32), .val (.long (-100000 : Int64)), .second, iv (5 : Int32)] [(.long (-100000 : Int64)), (.long (own_nl nu))]))
          refine Go.pre (fun _ k => XS.lcmp X0.here hx rfl (hb hby d_jdk_35_method_15_29) rfl k) ?_
          show Go p e below _ (s₁.setTop (mkF m 30 #[.val (.long (own_nl nu)), .second, iv (0 : Int32), .val (.long (-100000 : Int64)), .second, iv (5 : Int32)] [(.int (lcmpW (own_nl nu) (-100000 : Int64)))]))
          by_cases hc30_5 : nu < 100000
          · skip
            refine Go.pre (fun _ k => XS.ifNo X0.here hx rfl (hb hby d_jdk_35_method_15_30) rfl ((if0 _ _).trans (tlt (own_gtT ((own_nll (a := 100000) (b := nu) (by omega) (by omega)).mpr hc30_5))).2.2.2) k) ?_
            show Go p e below _ (s₁.setTop (mkF m 33 #[.val (.long (own_nl nu)), .second, iv (0 : Int32), .val (.long (-100000 : Int64)), .second, iv (5 : Int32)] []))
            refine Go.pre (fun _ k => XS.iload X0.here hx rfl (hb hby d_jdk_35_method_15_33) rfl k) ?_
            show Go p e below _ (s₁.setTop (mkF m 35 #[.val (.long (own_nl nu)), .second, iv (0 : Int32), .val (.long (-100000 : Int64)), .second, iv (5 : Int32)] [(.int (5 : Int32))]))
            refine Go.pre (fun _ k => XS.iloadN X0.here hx rfl (hb hby d_jdk_35_method_15_35) rfl k) ?_
            show Go p e below _ (s₁.setTop (mkF m 36 #[.val (.long (own_nl nu)), .second, iv (0 : Int32), .val (.long (-100000 : Int64)), .second, iv (5 : Int32)] [(.int (0 : Int32)), (.int (5 : Int32))]))
            refine Go.pre (fun _ k => XS.iadd X0.here hx rfl (hb hby d_jdk_35_method_15_36) rfl k) ?_
            show Go p e below _ (s₁.setTop (mkF m 37 #[.val (.long (own_nl nu)), .second, iv (0 : Int32), .val (.long (-100000 : Int64)), .second, iv (5 : Int32)] [(.int (5 : Int32))]))
            obtain ⟨fs, hr, hrun, hended, hW, hsame⟩ := X0.leave (v := some (.int (5 : Int32))) (fun h => by rw [Bd.returns] at h; cases h)
            refine Go.fin (retI X0 hx Bd.returns (hb hby d_jdk_35_method_15_37) hr) ⟨hrun, hended, _, _, rfl, ?_, ⟨_, rfl⟩, hW, hsame.mono (by decide) (by decide)⟩
            show Q_ss Z nu h0 n0 _ s₁.heap _
            rw [e0]
            exact ⟨by rw [own_len5 (by omega) (by omega)]; rfl, N0, rfl⟩
          · skip
            refine Go.pre (fun _ k => XS.ifYes X0.here hx rfl (pc0 := 30) (pc' := 38) rfl (hb hby d_jdk_35_method_15_30) rfl ((if0 _ _).trans (flt (own_gtF (fun q => hc30_5 ((own_nll (a := 100000) (b := nu) (by omega) (by omega)).mp q)))).2.2.2) (by decide) (by decide) k) ?_
            show Go p e below _ (s₁.setTop (mkF m 38 #[.val (.long (own_nl nu)), .second, iv (0 : Int32), .val (.long (-100000 : Int64)), .second, iv (5 : Int32)] []))
            refine Go.pre (X0.ldc2Long hx hown (mvT hZ (hw _ (List.mem_of_getElem? (i := 210) rfl))) (g := (mkF m 38 #[.val (.long (own_nl nu)), .second, iv (0 : Int32), .val (.long (-100000 : Int64)), .second, iv (5 : Int32)] [])) rfl (hb hby d_jdk_35_method_15_38)) ?_
            show Go p e below _ (s₁.setTop (mkF m 41 #[.val (.long (own_nl nu)), .second, iv (0 : Int32), .val (.long (-100000 : Int64)), .second, iv (5 : Int32)] [(.long (10 : Int64))]))
            refine Go.pre (fun _ k => XS.lloadN X0.here hx rfl (hb hby d_jdk_35_method_15_41) rfl k) ?_
            show Go p e below _ (s₁.setTop (mkF m 42 #[.val (.long (own_nl nu)), .second, iv (0 : Int32), .val (.long (-100000 : Int64)), .second, iv (5 : Int32)] [(.long (-100000 : Int64)), (.long (10 : Int64))]))
            refine Go.pre (fun _ k => XS.lmul X0.here hx rfl (hb hby d_jdk_35_method_15_42) rfl k) ?_
            show Go p e below _ (s₁.setTop (mkF m 43 #[.val (.long (own_nl nu)), .second, iv (0 : Int32), .val (.long (-100000 : Int64)), .second, iv (5 : Int32)] [(.long (-1000000 : Int64))]))
            refine Go.pre (fun _ k => XS.lstoreN X0.here hx rfl (hb hby d_jdk_35_method_15_43) rfl (l' := #[.val (.long (own_nl nu)), .second, iv (0 : Int32), .val (.long (-1000000 : Int64)), .second, iv (5 : Int32)]) rfl k) ?_
            show Go p e below _ (s₁.setTop (mkF m 44 #[.val (.long (own_nl nu)), .second, iv (0 : Int32), .val (.long (-1000000 : Int64)), .second, iv (5 : Int32)] []))
            refine Go.pre (fun _ k => XS.iinc X0.here hx rfl (hb hby d_jdk_35_method_15_44) rfl (l' := #[.val (.long (own_nl nu)), .second, iv (0 : Int32), .val (.long (-1000000 : Int64)), .second, iv (6 : Int32)]) rfl k) ?_
            show Go p e below _ (s₁.setTop (mkF m 47 #[.val (.long (own_nl nu)), .second, iv (0 : Int32), .val (.long (-1000000 : Int64)), .second, iv (6 : Int32)] []))
            refine Go.pre (fun _ k => XS.goto X0.here hx rfl (pc0 := 47) (pc' := 20) rfl (hb hby d_jdk_35_method_15_47) (by decide) (by decide) k) ?_
            show Go p e below _ (s₁.setTop (mkF m 20 #[.val (.long (own_nl nu)), .second, iv (0 : Int32), .val (.long (-1000000 : Int64)), .second, iv (6 : Int32)] []))
            refine Go.pre (fun _ k => XS.iload X0.here hx rfl (hb hby d_jdk_35_method_15_20) rfl k) ?_
            show Go p e below _ (s₁.setTop (mkF m 22 #[.val (.long (own_nl nu)), .second, iv (0 : Int32), .val (.long (-1000000 : Int64)), .second, iv (6 : Int32)] [(.int (6 : Int32))]))
            refine Go.pre (fun _ k => XS.bipush X0.here hx rfl (hb hby d_jdk_35_method_15_22) k) ?_
            show Go p e below _ (s₁.setTop (mkF m 24 #[.val (.long (own_nl nu)), .second, iv (0 : Int32), .val (.long (-1000000 : Int64)), .second, iv (6 : Int32)] [(.int (19 : Int32)), (.int (6 : Int32))]))
            refine Go.pre (fun _ k => XS.icmpNo X0.here hx rfl (hb hby d_jdk_35_method_15_24) rfl (tlt (by decide : (6 : Int32) < (19 : Int32))).2.1 k) ?_
            show Go p e below _ (s₁.setTop (mkF m 27 #[.val (.long (own_nl nu)), .second, iv (0 : Int32), .val (.long (-1000000 : Int64)), .second, iv (6 : Int32)] []))
            refine Go.pre (fun _ k => XS.lloadN X0.here hx rfl (hb hby d_jdk_35_method_15_27) rfl k) ?_
            show Go p e below _ (s₁.setTop (mkF m 28 #[.val (.long (own_nl nu)), .second, iv (0 : Int32), .val (.long (-1000000 : Int64)), .second, iv (6 : Int32)] [(.long (own_nl nu))]))
            refine Go.pre (fun _ k => XS.lloadN X0.here hx rfl (hb hby d_jdk_35_method_15_28) rfl k) ?_
            show Go p e below _ (s₁.setTop (mkF m 29 #[.val (.long (own_nl nu)), .second, iv (0 : Int32), .val (.long (-1000000 : Int64)), .second, iv (6 : Int32)] [(.long (-1000000 : Int64)), (.long (own_nl nu))]))
            refine Go.pre (fun _ k => XS.lcmp X0.here hx rfl (hb hby d_jdk_35_method_15_29) rfl k) ?_
            show Go p e below _ (s₁.setTop (mkF m 30 #[.val (.long (own_nl nu)), .second, iv (0 : Int32), .val (.long (-1000000 : Int64)), .second, iv (6 : Int32)] [(.int (lcmpW (own_nl nu) (-1000000 : Int64)))]))
            by_cases hc30_6 : nu < 1000000
            · skip
              refine Go.pre (fun _ k => XS.ifNo X0.here hx rfl (hb hby d_jdk_35_method_15_30) rfl ((if0 _ _).trans (tlt (own_gtT ((own_nll (a := 1000000) (b := nu) (by omega) (by omega)).mpr hc30_6))).2.2.2) k) ?_
              show Go p e below _ (s₁.setTop (mkF m 33 #[.val (.long (own_nl nu)), .second, iv (0 : Int32), .val (.long (-1000000 : Int64)), .second, iv (6 : Int32)] []))
              refine Go.pre (fun _ k => XS.iload X0.here hx rfl (hb hby d_jdk_35_method_15_33) rfl k) ?_
              show Go p e below _ (s₁.setTop (mkF m 35 #[.val (.long (own_nl nu)), .second, iv (0 : Int32), .val (.long (-1000000 : Int64)), .second, iv (6 : Int32)] [(.int (6 : Int32))]))
              refine Go.pre (fun _ k => XS.iloadN X0.here hx rfl (hb hby d_jdk_35_method_15_35) rfl k) ?_
              show Go p e below _ (s₁.setTop (mkF m 36 #[.val (.long (own_nl nu)), .second, iv (0 : Int32), .val (.long (-1000000 : Int64)), .second, iv (6 : Int32)] [(.int (0 : Int32)), (.int (6 : Int32))]))
              refine Go.pre (fun _ k => XS.iadd X0.here hx rfl (hb hby d_jdk_35_method_15_36) rfl k) ?_
              show Go p e below _ (s₁.setTop (mkF m 37 #[.val (.long (own_nl nu)), .second, iv (0 : Int32), .val (.long (-1000000 : Int64)), .second, iv (6 : Int32)] [(.int (6 : Int32))]))
              obtain ⟨fs, hr, hrun, hended, hW, hsame⟩ := X0.leave (v := some (.int (6 : Int32))) (fun h => by rw [Bd.returns] at h; cases h)
              refine Go.fin (retI X0 hx Bd.returns (hb hby d_jdk_35_method_15_37) hr) ⟨hrun, hended, _, _, rfl, ?_, ⟨_, rfl⟩, hW, hsame.mono (by decide) (by decide)⟩
              show Q_ss Z nu h0 n0 _ s₁.heap _
              rw [e0]
              exact ⟨by rw [own_len6 (by omega) (by omega)]; rfl, N0, rfl⟩
            · skip
              refine Go.pre (fun _ k => XS.ifYes X0.here hx rfl (pc0 := 30) (pc' := 38) rfl (hb hby d_jdk_35_method_15_30) rfl ((if0 _ _).trans (flt (own_gtF (fun q => hc30_6 ((own_nll (a := 1000000) (b := nu) (by omega) (by omega)).mp q)))).2.2.2) (by decide) (by decide) k) ?_
              show Go p e below _ (s₁.setTop (mkF m 38 #[.val (.long (own_nl nu)), .second, iv (0 : Int32), .val (.long (-1000000 : Int64)), .second, iv (6 : Int32)] []))
              refine Go.pre (X0.ldc2Long hx hown (mvT hZ (hw _ (List.mem_of_getElem? (i := 210) rfl))) (g := (mkF m 38 #[.val (.long (own_nl nu)), .second, iv (0 : Int32), .val (.long (-1000000 : Int64)), .second, iv (6 : Int32)] [])) rfl (hb hby d_jdk_35_method_15_38)) ?_
              show Go p e below _ (s₁.setTop (mkF m 41 #[.val (.long (own_nl nu)), .second, iv (0 : Int32), .val (.long (-1000000 : Int64)), .second, iv (6 : Int32)] [(.long (10 : Int64))]))
              refine Go.pre (fun _ k => XS.lloadN X0.here hx rfl (hb hby d_jdk_35_method_15_41) rfl k) ?_
              show Go p e below _ (s₁.setTop (mkF m 42 #[.val (.long (own_nl nu)), .second, iv (0 : Int32), .val (.long (-1000000 : Int64)), .second, iv (6 : Int32)] [(.long (-1000000 : Int64)), (.long (10 : Int64))]))
              refine Go.pre (fun _ k => XS.lmul X0.here hx rfl (hb hby d_jdk_35_method_15_42) rfl k) ?_
              show Go p e below _ (s₁.setTop (mkF m 43 #[.val (.long (own_nl nu)), .second, iv (0 : Int32), .val (.long (-1000000 : Int64)), .second, iv (6 : Int32)] [(.long (-10000000 : Int64))]))
              refine Go.pre (fun _ k => XS.lstoreN X0.here hx rfl (hb hby d_jdk_35_method_15_43) rfl (l' := #[.val (.long (own_nl nu)), .second, iv (0 : Int32), .val (.long (-10000000 : Int64)), .second, iv (6 : Int32)]) rfl k) ?_
              show Go p e below _ (s₁.setTop (mkF m 44 #[.val (.long (own_nl nu)), .second, iv (0 : Int32), .val (.long (-10000000 : Int64)), .second, iv (6 : Int32)] []))
              refine Go.pre (fun _ k => XS.iinc X0.here hx rfl (hb hby d_jdk_35_method_15_44) rfl (l' := #[.val (.long (own_nl nu)), .second, iv (0 : Int32), .val (.long (-10000000 : Int64)), .second, iv (7 : Int32)]) rfl k) ?_
              show Go p e below _ (s₁.setTop (mkF m 47 #[.val (.long (own_nl nu)), .second, iv (0 : Int32), .val (.long (-10000000 : Int64)), .second, iv (7 : Int32)] []))
              refine Go.pre (fun _ k => XS.goto X0.here hx rfl (pc0 := 47) (pc' := 20) rfl (hb hby d_jdk_35_method_15_47) (by decide) (by decide) k) ?_
              show Go p e below _ (s₁.setTop (mkF m 20 #[.val (.long (own_nl nu)), .second, iv (0 : Int32), .val (.long (-10000000 : Int64)), .second, iv (7 : Int32)] []))
              refine Go.pre (fun _ k => XS.iload X0.here hx rfl (hb hby d_jdk_35_method_15_20) rfl k) ?_
              show Go p e below _ (s₁.setTop (mkF m 22 #[.val (.long (own_nl nu)), .second, iv (0 : Int32), .val (.long (-10000000 : Int64)), .second, iv (7 : Int32)] [(.int (7 : Int32))]))
              refine Go.pre (fun _ k => XS.bipush X0.here hx rfl (hb hby d_jdk_35_method_15_22) k) ?_
              show Go p e below _ (s₁.setTop (mkF m 24 #[.val (.long (own_nl nu)), .second, iv (0 : Int32), .val (.long (-10000000 : Int64)), .second, iv (7 : Int32)] [(.int (19 : Int32)), (.int (7 : Int32))]))
              refine Go.pre (fun _ k => XS.icmpNo X0.here hx rfl (hb hby d_jdk_35_method_15_24) rfl (tlt (by decide : (7 : Int32) < (19 : Int32))).2.1 k) ?_
              show Go p e below _ (s₁.setTop (mkF m 27 #[.val (.long (own_nl nu)), .second, iv (0 : Int32), .val (.long (-10000000 : Int64)), .second, iv (7 : Int32)] []))
              refine Go.pre (fun _ k => XS.lloadN X0.here hx rfl (hb hby d_jdk_35_method_15_27) rfl k) ?_
              show Go p e below _ (s₁.setTop (mkF m 28 #[.val (.long (own_nl nu)), .second, iv (0 : Int32), .val (.long (-10000000 : Int64)), .second, iv (7 : Int32)] [(.long (own_nl nu))]))
              refine Go.pre (fun _ k => XS.lloadN X0.here hx rfl (hb hby d_jdk_35_method_15_28) rfl k) ?_
              show Go p e below _ (s₁.setTop (mkF m 29 #[.val (.long (own_nl nu)), .second, iv (0 : Int32), .val (.long (-10000000 : Int64)), .second, iv (7 : Int32)] [(.long (-10000000 : Int64)), (.long (own_nl nu))]))
              refine Go.pre (fun _ k => XS.lcmp X0.here hx rfl (hb hby d_jdk_35_method_15_29) rfl k) ?_
              show Go p e below _ (s₁.setTop (mkF m 30 #[.val (.long (own_nl nu)), .second, iv (0 : Int32), .val (.long (-10000000 : Int64)), .second, iv (7 : Int32)] [(.int (lcmpW (own_nl nu) (-10000000 : Int64)))]))
              by_cases hc30_7 : nu < 10000000
              · skip
                refine Go.pre (fun _ k => XS.ifNo X0.here hx rfl (hb hby d_jdk_35_method_15_30) rfl ((if0 _ _).trans (tlt (own_gtT ((own_nll (a := 10000000) (b := nu) (by omega) (by omega)).mpr hc30_7))).2.2.2) k) ?_
                show Go p e below _ (s₁.setTop (mkF m 33 #[.val (.long (own_nl nu)), .second, iv (0 : Int32), .val (.long (-10000000 : Int64)), .second, iv (7 : Int32)] []))
                refine Go.pre (fun _ k => XS.iload X0.here hx rfl (hb hby d_jdk_35_method_15_33) rfl k) ?_
                show Go p e below _ (s₁.setTop (mkF m 35 #[.val (.long (own_nl nu)), .second, iv (0 : Int32), .val (.long (-10000000 : Int64)), .second, iv (7 : Int32)] [(.int (7 : Int32))]))
                refine Go.pre (fun _ k => XS.iloadN X0.here hx rfl (hb hby d_jdk_35_method_15_35) rfl k) ?_
                show Go p e below _ (s₁.setTop (mkF m 36 #[.val (.long (own_nl nu)), .second, iv (0 : Int32), .val (.long (-10000000 : Int64)), .second, iv (7 : Int32)] [(.int (0 : Int32)), (.int (7 : Int32))]))
                refine Go.pre (fun _ k => XS.iadd X0.here hx rfl (hb hby d_jdk_35_method_15_36) rfl k) ?_
                show Go p e below _ (s₁.setTop (mkF m 37 #[.val (.long (own_nl nu)), .second, iv (0 : Int32), .val (.long (-10000000 : Int64)), .second, iv (7 : Int32)] [(.int (7 : Int32))]))
                obtain ⟨fs, hr, hrun, hended, hW, hsame⟩ := X0.leave (v := some (.int (7 : Int32))) (fun h => by rw [Bd.returns] at h; cases h)
                refine Go.fin (retI X0 hx Bd.returns (hb hby d_jdk_35_method_15_37) hr) ⟨hrun, hended, _, _, rfl, ?_, ⟨_, rfl⟩, hW, hsame.mono (by decide) (by decide)⟩
                show Q_ss Z nu h0 n0 _ s₁.heap _
                rw [e0]
                exact ⟨by rw [own_len7 (by omega) (by omega)]; rfl, N0, rfl⟩
              · skip
                refine Go.pre (fun _ k => XS.ifYes X0.here hx rfl (pc0 := 30) (pc' := 38) rfl (hb hby d_jdk_35_method_15_30) rfl ((if0 _ _).trans (flt (own_gtF (fun q => hc30_7 ((own_nll (a := 10000000) (b := nu) (by omega) (by omega)).mp q)))).2.2.2) (by decide) (by decide) k) ?_
                show Go p e below _ (s₁.setTop (mkF m 38 #[.val (.long (own_nl nu)), .second, iv (0 : Int32), .val (.long (-10000000 : Int64)), .second, iv (7 : Int32)] []))
                refine Go.pre (X0.ldc2Long hx hown (mvT hZ (hw _ (List.mem_of_getElem? (i := 210) rfl))) (g := (mkF m 38 #[.val (.long (own_nl nu)), .second, iv (0 : Int32), .val (.long (-10000000 : Int64)), .second, iv (7 : Int32)] [])) rfl (hb hby d_jdk_35_method_15_38)) ?_
                show Go p e below _ (s₁.setTop (mkF m 41 #[.val (.long (own_nl nu)), .second, iv (0 : Int32), .val (.long (-10000000 : Int64)), .second, iv (7 : Int32)] [(.long (10 : Int64))]))
                refine Go.pre (fun _ k => XS.lloadN X0.here hx rfl (hb hby d_jdk_35_method_15_41) rfl k) ?_
                show Go p e below _ (s₁.setTop (mkF m 42 #[.val (.long (own_nl nu)), .second, iv (0 : Int32), .val (.long (-10000000 : Int64)), .second, iv (7 : Int32)] [(.long (-10000000 : Int64)), (.long (10 : Int64))]))
                refine Go.pre (fun _ k => XS.lmul X0.here hx rfl (hb hby d_jdk_35_method_15_42) rfl k) ?_
                show Go p e below _ (s₁.setTop (mkF m 43 #[.val (.long (own_nl nu)), .second, iv (0 : Int32), .val (.long (-10000000 : Int64)), .second, iv (7 : Int32)] [(.long (-100000000 : Int64))]))
                refine Go.pre (fun _ k => XS.lstoreN X0.here hx rfl (hb hby d_jdk_35_method_15_43) rfl (l' := #[.val (.long (own_nl nu)), .second, iv (0 : Int32), .val (.long (-100000000 : Int64)), .second, iv (7 : Int32)]) rfl k) ?_
                show Go p e below _ (s₁.setTop (mkF m 44 #[.val (.long (own_nl nu)), .second, iv (0 : Int32), .val (.long (-100000000 : Int64)), .second, iv (7 : Int32)] []))
                refine Go.pre (fun _ k => XS.iinc X0.here hx rfl (hb hby d_jdk_35_method_15_44) rfl (l' := #[.val (.long (own_nl nu)), .second, iv (0 : Int32), .val (.long (-100000000 : Int64)), .second, iv (8 : Int32)]) rfl k) ?_
                show Go p e below _ (s₁.setTop (mkF m 47 #[.val (.long (own_nl nu)), .second, iv (0 : Int32), .val (.long (-100000000 : Int64)), .second, iv (8 : Int32)] []))
                refine Go.pre (fun _ k => XS.goto X0.here hx rfl (pc0 := 47) (pc' := 20) rfl (hb hby d_jdk_35_method_15_47) (by decide) (by decide) k) ?_
                show Go p e below _ (s₁.setTop (mkF m 20 #[.val (.long (own_nl nu)), .second, iv (0 : Int32), .val (.long (-100000000 : Int64)), .second, iv (8 : Int32)] []))
                refine Go.pre (fun _ k => XS.iload X0.here hx rfl (hb hby d_jdk_35_method_15_20) rfl k) ?_
                show Go p e below _ (s₁.setTop (mkF m 22 #[.val (.long (own_nl nu)), .second, iv (0 : Int32), .val (.long (-100000000 : Int64)), .second, iv (8 : Int32)] [(.int (8 : Int32))]))
                refine Go.pre (fun _ k => XS.bipush X0.here hx rfl (hb hby d_jdk_35_method_15_22) k) ?_
                show Go p e below _ (s₁.setTop (mkF m 24 #[.val (.long (own_nl nu)), .second, iv (0 : Int32), .val (.long (-100000000 : Int64)), .second, iv (8 : Int32)] [(.int (19 : Int32)), (.int (8 : Int32))]))
                refine Go.pre (fun _ k => XS.icmpNo X0.here hx rfl (hb hby d_jdk_35_method_15_24) rfl (tlt (by decide : (8 : Int32) < (19 : Int32))).2.1 k) ?_
                show Go p e below _ (s₁.setTop (mkF m 27 #[.val (.long (own_nl nu)), .second, iv (0 : Int32), .val (.long (-100000000 : Int64)), .second, iv (8 : Int32)] []))
                refine Go.pre (fun _ k => XS.lloadN X0.here hx rfl (hb hby d_jdk_35_method_15_27) rfl k) ?_
                show Go p e below _ (s₁.setTop (mkF m 28 #[.val (.long (own_nl nu)), .second, iv (0 : Int32), .val (.long (-100000000 : Int64)), .second, iv (8 : Int32)] [(.long (own_nl nu))]))
                refine Go.pre (fun _ k => XS.lloadN X0.here hx rfl (hb hby d_jdk_35_method_15_28) rfl k) ?_
                show Go p e below _ (s₁.setTop (mkF m 29 #[.val (.long (own_nl nu)), .second, iv (0 : Int32), .val (.long (-100000000 : Int64)), .second, iv (8 : Int32)] [(.long (-100000000 : Int64)), (.long (own_nl nu))]))
                refine Go.pre (fun _ k => XS.lcmp X0.here hx rfl (hb hby d_jdk_35_method_15_29) rfl k) ?_
                show Go p e below _ (s₁.setTop (mkF m 30 #[.val (.long (own_nl nu)), .second, iv (0 : Int32), .val (.long (-100000000 : Int64)), .second, iv (8 : Int32)] [(.int (lcmpW (own_nl nu) (-100000000 : Int64)))]))
                refine Go.pre (fun _ k => XS.ifNo X0.here hx rfl (hb hby d_jdk_35_method_15_30) rfl ((if0 _ _).trans (tlt (own_gtT ((own_nll (a := 100000000) (by omega) (by omega)).mpr hn))).2.2.2) k) ?_
                show Go p e below _ (s₁.setTop (mkF m 33 #[.val (.long (own_nl nu)), .second, iv (0 : Int32), .val (.long (-100000000 : Int64)), .second, iv (8 : Int32)] []))
                refine Go.pre (fun _ k => XS.iload X0.here hx rfl (hb hby d_jdk_35_method_15_33) rfl k) ?_
                show Go p e below _ (s₁.setTop (mkF m 35 #[.val (.long (own_nl nu)), .second, iv (0 : Int32), .val (.long (-100000000 : Int64)), .second, iv (8 : Int32)] [(.int (8 : Int32))]))
                refine Go.pre (fun _ k => XS.iloadN X0.here hx rfl (hb hby d_jdk_35_method_15_35) rfl k) ?_
                show Go p e below _ (s₁.setTop (mkF m 36 #[.val (.long (own_nl nu)), .second, iv (0 : Int32), .val (.long (-100000000 : Int64)), .second, iv (8 : Int32)] [(.int (0 : Int32)), (.int (8 : Int32))]))
                refine Go.pre (fun _ k => XS.iadd X0.here hx rfl (hb hby d_jdk_35_method_15_36) rfl k) ?_
                show Go p e below _ (s₁.setTop (mkF m 37 #[.val (.long (own_nl nu)), .second, iv (0 : Int32), .val (.long (-100000000 : Int64)), .second, iv (8 : Int32)] [(.int (8 : Int32))]))
                obtain ⟨fs, hr, hrun, hended, hW, hsame⟩ := X0.leave (v := some (.int (8 : Int32))) (fun h => by rw [Bd.returns] at h; cases h)
                refine Go.fin (retI X0 hx Bd.returns (hb hby d_jdk_35_method_15_37) hr) ⟨hrun, hended, _, _, rfl, ?_, ⟨_, rfl⟩, hW, hsame.mono (by decide) (by decide)⟩
                show Q_ss Z nu h0 n0 _ s₁.heap _
                rw [e0]
                exact ⟨by rw [own_len8 (by omega) (by omega)]; rfl, N0, rfl⟩

theorem ef_gc (m : MethodId) (x0 : Int64) (x1 : Int32) (x2 : Addr) : entryFrame m #[(.long x0), (.int x1), (.ref x2)] 11 = mkF m 0 #[.val (.long x0), .second, iv x1, rv x2, .unset, .unset, .unset, .unset, .unset, .unset, .unset] [] := by first | (simp [entryFrame, mkF, argsToLocals, Value.category]; done) | rfl
theorem pn_gc : plainName "java/lang/Long" = true := by first | (simp [plainName, overriddenIn]; done) | decide +kernel
def Q_gc (Z : State) (nu : Nat) (b : Addr) (kb : ClassId) (d1a : Addr) (d10a : Addr) (h0 : Heap) (n0 : Nat) (v : Option Value) (h : Heap) (L : List Loc) : Prop := (∃ r : Int32, v = some (.int r)) ∧ Fr n0 L ∧ Keep h0 h [b] ∧ Arv Z h b kb .byte 16 ((own_gc 5 nu (1 + own_len nu) own_v0).map Value.int) (.int 0)
set_option maxRecDepth 65536 in
set_option maxHeartbeats 40000000 in
theorem rm_gc (l : Launch) (Z : State) (a0 : Array Value) (hw : ∀ d ∈ tables_1, d.before a0 Z = true) (ws : List Jvm.Cond) (nu : Nat) (b : Addr) (kb : ClassId) (d1a : Addr) (d10a : Addr) (h0 : Heap) (n0 : Nat) (Z0 : n0 ≤ h0.size) (O : Old Z n0 h0) (SD1 : Sta Z Z.heap "java/lang/Integer" "DigitOnes" "[B" (.ref d1a)) (G1 : Dgt Z d1a own_d1) (SD10 : Sta Z Z.heap "java/lang/Integer" "DigitTens" "[B" (.ref d10a)) (G10 : Dgt Z d10a own_d10) (tA : Arv Z h0 b kb .byte 16 (own_v0.map Value.int) (.int 0)) (gb_ : n0 ≤ b) (hn : nu < 100000000) :
    MetFree l (⟨"java/lang/Long", "getChars", "(JI[B)I"⟩ : MethodName) (head1 (Jvm.Cond.code (⟨"java/lang/Long", "getChars", "(JI[B)I"⟩ : MethodName) jdk_35_method_14_code 11 (some .int) :: ws) ({ frames := 0, cells := 0, slots := 0, locals := 0 } : Room)) (fun as_ U => as_ = #[(.long (Int64.ofNat nu)), (.int (Int32.ofNat (1 + own_len nu))), (.ref b)] ∧ Z.Warmed39 U.vm ∧ U.heap = h0) (fun _ _ _ _ _ => True) (fun _ U o U' => ∃ v L, o = .returned v ∧ Q_gc Z nu b kb d1a d10a h0 n0 v U'.heap L ∧ FrameEnd U o U' L ({ frames := 0, cells := 0, slots := 0, locals := 0 } : Room).cells ({ frames := 0, cells := 0, slots := 0, locals := 0 } : Room).slots) := by
  refine MetFree.of_bodySF (plainFor_of_name pn_gc) hisR ?_
  intro p e s m args below meth c s₁ Bd hml0 hP hK
  obtain ⟨rfl, hZ, hh⟩ := hP
  have hx := Bd.exec
  have hby := Bd.bytes
  have hml : c.maxLocals = 11 := hml0
  have hown : s.vm.findClass "java/lang/Long" = some m.cls := findClass_of_methodNamed Bd.named
  have hnm := (name_of_methodNamed Bd.named Bd.method).1
  have X0 : Stand p l e ({ frames := 0, cells := 0, slots := 0, locals := 0 } : Room) s m #[(.long (Int64.ofNat nu)), (.int (Int32.ofNat (1 + own_len nu))), (.ref b)] below meth c s₁ [] 0 0 := Stand.of_body Bd
  have e0 : s₁.heap = h0 := by rw [← hh, Bd.state]; rfl
  have N0 := Fr.nil n0
  refine Go.out ?_
  refine Go.pre (fun t k => castTop (ef_gc m (Int64.ofNat nu) (Int32.ofNat (1 + own_len nu)) b) k) ?_
  refine Go.named fun P hP => ?_
  have hlen := own_len_le nu
  obtain ⟨RR, hRR⟩ : ∃ r, r = own_gc 5 nu (1 + own_len nu) own_v0 := ⟨_, rfl⟩
  have J86 : ∀ (f mu pos : Nat) (vs : List Int32) (s6 s9 : Slot), One s6 → One s9 → mu < 100000000 → pos = 1 + own_len mu → mu < 100 ^ f → 1 ≤ f → vs.length = 16 → own_gc f mu pos vs = RR → ∀ (T : State) (locs : List Loc) (h : Heap), Stand p l e ({ frames := 0, cells := 0, slots := 0, locals := 0 } : Room) s m #[(.long (Int64.ofNat nu)), (.int (Int32.ofNat (1 + own_len nu))), (.ref b)] below meth c T locs 0 0 → Fr n0 locs → T.heap = h → Keep h0 h [b] → Arv Z h b kb .byte 16 (vs.map Value.int) (.int 0) → Old Z n0 h → Go p e below P (T.setTop (mkF m 86 #[.val (.long (own_nl nu)), .second, iv (Int32.ofNat (1 + own_len nu)), rv b, .unset, .unset, s6, iv (Int32.ofNat pos), iv (0 : Int32), s9, iv (own_ng mu)] [])) := by
    intro f
    induction f with
    | zero => intro mu pos vs s6 s9 _ _ _ _ _ h1; exact absurd h1 (by decide)
    | succ f ih =>
      intro mu pos vs s6 s9 hs6 hs9 hmu hpos hf h1 hl hR T locs h X N eT KK VV OO
      have hlm := own_len_le mu
      show Go p e below _ (T.setTop (mkF m 86 #[.val (.long (own_nl nu)), .second, iv (Int32.ofNat (1 + own_len nu)), rv b, .unset, .unset, s6, iv (Int32.ofNat pos), iv (0 : Int32), s9, iv (own_ng mu)] []))
      refine Go.pre (fun _ k => XS.iload X.here hx rfl (hb hby d_jdk_35_method_14_86) rfl k) ?_
      show Go p e below _ (T.setTop (mkF m 88 #[.val (.long (own_nl nu)), .second, iv (Int32.ofNat (1 + own_len nu)), rv b, .unset, .unset, s6, iv (Int32.ofNat pos), iv (0 : Int32), s9, iv (own_ng mu)] [(.int (own_ng mu))]))
      refine Go.pre (fun _ k => XS.bipush X.here hx rfl (hb hby d_jdk_35_method_14_88) k) ?_
      show Go p e below _ (T.setTop (mkF m 90 #[.val (.long (own_nl nu)), .second, iv (Int32.ofNat (1 + own_len nu)), rv b, .unset, .unset, s6, iv (Int32.ofNat pos), iv (0 : Int32), s9, iv (own_ng mu)] [(.int (-100 : Int32)), (.int (own_ng mu))]))
      by_cases hc90_1 : mu < 100
      · skip
        refine Go.pre (fun _ k => XS.icmpYes X.here hx rfl (pc0 := 90) (pc' := 143) rfl (hb hby d_jdk_35_method_14_90) rfl (tlt ((own_ngl (a := 100) (b := mu) (by omega) (by omega)).mpr hc90_1)).2.2.1 (by decide) (by decide) k) ?_
        show Go p e below _ (T.setTop (mkF m 143 #[.val (.long (own_nl nu)), .second, iv (Int32.ofNat (1 + own_len nu)), rv b, .unset, .unset, s6, iv (Int32.ofNat pos), iv (0 : Int32), s9, iv (own_ng mu)] []))
        refine Go.pre (fun _ k => XS.aloadN X.here hx rfl (hb hby d_jdk_35_method_14_143) rfl rfl k) ?_
        show Go p e below _ (T.setTop (mkF m 144 #[.val (.long (own_nl nu)), .second, iv (Int32.ofNat (1 + own_len nu)), rv b, .unset, .unset, s6, iv (Int32.ofNat pos), iv (0 : Int32), s9, iv (own_ng mu)] [(.ref b)]))
        refine Go.pre (fun _ k => XS.iinc X.here hx rfl (hb hby d_jdk_35_method_14_144) rfl (l' := #[.val (.long (own_nl nu)), .second, iv (Int32.ofNat (1 + own_len nu)), rv b, .unset, .unset, s6, iv ((Int32.ofNat pos) + (-1 : Int32)), iv (0 : Int32), s9, iv (own_ng mu)]) rfl k) ?_
        show Go p e below _ (T.setTop (mkF m 147 #[.val (.long (own_nl nu)), .second, iv (Int32.ofNat (1 + own_len nu)), rv b, .unset, .unset, s6, iv ((Int32.ofNat pos) + (-1 : Int32)), iv (0 : Int32), s9, iv (own_ng mu)] [(.ref b)]))
        rw [own_dec (by omega)]
        show Go p e below _ (T.setTop (mkF m 147 #[.val (.long (own_nl nu)), .second, iv (Int32.ofNat (1 + own_len nu)), rv b, .unset, .unset, s6, iv (Int32.ofNat (pos - 1)), iv (0 : Int32), s9, iv (own_ng mu)] [(.ref b)]))
        refine Go.pre (fun _ k => XS.iload X.here hx rfl (hb hby d_jdk_35_method_14_147) rfl k) ?_
        show Go p e below _ (T.setTop (mkF m 149 #[.val (.long (own_nl nu)), .second, iv (Int32.ofNat (1 + own_len nu)), rv b, .unset, .unset, s6, iv (Int32.ofNat (pos - 1)), iv (0 : Int32), s9, iv (own_ng mu)] [(.int (Int32.ofNat (pos - 1))), (.ref b)]))
        obtain ⟨T2, X2, e2, st2⟩ := getS2 X hx hZ hown (host := "") (Or.inl (hw _ (List.mem_of_getElem? (i := 135) rfl))) Via.refl eT (SD1.ext OO.2) (g := (mkF m 149 #[.val (.long (own_nl nu)), .second, iv (Int32.ofNat (1 + own_len nu)), rv b, .unset, .unset, s6, iv (Int32.ofNat (pos - 1)), iv (0 : Int32), s9, iv (own_ng mu)] [(.int (Int32.ofNat (pos - 1))), (.ref b)])) rfl (hb hby d_jdk_35_method_14_149)
        refine Go.pre st2 ?_
        show Go p e below _ (T2.setTop (mkF m 152 #[.val (.long (own_nl nu)), .second, iv (Int32.ofNat (1 + own_len nu)), rv b, .unset, .unset, s6, iv (Int32.ofNat (pos - 1)), iv (0 : Int32), s9, iv (own_ng mu)] [(.ref d1a), (.int (Int32.ofNat (pos - 1))), (.ref b)]))
        refine Go.pre (fun _ k => XS.iload X2.here hx rfl (hb hby d_jdk_35_method_14_152) rfl k) ?_
        show Go p e below _ (T2.setTop (mkF m 154 #[.val (.long (own_nl nu)), .second, iv (Int32.ofNat (1 + own_len nu)), rv b, .unset, .unset, s6, iv (Int32.ofNat (pos - 1)), iv (0 : Int32), s9, iv (own_ng mu)] [(.int (own_ng mu)), (.ref d1a), (.int (Int32.ofNat (pos - 1))), (.ref b)]))
        refine Go.pre (fun _ k => XS.ineg X2.here hx rfl (hb hby d_jdk_35_method_14_154) rfl k) ?_
        show Go p e below _ (T2.setTop (mkF m 155 #[.val (.long (own_nl nu)), .second, iv (Int32.ofNat (1 + own_len nu)), rv b, .unset, .unset, s6, iv (Int32.ofNat (pos - 1)), iv (0 : Int32), s9, iv (own_ng mu)] [(.int ((-(own_ng mu)))), (.ref d1a), (.int (Int32.ofNat (pos - 1))), (.ref b)]))
        rw [own_ngneg]
        show Go p e below _ (T2.setTop (mkF m 155 #[.val (.long (own_nl nu)), .second, iv (Int32.ofNat (1 + own_len nu)), rv b, .unset, .unset, s6, iv (Int32.ofNat (pos - 1)), iv (0 : Int32), s9, iv (own_ng mu)] [(.int (Int32.ofNat mu)), (.ref d1a), (.int (Int32.ofNat (pos - 1))), (.ref b)]))
        obtain ⟨cl3, Ar3, R3⟩ := id G1
        obtain ⟨hin3, hat3⟩ := R3 mu (by omega)
        refine Go.pre (X2.baloadBytes hx (j := (Int32.ofNat mu)) (v := .int (own_d1 mu)) (by rw [e2]; exact (Ar3.ext OO.2).1) (State.isArrayOf_alike hZ.alike Ar3.2.1) Ar3.2.2 hin3 hat3 (g := (mkF m 155 #[.val (.long (own_nl nu)), .second, iv (Int32.ofNat (1 + own_len nu)), rv b, .unset, .unset, s6, iv (Int32.ofNat (pos - 1)), iv (0 : Int32), s9, iv (own_ng mu)] [(.int (Int32.ofNat mu)), (.ref d1a), (.int (Int32.ofNat (pos - 1))), (.ref b)])) rfl rfl (hb hby d_jdk_35_method_14_155)) ?_
        show Go p e below _ (T2.setTop (mkF m 156 #[.val (.long (own_nl nu)), .second, iv (Int32.ofNat (1 + own_len nu)), rv b, .unset, .unset, s6, iv (Int32.ofNat (pos - 1)), iv (0 : Int32), s9, iv (own_ng mu)] [(.int (own_d1 mu)), (.int (Int32.ofNat (pos - 1))), (.ref b)]))
        obtain ⟨T4, h4, X4, e4, W4, V4, st4⟩ := own_putB X2 hx hZ e2 VV (vs := vs) (by simp [hl]) (own_n1 _) (pos - 1) (by omega) (g := (mkF m 156 #[.val (.long (own_nl nu)), .second, iv (Int32.ofNat (1 + own_len nu)), rv b, .unset, .unset, s6, iv (Int32.ofNat (pos - 1)), iv (0 : Int32), s9, iv (own_ng mu)] [(.int (own_d1 mu)), (.int (Int32.ofNat (pos - 1))), (.ref b)])) rfl rfl (hb hby d_jdk_35_method_14_156)
        have N4 := Fr.snoc X4 N gb_
        refine Go.pre st4 ?_
        have KC4 : Keep h0 h4 [b] := KK.wr W4 (Or.inl (List.mem_of_getElem? (i := 0) rfl))
        show Go p e below _ (T4.setTop (mkF m 157 #[.val (.long (own_nl nu)), .second, iv (Int32.ofNat (1 + own_len nu)), rv b, .unset, .unset, s6, iv (Int32.ofNat (pos - 1)), iv (0 : Int32), s9, iv (own_ng mu)] []))
        refine Go.pre (fun _ k => XS.iload X4.here hx rfl (hb hby d_jdk_35_method_14_157) rfl k) ?_
        show Go p e below _ (T4.setTop (mkF m 159 #[.val (.long (own_nl nu)), .second, iv (Int32.ofNat (1 + own_len nu)), rv b, .unset, .unset, s6, iv (Int32.ofNat (pos - 1)), iv (0 : Int32), s9, iv (own_ng mu)] [(.int (own_ng mu))]))
        refine Go.pre (fun _ k => XS.bipush X4.here hx rfl (hb hby d_jdk_35_method_14_159) k) ?_
        show Go p e below _ (T4.setTop (mkF m 161 #[.val (.long (own_nl nu)), .second, iv (Int32.ofNat (1 + own_len nu)), rv b, .unset, .unset, s6, iv (Int32.ofNat (pos - 1)), iv (0 : Int32), s9, iv (own_ng mu)] [(.int (-9 : Int32)), (.int (own_ng mu))]))
        by_cases hc161_5 : ¬ mu < 10
        · skip
          refine Go.pre (fun _ k => XS.icmpNo X4.here hx rfl (hb hby d_jdk_35_method_14_161) rfl (tlt ((own_ng9 (k := mu) (by omega)).mpr hc161_5)).2.1 k) ?_
          show Go p e below _ (T4.setTop (mkF m 164 #[.val (.long (own_nl nu)), .second, iv (Int32.ofNat (1 + own_len nu)), rv b, .unset, .unset, s6, iv (Int32.ofNat (pos - 1)), iv (0 : Int32), s9, iv (own_ng mu)] []))
          refine Go.pre (fun _ k => XS.aloadN X4.here hx rfl (hb hby d_jdk_35_method_14_164) rfl rfl k) ?_
          show Go p e below _ (T4.setTop (mkF m 165 #[.val (.long (own_nl nu)), .second, iv (Int32.ofNat (1 + own_len nu)), rv b, .unset, .unset, s6, iv (Int32.ofNat (pos - 1)), iv (0 : Int32), s9, iv (own_ng mu)] [(.ref b)]))
          refine Go.pre (fun _ k => XS.iinc X4.here hx rfl (hb hby d_jdk_35_method_14_165) rfl (l' := #[.val (.long (own_nl nu)), .second, iv (Int32.ofNat (1 + own_len nu)), rv b, .unset, .unset, s6, iv ((Int32.ofNat (pos - 1)) + (-1 : Int32)), iv (0 : Int32), s9, iv (own_ng mu)]) rfl k) ?_
          show Go p e below _ (T4.setTop (mkF m 168 #[.val (.long (own_nl nu)), .second, iv (Int32.ofNat (1 + own_len nu)), rv b, .unset, .unset, s6, iv ((Int32.ofNat (pos - 1)) + (-1 : Int32)), iv (0 : Int32), s9, iv (own_ng mu)] [(.ref b)]))
          rw [own_dec (by omega)]
          show Go p e below _ (T4.setTop (mkF m 168 #[.val (.long (own_nl nu)), .second, iv (Int32.ofNat (1 + own_len nu)), rv b, .unset, .unset, s6, iv (Int32.ofNat (pos - 1 - 1)), iv (0 : Int32), s9, iv (own_ng mu)] [(.ref b)]))
          refine Go.pre (fun _ k => XS.iload X4.here hx rfl (hb hby d_jdk_35_method_14_168) rfl k) ?_
          show Go p e below _ (T4.setTop (mkF m 170 #[.val (.long (own_nl nu)), .second, iv (Int32.ofNat (1 + own_len nu)), rv b, .unset, .unset, s6, iv (Int32.ofNat (pos - 1 - 1)), iv (0 : Int32), s9, iv (own_ng mu)] [(.int (Int32.ofNat (pos - 1 - 1))), (.ref b)]))
          obtain ⟨T6, X6, e6, st6⟩ := getS2 X4 hx hZ hown (host := "") (Or.inl (hw _ (List.mem_of_getElem? (i := 211) rfl))) Via.refl e4 (SD10.ext (OO.wr W4 gb_).2) (g := (mkF m 170 #[.val (.long (own_nl nu)), .second, iv (Int32.ofNat (1 + own_len nu)), rv b, .unset, .unset, s6, iv (Int32.ofNat (pos - 1 - 1)), iv (0 : Int32), s9, iv (own_ng mu)] [(.int (Int32.ofNat (pos - 1 - 1))), (.ref b)])) rfl (hb hby d_jdk_35_method_14_170)
          refine Go.pre st6 ?_
          show Go p e below _ (T6.setTop (mkF m 173 #[.val (.long (own_nl nu)), .second, iv (Int32.ofNat (1 + own_len nu)), rv b, .unset, .unset, s6, iv (Int32.ofNat (pos - 1 - 1)), iv (0 : Int32), s9, iv (own_ng mu)] [(.ref d10a), (.int (Int32.ofNat (pos - 1 - 1))), (.ref b)]))
          refine Go.pre (fun _ k => XS.iload X6.here hx rfl (hb hby d_jdk_35_method_14_173) rfl k) ?_
          show Go p e below _ (T6.setTop (mkF m 175 #[.val (.long (own_nl nu)), .second, iv (Int32.ofNat (1 + own_len nu)), rv b, .unset, .unset, s6, iv (Int32.ofNat (pos - 1 - 1)), iv (0 : Int32), s9, iv (own_ng mu)] [(.int (own_ng mu)), (.ref d10a), (.int (Int32.ofNat (pos - 1 - 1))), (.ref b)]))
          refine Go.pre (fun _ k => XS.ineg X6.here hx rfl (hb hby d_jdk_35_method_14_175) rfl k) ?_
          show Go p e below _ (T6.setTop (mkF m 176 #[.val (.long (own_nl nu)), .second, iv (Int32.ofNat (1 + own_len nu)), rv b, .unset, .unset, s6, iv (Int32.ofNat (pos - 1 - 1)), iv (0 : Int32), s9, iv (own_ng mu)] [(.int ((-(own_ng mu)))), (.ref d10a), (.int (Int32.ofNat (pos - 1 - 1))), (.ref b)]))
          rw [own_ngneg]
          show Go p e below _ (T6.setTop (mkF m 176 #[.val (.long (own_nl nu)), .second, iv (Int32.ofNat (1 + own_len nu)), rv b, .unset, .unset, s6, iv (Int32.ofNat (pos - 1 - 1)), iv (0 : Int32), s9, iv (own_ng mu)] [(.int (Int32.ofNat mu)), (.ref d10a), (.int (Int32.ofNat (pos - 1 - 1))), (.ref b)]))
          obtain ⟨cl7, Ar7, R7⟩ := id G10
          obtain ⟨hin7, hat7⟩ := R7 mu (by omega)
          refine Go.pre (X6.baloadBytes hx (j := (Int32.ofNat mu)) (v := .int (own_d10 mu)) (by rw [e6]; exact (Ar7.ext (OO.wr W4 gb_).2).1) (State.isArrayOf_alike hZ.alike Ar7.2.1) Ar7.2.2 hin7 hat7 (g := (mkF m 176 #[.val (.long (own_nl nu)), .second, iv (Int32.ofNat (1 + own_len nu)), rv b, .unset, .unset, s6, iv (Int32.ofNat (pos - 1 - 1)), iv (0 : Int32), s9, iv (own_ng mu)] [(.int (Int32.ofNat mu)), (.ref d10a), (.int (Int32.ofNat (pos - 1 - 1))), (.ref b)])) rfl rfl (hb hby d_jdk_35_method_14_176)) ?_
          show Go p e below _ (T6.setTop (mkF m 177 #[.val (.long (own_nl nu)), .second, iv (Int32.ofNat (1 + own_len nu)), rv b, .unset, .unset, s6, iv (Int32.ofNat (pos - 1 - 1)), iv (0 : Int32), s9, iv (own_ng mu)] [(.int (own_d10 mu)), (.int (Int32.ofNat (pos - 1 - 1))), (.ref b)]))
          obtain ⟨T8, h8, X8, e8, W8, V8, st8⟩ := own_putB X6 hx hZ e6 V4 (vs := (vs.set (pos - 1) (own_d1 mu))) (by simp [hl]) (own_n10 (by omega)) (pos - 1 - 1) (by omega) (g := (mkF m 177 #[.val (.long (own_nl nu)), .second, iv (Int32.ofNat (1 + own_len nu)), rv b, .unset, .unset, s6, iv (Int32.ofNat (pos - 1 - 1)), iv (0 : Int32), s9, iv (own_ng mu)] [(.int (own_d10 mu)), (.int (Int32.ofNat (pos - 1 - 1))), (.ref b)])) rfl rfl (hb hby d_jdk_35_method_14_177)
          have N8 := Fr.snoc X8 N4 gb_
          refine Go.pre st8 ?_
          have KC8 : Keep h0 h8 [b] := KC4.wr W8 (Or.inl (List.mem_of_getElem? (i := 0) rfl))
          show Go p e below _ (T8.setTop (mkF m 178 #[.val (.long (own_nl nu)), .second, iv (Int32.ofNat (1 + own_len nu)), rv b, .unset, .unset, s6, iv (Int32.ofNat (pos - 1 - 1)), iv (0 : Int32), s9, iv (own_ng mu)] []))
          refine Go.pre (fun _ k => XS.iload X8.here hx rfl (hb hby d_jdk_35_method_14_178) rfl k) ?_
          show Go p e below _ (T8.setTop (mkF m 180 #[.val (.long (own_nl nu)), .second, iv (Int32.ofNat (1 + own_len nu)), rv b, .unset, .unset, s6, iv (Int32.ofNat (pos - 1 - 1)), iv (0 : Int32), s9, iv (own_ng mu)] [(.int (0 : Int32))]))
          refine Go.pre (fun _ k => XS.ifYes X8.here hx rfl (pc0 := 180) (pc' := 192) rfl (hb hby d_jdk_35_method_14_180) rfl ((if0 _ _).trans (teq (by decide : (0 : Int32) = (0 : Int32))).1) (by decide) (by decide) k) ?_
          show Go p e below _ (T8.setTop (mkF m 192 #[.val (.long (own_nl nu)), .second, iv (Int32.ofNat (1 + own_len nu)), rv b, .unset, .unset, s6, iv (Int32.ofNat (pos - 1 - 1)), iv (0 : Int32), s9, iv (own_ng mu)] []))
          refine Go.pre (fun _ k => XS.iload X8.here hx rfl (hb hby d_jdk_35_method_14_192) rfl k) ?_
          show Go p e below _ (T8.setTop (mkF m 194 #[.val (.long (own_nl nu)), .second, iv (Int32.ofNat (1 + own_len nu)), rv b, .unset, .unset, s6, iv (Int32.ofNat (pos - 1 - 1)), iv (0 : Int32), s9, iv (own_ng mu)] [(.int (Int32.ofNat (pos - 1 - 1)))]))
          obtain ⟨fs, hr, hrun, hended, hW, hsame⟩ := X8.leave (v := some (.int (Int32.ofNat (pos - 1 - 1)))) (fun h => by rw [Bd.returns] at h; cases h)
          refine Go.fin (o := .returned (some (.int (Int32.ofNat (pos - 1 - 1))))) (retI X8 hx Bd.returns (hb hby d_jdk_35_method_14_194) hr) ?_
          rw [hP]
          refine ⟨hrun, hended, _, _, rfl, ?_, ⟨_, rfl⟩, hW, hsame.mono (by decide) (by decide)⟩
          show Q_gc Z nu b kb d1a d10a h0 n0 _ T8.heap _
          rw [e8]
          have hq : ((vs.set (pos - 1) (own_d1 mu)).set (pos - 1 - 1) (own_d10 mu)) = RR := by rw [own_gc_s, if_pos hc90_1, if_neg hc161_5] at hR; exact hR
          have hV := V8
          rw [hq, hRR] at hV
          exact ⟨⟨_, rfl⟩, N8, KC8, hV⟩
        · skip
          refine Go.pre (fun _ k => XS.icmpYes X4.here hx rfl (pc0 := 161) (pc' := 178) rfl (hb hby d_jdk_35_method_14_161) rfl (flt (fun q => hc161_5 ((own_ng9 (k := mu) (by omega)).mp q))).2.1 (by decide) (by decide) k) ?_
          show Go p e below _ (T4.setTop (mkF m 178 #[.val (.long (own_nl nu)), .second, iv (Int32.ofNat (1 + own_len nu)), rv b, .unset, .unset, s6, iv (Int32.ofNat (pos - 1)), iv (0 : Int32), s9, iv (own_ng mu)] []))
          refine Go.pre (fun _ k => XS.iload X4.here hx rfl (hb hby d_jdk_35_method_14_178) rfl k) ?_
          show Go p e below _ (T4.setTop (mkF m 180 #[.val (.long (own_nl nu)), .second, iv (Int32.ofNat (1 + own_len nu)), rv b, .unset, .unset, s6, iv (Int32.ofNat (pos - 1)), iv (0 : Int32), s9, iv (own_ng mu)] [(.int (0 : Int32))]))
          refine Go.pre (fun _ k => XS.ifYes X4.here hx rfl (pc0 := 180) (pc' := 192) rfl (hb hby d_jdk_35_method_14_180) rfl ((if0 _ _).trans (teq (by decide : (0 : Int32) = (0 : Int32))).1) (by decide) (by decide) k) ?_
          show Go p e below _ (T4.setTop (mkF m 192 #[.val (.long (own_nl nu)), .second, iv (Int32.ofNat (1 + own_len nu)), rv b, .unset, .unset, s6, iv (Int32.ofNat (pos - 1)), iv (0 : Int32), s9, iv (own_ng mu)] []))
          refine Go.pre (fun _ k => XS.iload X4.here hx rfl (hb hby d_jdk_35_method_14_192) rfl k) ?_
          show Go p e below _ (T4.setTop (mkF m 194 #[.val (.long (own_nl nu)), .second, iv (Int32.ofNat (1 + own_len nu)), rv b, .unset, .unset, s6, iv (Int32.ofNat (pos - 1)), iv (0 : Int32), s9, iv (own_ng mu)] [(.int (Int32.ofNat (pos - 1)))]))
          obtain ⟨fs, hr, hrun, hended, hW, hsame⟩ := X4.leave (v := some (.int (Int32.ofNat (pos - 1)))) (fun h => by rw [Bd.returns] at h; cases h)
          refine Go.fin (o := .returned (some (.int (Int32.ofNat (pos - 1))))) (retI X4 hx Bd.returns (hb hby d_jdk_35_method_14_194) hr) ?_
          rw [hP]
          refine ⟨hrun, hended, _, _, rfl, ?_, ⟨_, rfl⟩, hW, hsame.mono (by decide) (by decide)⟩
          show Q_gc Z nu b kb d1a d10a h0 n0 _ T4.heap _
          rw [e4]
          have hq : (vs.set (pos - 1) (own_d1 mu)) = RR := by rw [own_gc_s, if_pos hc90_1, if_pos (Decidable.not_not.mp hc161_5)] at hR; exact hR
          have hV := V4
          rw [hq, hRR] at hV
          exact ⟨⟨_, rfl⟩, N4, KC4, hV⟩
      · skip
        refine Go.pre (fun _ k => XS.icmpNo X.here hx rfl (hb hby d_jdk_35_method_14_90) rfl (flt (fun q => hc90_1 ((own_ngl (a := 100) (b := mu) (by omega) (by omega)).mp q))).2.2.1 k) ?_
        show Go p e below _ (T.setTop (mkF m 93 #[.val (.long (own_nl nu)), .second, iv (Int32.ofNat (1 + own_len nu)), rv b, .unset, .unset, s6, iv (Int32.ofNat pos), iv (0 : Int32), s9, iv (own_ng mu)] []))
        refine Go.pre (fun _ k => XS.iload X.here hx rfl (hb hby d_jdk_35_method_14_93) rfl k) ?_
        show Go p e below _ (T.setTop (mkF m 95 #[.val (.long (own_nl nu)), .second, iv (Int32.ofNat (1 + own_len nu)), rv b, .unset, .unset, s6, iv (Int32.ofNat pos), iv (0 : Int32), s9, iv (own_ng mu)] [(.int (own_ng mu))]))
        refine Go.pre (fun _ k => XS.bipush X.here hx rfl (hb hby d_jdk_35_method_14_95) k) ?_
        show Go p e below _ (T.setTop (mkF m 97 #[.val (.long (own_nl nu)), .second, iv (Int32.ofNat (1 + own_len nu)), rv b, .unset, .unset, s6, iv (Int32.ofNat pos), iv (0 : Int32), s9, iv (own_ng mu)] [(.int (100 : Int32)), (.int (own_ng mu))]))
        refine Go.pre (fun _ k => XS.idiv X.here hx rfl (hb hby d_jdk_35_method_14_97) rfl (by decide) k) ?_
        show Go p e below _ (T.setTop (mkF m 98 #[.val (.long (own_nl nu)), .second, iv (Int32.ofNat (1 + own_len nu)), rv b, .unset, .unset, s6, iv (Int32.ofNat pos), iv (0 : Int32), s9, iv (own_ng mu)] [(.int ((own_ng mu) / (100 : Int32)))]))
        rw [own_ngdiv (by omega)]
        show Go p e below _ (T.setTop (mkF m 98 #[.val (.long (own_nl nu)), .second, iv (Int32.ofNat (1 + own_len nu)), rv b, .unset, .unset, s6, iv (Int32.ofNat pos), iv (0 : Int32), s9, iv (own_ng mu)] [(.int (own_ng (mu / 100)))]))
        refine Go.pre (fun _ k => XS.istoreS X.here hx rfl (hb hby d_jdk_35_method_14_98) rfl (o := s9) rfl hs9 k) ?_
        show Go p e below _ (T.setTop (mkF m 100 #[.val (.long (own_nl nu)), .second, iv (Int32.ofNat (1 + own_len nu)), rv b, .unset, .unset, s6, iv (Int32.ofNat pos), iv (0 : Int32), iv (own_ng (mu / 100)), iv (own_ng mu)] []))
        refine Go.pre (fun _ k => XS.iload X.here hx rfl (hb hby d_jdk_35_method_14_100) rfl k) ?_
        show Go p e below _ (T.setTop (mkF m 102 #[.val (.long (own_nl nu)), .second, iv (Int32.ofNat (1 + own_len nu)), rv b, .unset, .unset, s6, iv (Int32.ofNat pos), iv (0 : Int32), iv (own_ng (mu / 100)), iv (own_ng mu)] [(.int (own_ng (mu / 100)))]))
        refine Go.pre (fun _ k => XS.bipush X.here hx rfl (hb hby d_jdk_35_method_14_102) k) ?_
        show Go p e below _ (T.setTop (mkF m 104 #[.val (.long (own_nl nu)), .second, iv (Int32.ofNat (1 + own_len nu)), rv b, .unset, .unset, s6, iv (Int32.ofNat pos), iv (0 : Int32), iv (own_ng (mu / 100)), iv (own_ng mu)] [(.int (100 : Int32)), (.int (own_ng (mu / 100)))]))
        refine Go.pre (fun _ k => XS.imul X.here hx rfl (hb hby d_jdk_35_method_14_104) rfl k) ?_
        show Go p e below _ (T.setTop (mkF m 105 #[.val (.long (own_nl nu)), .second, iv (Int32.ofNat (1 + own_len nu)), rv b, .unset, .unset, s6, iv (Int32.ofNat pos), iv (0 : Int32), iv (own_ng (mu / 100)), iv (own_ng mu)] [(.int ((own_ng (mu / 100)) * (100 : Int32)))]))
        refine Go.pre (fun _ k => XS.iload X.here hx rfl (hb hby d_jdk_35_method_14_105) rfl k) ?_
        show Go p e below _ (T.setTop (mkF m 107 #[.val (.long (own_nl nu)), .second, iv (Int32.ofNat (1 + own_len nu)), rv b, .unset, .unset, s6, iv (Int32.ofNat pos), iv (0 : Int32), iv (own_ng (mu / 100)), iv (own_ng mu)] [(.int (own_ng mu)), (.int ((own_ng (mu / 100)) * (100 : Int32)))]))
        refine Go.pre (fun _ k => XS.isub X.here hx rfl (hb hby d_jdk_35_method_14_107) rfl k) ?_
        show Go p e below _ (T.setTop (mkF m 108 #[.val (.long (own_nl nu)), .second, iv (Int32.ofNat (1 + own_len nu)), rv b, .unset, .unset, s6, iv (Int32.ofNat pos), iv (0 : Int32), iv (own_ng (mu / 100)), iv (own_ng mu)] [(.int (((own_ng (mu / 100)) * (100 : Int32)) - (own_ng mu)))]))
        rw [own_ngrem (by omega)]
        show Go p e below _ (T.setTop (mkF m 108 #[.val (.long (own_nl nu)), .second, iv (Int32.ofNat (1 + own_len nu)), rv b, .unset, .unset, s6, iv (Int32.ofNat pos), iv (0 : Int32), iv (own_ng (mu / 100)), iv (own_ng mu)] [(.int (Int32.ofNat (mu % 100)))]))
        refine Go.pre (fun _ k => XS.istoreS X.here hx rfl (hb hby d_jdk_35_method_14_108) rfl (o := s6) rfl hs6 k) ?_
        show Go p e below _ (T.setTop (mkF m 110 #[.val (.long (own_nl nu)), .second, iv (Int32.ofNat (1 + own_len nu)), rv b, .unset, .unset, iv (Int32.ofNat (mu % 100)), iv (Int32.ofNat pos), iv (0 : Int32), iv (own_ng (mu / 100)), iv (own_ng mu)] []))
        refine Go.pre (fun _ k => XS.iload X.here hx rfl (hb hby d_jdk_35_method_14_110) rfl k) ?_
        show Go p e below _ (T.setTop (mkF m 112 #[.val (.long (own_nl nu)), .second, iv (Int32.ofNat (1 + own_len nu)), rv b, .unset, .unset, iv (Int32.ofNat (mu % 100)), iv (Int32.ofNat pos), iv (0 : Int32), iv (own_ng (mu / 100)), iv (own_ng mu)] [(.int (own_ng (mu / 100)))]))
        refine Go.pre (fun _ k => XS.istore X.here hx rfl (hb hby d_jdk_35_method_14_112) rfl (l' := #[.val (.long (own_nl nu)), .second, iv (Int32.ofNat (1 + own_len nu)), rv b, .unset, .unset, iv (Int32.ofNat (mu % 100)), iv (Int32.ofNat pos), iv (0 : Int32), iv (own_ng (mu / 100)), iv (own_ng (mu / 100))]) rfl k) ?_
        show Go p e below _ (T.setTop (mkF m 114 #[.val (.long (own_nl nu)), .second, iv (Int32.ofNat (1 + own_len nu)), rv b, .unset, .unset, iv (Int32.ofNat (mu % 100)), iv (Int32.ofNat pos), iv (0 : Int32), iv (own_ng (mu / 100)), iv (own_ng (mu / 100))] []))
        refine Go.pre (fun _ k => XS.aloadN X.here hx rfl (hb hby d_jdk_35_method_14_114) rfl rfl k) ?_
        show Go p e below _ (T.setTop (mkF m 115 #[.val (.long (own_nl nu)), .second, iv (Int32.ofNat (1 + own_len nu)), rv b, .unset, .unset, iv (Int32.ofNat (mu % 100)), iv (Int32.ofNat pos), iv (0 : Int32), iv (own_ng (mu / 100)), iv (own_ng (mu / 100))] [(.ref b)]))
        refine Go.pre (fun _ k => XS.iinc X.here hx rfl (hb hby d_jdk_35_method_14_115) rfl (l' := #[.val (.long (own_nl nu)), .second, iv (Int32.ofNat (1 + own_len nu)), rv b, .unset, .unset, iv (Int32.ofNat (mu % 100)), iv ((Int32.ofNat pos) + (-1 : Int32)), iv (0 : Int32), iv (own_ng (mu / 100)), iv (own_ng (mu / 100))]) rfl k) ?_
        show Go p e below _ (T.setTop (mkF m 118 #[.val (.long (own_nl nu)), .second, iv (Int32.ofNat (1 + own_len nu)), rv b, .unset, .unset, iv (Int32.ofNat (mu % 100)), iv ((Int32.ofNat pos) + (-1 : Int32)), iv (0 : Int32), iv (own_ng (mu / 100)), iv (own_ng (mu / 100))] [(.ref b)]))
        rw [own_dec (by omega)]
        show Go p e below _ (T.setTop (mkF m 118 #[.val (.long (own_nl nu)), .second, iv (Int32.ofNat (1 + own_len nu)), rv b, .unset, .unset, iv (Int32.ofNat (mu % 100)), iv (Int32.ofNat (pos - 1)), iv (0 : Int32), iv (own_ng (mu / 100)), iv (own_ng (mu / 100))] [(.ref b)]))
        refine Go.pre (fun _ k => XS.iload X.here hx rfl (hb hby d_jdk_35_method_14_118) rfl k) ?_
        show Go p e below _ (T.setTop (mkF m 120 #[.val (.long (own_nl nu)), .second, iv (Int32.ofNat (1 + own_len nu)), rv b, .unset, .unset, iv (Int32.ofNat (mu % 100)), iv (Int32.ofNat (pos - 1)), iv (0 : Int32), iv (own_ng (mu / 100)), iv (own_ng (mu / 100))] [(.int (Int32.ofNat (pos - 1))), (.ref b)]))
        obtain ⟨T9, X9, e9, st9⟩ := getS2 X hx hZ hown (host := "") (Or.inl (hw _ (List.mem_of_getElem? (i := 135) rfl))) Via.refl eT (SD1.ext OO.2) (g := (mkF m 120 #[.val (.long (own_nl nu)), .second, iv (Int32.ofNat (1 + own_len nu)), rv b, .unset, .unset, iv (Int32.ofNat (mu % 100)), iv (Int32.ofNat (pos - 1)), iv (0 : Int32), iv (own_ng (mu / 100)), iv (own_ng (mu / 100))] [(.int (Int32.ofNat (pos - 1))), (.ref b)])) rfl (hb hby d_jdk_35_method_14_120)
        refine Go.pre st9 ?_
        show Go p e below _ (T9.setTop (mkF m 123 #[.val (.long (own_nl nu)), .second, iv (Int32.ofNat (1 + own_len nu)), rv b, .unset, .unset, iv (Int32.ofNat (mu % 100)), iv (Int32.ofNat (pos - 1)), iv (0 : Int32), iv (own_ng (mu / 100)), iv (own_ng (mu / 100))] [(.ref d1a), (.int (Int32.ofNat (pos - 1))), (.ref b)]))
        refine Go.pre (fun _ k => XS.iload X9.here hx rfl (hb hby d_jdk_35_method_14_123) rfl k) ?_
        show Go p e below _ (T9.setTop (mkF m 125 #[.val (.long (own_nl nu)), .second, iv (Int32.ofNat (1 + own_len nu)), rv b, .unset, .unset, iv (Int32.ofNat (mu % 100)), iv (Int32.ofNat (pos - 1)), iv (0 : Int32), iv (own_ng (mu / 100)), iv (own_ng (mu / 100))] [(.int (Int32.ofNat (mu % 100))), (.ref d1a), (.int (Int32.ofNat (pos - 1))), (.ref b)]))
        obtain ⟨cl10, Ar10, R10⟩ := id G1
        obtain ⟨hin10, hat10⟩ := R10 (mu % 100) (by omega)
        refine Go.pre (X9.baloadBytes hx (j := (Int32.ofNat (mu % 100))) (v := .int (own_d1 (mu % 100))) (by rw [e9]; exact (Ar10.ext OO.2).1) (State.isArrayOf_alike hZ.alike Ar10.2.1) Ar10.2.2 hin10 hat10 (g := (mkF m 125 #[.val (.long (own_nl nu)), .second, iv (Int32.ofNat (1 + own_len nu)), rv b, .unset, .unset, iv (Int32.ofNat (mu % 100)), iv (Int32.ofNat (pos - 1)), iv (0 : Int32), iv (own_ng (mu / 100)), iv (own_ng (mu / 100))] [(.int (Int32.ofNat (mu % 100))), (.ref d1a), (.int (Int32.ofNat (pos - 1))), (.ref b)])) rfl rfl (hb hby d_jdk_35_method_14_125)) ?_
        show Go p e below _ (T9.setTop (mkF m 126 #[.val (.long (own_nl nu)), .second, iv (Int32.ofNat (1 + own_len nu)), rv b, .unset, .unset, iv (Int32.ofNat (mu % 100)), iv (Int32.ofNat (pos - 1)), iv (0 : Int32), iv (own_ng (mu / 100)), iv (own_ng (mu / 100))] [(.int (own_d1 (mu % 100))), (.int (Int32.ofNat (pos - 1))), (.ref b)]))
        obtain ⟨T11, h11, X11, e11, W11, V11, st11⟩ := own_putB X9 hx hZ e9 VV (vs := vs) (by simp [hl]) (own_n1 _) (pos - 1) (by omega) (g := (mkF m 126 #[.val (.long (own_nl nu)), .second, iv (Int32.ofNat (1 + own_len nu)), rv b, .unset, .unset, iv (Int32.ofNat (mu % 100)), iv (Int32.ofNat (pos - 1)), iv (0 : Int32), iv (own_ng (mu / 100)), iv (own_ng (mu / 100))] [(.int (own_d1 (mu % 100))), (.int (Int32.ofNat (pos - 1))), (.ref b)])) rfl rfl (hb hby d_jdk_35_method_14_126)
        have N11 := Fr.snoc X11 N gb_
        refine Go.pre st11 ?_
        have KC11 : Keep h0 h11 [b] := KK.wr W11 (Or.inl (List.mem_of_getElem? (i := 0) rfl))
        show Go p e below _ (T11.setTop (mkF m 127 #[.val (.long (own_nl nu)), .second, iv (Int32.ofNat (1 + own_len nu)), rv b, .unset, .unset, iv (Int32.ofNat (mu % 100)), iv (Int32.ofNat (pos - 1)), iv (0 : Int32), iv (own_ng (mu / 100)), iv (own_ng (mu / 100))] []))
        refine Go.pre (fun _ k => XS.aloadN X11.here hx rfl (hb hby d_jdk_35_method_14_127) rfl rfl k) ?_
        show Go p e below _ (T11.setTop (mkF m 128 #[.val (.long (own_nl nu)), .second, iv (Int32.ofNat (1 + own_len nu)), rv b, .unset, .unset, iv (Int32.ofNat (mu % 100)), iv (Int32.ofNat (pos - 1)), iv (0 : Int32), iv (own_ng (mu / 100)), iv (own_ng (mu / 100))] [(.ref b)]))
        refine Go.pre (fun _ k => XS.iinc X11.here hx rfl (hb hby d_jdk_35_method_14_128) rfl (l' := #[.val (.long (own_nl nu)), .second, iv (Int32.ofNat (1 + own_len nu)), rv b, .unset, .unset, iv (Int32.ofNat (mu % 100)), iv ((Int32.ofNat (pos - 1)) + (-1 : Int32)), iv (0 : Int32), iv (own_ng (mu / 100)), iv (own_ng (mu / 100))]) rfl k) ?_
        show Go p e below _ (T11.setTop (mkF m 131 #[.val (.long (own_nl nu)), .second, iv (Int32.ofNat (1 + own_len nu)), rv b, .unset, .unset, iv (Int32.ofNat (mu % 100)), iv ((Int32.ofNat (pos - 1)) + (-1 : Int32)), iv (0 : Int32), iv (own_ng (mu / 100)), iv (own_ng (mu / 100))] [(.ref b)]))
        rw [own_dec (by omega)]
        show Go p e below _ (T11.setTop (mkF m 131 #[.val (.long (own_nl nu)), .second, iv (Int32.ofNat (1 + own_len nu)), rv b, .unset, .unset, iv (Int32.ofNat (mu % 100)), iv (Int32.ofNat (pos - 1 - 1)), iv (0 : Int32), iv (own_ng (mu / 100)), iv (own_ng (mu / 100))] [(.ref b)]))
        refine Go.pre (fun _ k => XS.iload X11.here hx rfl (hb hby d_jdk_35_method_14_131) rfl k) ?_
        show Go p e below _ (T11.setTop (mkF m 133 #[.val (.long (own_nl nu)), .second, iv (Int32.ofNat (1 + own_len nu)), rv b, .unset, .unset, iv (Int32.ofNat (mu % 100)), iv (Int32.ofNat (pos - 1 - 1)), iv (0 : Int32), iv (own_ng (mu / 100)), iv (own_ng (mu / 100))] [(.int (Int32.ofNat (pos - 1 - 1))), (.ref b)]))
        obtain ⟨T12, X12, e12, st12⟩ := getS2 X11 hx hZ hown (host := "") (Or.inl (hw _ (List.mem_of_getElem? (i := 211) rfl))) Via.refl e11 (SD10.ext (OO.wr W11 gb_).2) (g := (mkF m 133 #[.val (.long (own_nl nu)), .second, iv (Int32.ofNat (1 + own_len nu)), rv b, .unset, .unset, iv (Int32.ofNat (mu % 100)), iv (Int32.ofNat (pos - 1 - 1)), iv (0 : Int32), iv (own_ng (mu / 100)), iv (own_ng (mu / 100))] [(.int (Int32.ofNat (pos - 1 - 1))), (.ref b)])) rfl (hb hby d_jdk_35_method_14_133)
        refine Go.pre st12 ?_
        show Go p e below _ (T12.setTop (mkF m 136 #[.val (.long (own_nl nu)), .second, iv (Int32.ofNat (1 + own_len nu)), rv b, .unset, .unset, iv (Int32.ofNat (mu % 100)), iv (Int32.ofNat (pos - 1 - 1)), iv (0 : Int32), iv (own_ng (mu / 100)), iv (own_ng (mu / 100))] [(.ref d10a), (.int (Int32.ofNat (pos - 1 - 1))), (.ref b)]))
        refine Go.pre (fun _ k => XS.iload X12.here hx rfl (hb hby d_jdk_35_method_14_136) rfl k) ?_
        show Go p e below _ (T12.setTop (mkF m 138 #[.val (.long (own_nl nu)), .second, iv (Int32.ofNat (1 + own_len nu)), rv b, .unset, .unset, iv (Int32.ofNat (mu % 100)), iv (Int32.ofNat (pos - 1 - 1)), iv (0 : Int32), iv (own_ng (mu / 100)), iv (own_ng (mu / 100))] [(.int (Int32.ofNat (mu % 100))), (.ref d10a), (.int (Int32.ofNat (pos - 1 - 1))), (.ref b)]))
        obtain ⟨cl13, Ar13, R13⟩ := id G10
        obtain ⟨hin13, hat13⟩ := R13 (mu % 100) (by omega)
        refine Go.pre (X12.baloadBytes hx (j := (Int32.ofNat (mu % 100))) (v := .int (own_d10 (mu % 100))) (by rw [e12]; exact (Ar13.ext (OO.wr W11 gb_).2).1) (State.isArrayOf_alike hZ.alike Ar13.2.1) Ar13.2.2 hin13 hat13 (g := (mkF m 138 #[.val (.long (own_nl nu)), .second, iv (Int32.ofNat (1 + own_len nu)), rv b, .unset, .unset, iv (Int32.ofNat (mu % 100)), iv (Int32.ofNat (pos - 1 - 1)), iv (0 : Int32), iv (own_ng (mu / 100)), iv (own_ng (mu / 100))] [(.int (Int32.ofNat (mu % 100))), (.ref d10a), (.int (Int32.ofNat (pos - 1 - 1))), (.ref b)])) rfl rfl (hb hby d_jdk_35_method_14_138)) ?_
        show Go p e below _ (T12.setTop (mkF m 139 #[.val (.long (own_nl nu)), .second, iv (Int32.ofNat (1 + own_len nu)), rv b, .unset, .unset, iv (Int32.ofNat (mu % 100)), iv (Int32.ofNat (pos - 1 - 1)), iv (0 : Int32), iv (own_ng (mu / 100)), iv (own_ng (mu / 100))] [(.int (own_d10 (mu % 100))), (.int (Int32.ofNat (pos - 1 - 1))), (.ref b)]))
        obtain ⟨T14, h14, X14, e14, W14, V14, st14⟩ := own_putB X12 hx hZ e12 V11 (vs := (vs.set (pos - 1) (own_d1 (mu % 100)))) (by simp [hl]) (own_n10 (by omega)) (pos - 1 - 1) (by omega) (g := (mkF m 139 #[.val (.long (own_nl nu)), .second, iv (Int32.ofNat (1 + own_len nu)), rv b, .unset, .unset, iv (Int32.ofNat (mu % 100)), iv (Int32.ofNat (pos - 1 - 1)), iv (0 : Int32), iv (own_ng (mu / 100)), iv (own_ng (mu / 100))] [(.int (own_d10 (mu % 100))), (.int (Int32.ofNat (pos - 1 - 1))), (.ref b)])) rfl rfl (hb hby d_jdk_35_method_14_139)
        have N14 := Fr.snoc X14 N11 gb_
        refine Go.pre st14 ?_
        have KC14 : Keep h0 h14 [b] := KC11.wr W14 (Or.inl (List.mem_of_getElem? (i := 0) rfl))
        show Go p e below _ (T14.setTop (mkF m 140 #[.val (.long (own_nl nu)), .second, iv (Int32.ofNat (1 + own_len nu)), rv b, .unset, .unset, iv (Int32.ofNat (mu % 100)), iv (Int32.ofNat (pos - 1 - 1)), iv (0 : Int32), iv (own_ng (mu / 100)), iv (own_ng (mu / 100))] []))
        refine Go.pre (fun _ k => XS.goto X14.here hx rfl (pc0 := 140) (pc' := 86) rfl (hb hby d_jdk_35_method_14_140) (by decide) (by decide) k) ?_
        have hld := own_len_div (k := mu) (by omega) (by omega)
        exact ih ((mu / 100)) (pos - 2) ((vs.set (pos - 1) (own_d1 (mu % 100))).set (pos - 1 - 1) (own_d10 (mu % 100))) _ _ (One.val rfl) (One.val rfl) (by omega) (by omega) (by rw [Nat.pow_succ] at hf; omega) (own_f1 hf hc90_1) (by simp [hl]) (by rw [own_gc_s, if_neg hc90_1] at hR; exact hR) _ _ _ X14 N14 e14 KC14 V14 ((OO.wr W11 gb_).wr W14 gb_)
  show Go p e below _ (s₁.setTop (mkF m 0 #[.val (.long (Int64.ofNat nu)), .second, iv (Int32.ofNat (1 + own_len nu)), rv b, .unset, .unset, .unset, .unset, .unset, .unset, .unset] []))
  refine Go.pre (fun _ k => XS.iloadN X0.here hx rfl (hb hby d_jdk_35_method_14_0) rfl k) ?_
  show Go p e below _ (s₁.setTop (mkF m 1 #[.val (.long (Int64.ofNat nu)), .second, iv (Int32.ofNat (1 + own_len nu)), rv b, .unset, .unset, .unset, .unset, .unset, .unset, .unset] [(.int (Int32.ofNat (1 + own_len nu)))]))
  refine Go.pre (fun _ k => XS.istore X0.here hx rfl (hb hby d_jdk_35_method_14_1) rfl (l' := #[.val (.long (Int64.ofNat nu)), .second, iv (Int32.ofNat (1 + own_len nu)), rv b, .unset, .unset, .unset, iv (Int32.ofNat (1 + own_len nu)), .unset, .unset, .unset]) rfl k) ?_
  show Go p e below _ (s₁.setTop (mkF m 3 #[.val (.long (Int64.ofNat nu)), .second, iv (Int32.ofNat (1 + own_len nu)), rv b, .unset, .unset, .unset, iv (Int32.ofNat (1 + own_len nu)), .unset, .unset, .unset] []))
  refine Go.pre (fun _ k => XS.lloadN X0.here hx rfl (hb hby d_jdk_35_method_14_3) rfl k) ?_
  show Go p e below _ (s₁.setTop (mkF m 4 #[.val (.long (Int64.ofNat nu)), .second, iv (Int32.ofNat (1 + own_len nu)), rv b, .unset, .unset, .unset, iv (Int32.ofNat (1 + own_len nu)), .unset, .unset, .unset] [(.long (Int64.ofNat nu))]))
  refine Go.pre (fun _ k => XS.lconst X0.here hx rfl (hb hby d_jdk_35_method_14_4) k) ?_
  show Go p e below _ (s₁.setTop (mkF m 5 #[.val (.long (Int64.ofNat nu)), .second, iv (Int32.ofNat (1 + own_len nu)), rv b, .unset, .unset, .unset, iv (Int32.ofNat (1 + own_len nu)), .unset, .unset, .unset] [(.long (0 : Int64)), (.long (Int64.ofNat nu))]))
  refine Go.pre (fun _ k => XS.lcmp X0.here hx rfl (hb hby d_jdk_35_method_14_5) rfl k) ?_
  show Go p e below _ (s₁.setTop (mkF m 6 #[.val (.long (Int64.ofNat nu)), .second, iv (Int32.ofNat (1 + own_len nu)), rv b, .unset, .unset, .unset, iv (Int32.ofNat (1 + own_len nu)), .unset, .unset, .unset] [(.int (lcmpW (Int64.ofNat nu) (0 : Int64)))]))
  refine Go.pre (fun _ k => XS.ifYes X0.here hx rfl (pc0 := 6) (pc' := 13) rfl (hb hby d_jdk_35_method_14_6) rfl ((if0 _ _).trans (flt (own_ltF (own_nlneg (by omega)))).2.1) (by decide) (by decide) k) ?_
  show Go p e below _ (s₁.setTop (mkF m 13 #[.val (.long (Int64.ofNat nu)), .second, iv (Int32.ofNat (1 + own_len nu)), rv b, .unset, .unset, .unset, iv (Int32.ofNat (1 + own_len nu)), .unset, .unset, .unset] []))
  refine Go.pre (fun _ k => XS.iconst X0.here hx rfl (hb hby d_jdk_35_method_14_13) k) ?_
  show Go p e below _ (s₁.setTop (mkF m 14 #[.val (.long (Int64.ofNat nu)), .second, iv (Int32.ofNat (1 + own_len nu)), rv b, .unset, .unset, .unset, iv (Int32.ofNat (1 + own_len nu)), .unset, .unset, .unset] [(.int (0 : Int32))]))
  refine Go.pre (fun _ k => XS.istore X0.here hx rfl (hb hby d_jdk_35_method_14_14) rfl (l' := #[.val (.long (Int64.ofNat nu)), .second, iv (Int32.ofNat (1 + own_len nu)), rv b, .unset, .unset, .unset, iv (Int32.ofNat (1 + own_len nu)), iv (0 : Int32), .unset, .unset]) rfl k) ?_
  show Go p e below _ (s₁.setTop (mkF m 16 #[.val (.long (Int64.ofNat nu)), .second, iv (Int32.ofNat (1 + own_len nu)), rv b, .unset, .unset, .unset, iv (Int32.ofNat (1 + own_len nu)), iv (0 : Int32), .unset, .unset] []))
  refine Go.pre (fun _ k => XS.iload X0.here hx rfl (hb hby d_jdk_35_method_14_16) rfl k) ?_
  show Go p e below _ (s₁.setTop (mkF m 18 #[.val (.long (Int64.ofNat nu)), .second, iv (Int32.ofNat (1 + own_len nu)), rv b, .unset, .unset, .unset, iv (Int32.ofNat (1 + own_len nu)), iv (0 : Int32), .unset, .unset] [(.int (0 : Int32))]))
  refine Go.pre (fun _ k => XS.ifNo X0.here hx rfl (hb hby d_jdk_35_method_14_18) rfl ((if0 _ _).trans (teq (by decide : (0 : Int32) = (0 : Int32))).2) k) ?_
  show Go p e below _ (s₁.setTop (mkF m 21 #[.val (.long (Int64.ofNat nu)), .second, iv (Int32.ofNat (1 + own_len nu)), rv b, .unset, .unset, .unset, iv (Int32.ofNat (1 + own_len nu)), iv (0 : Int32), .unset, .unset] []))
  refine Go.pre (fun _ k => XS.lloadN X0.here hx rfl (hb hby d_jdk_35_method_14_21) rfl k) ?_
  show Go p e below _ (s₁.setTop (mkF m 22 #[.val (.long (Int64.ofNat nu)), .second, iv (Int32.ofNat (1 + own_len nu)), rv b, .unset, .unset, .unset, iv (Int32.ofNat (1 + own_len nu)), iv (0 : Int32), .unset, .unset] [(.long (Int64.ofNat nu))]))
  refine Go.pre (fun _ k => XS.lneg X0.here hx rfl (hb hby d_jdk_35_method_14_22) rfl k) ?_
  show Go p e below _ (s₁.setTop (mkF m 23 #[.val (.long (Int64.ofNat nu)), .second, iv (Int32.ofNat (1 + own_len nu)), rv b, .unset, .unset, .unset, iv (Int32.ofNat (1 + own_len nu)), iv (0 : Int32), .unset, .unset] [(.long (own_nl nu))]))
  refine Go.pre (fun _ k => XS.lstoreN X0.here hx rfl (hb hby d_jdk_35_method_14_23) rfl (l' := #[.val (.long (own_nl nu)), .second, iv (Int32.ofNat (1 + own_len nu)), rv b, .unset, .unset, .unset, iv (Int32.ofNat (1 + own_len nu)), iv (0 : Int32), .unset, .unset]) rfl k) ?_
  show Go p e below _ (s₁.setTop (mkF m 24 #[.val (.long (own_nl nu)), .second, iv (Int32.ofNat (1 + own_len nu)), rv b, .unset, .unset, .unset, iv (Int32.ofNat (1 + own_len nu)), iv (0 : Int32), .unset, .unset] []))
  refine Go.pre (fun _ k => XS.lloadN X0.here hx rfl (hb hby d_jdk_35_method_14_24) rfl k) ?_
  show Go p e below _ (s₁.setTop (mkF m 25 #[.val (.long (own_nl nu)), .second, iv (Int32.ofNat (1 + own_len nu)), rv b, .unset, .unset, .unset, iv (Int32.ofNat (1 + own_len nu)), iv (0 : Int32), .unset, .unset] [(.long (own_nl nu))]))
  refine Go.pre (X0.ldc2Long hx hown (mvT hZ (hw _ (List.mem_of_getElem? (i := 134) rfl))) (g := (mkF m 25 #[.val (.long (own_nl nu)), .second, iv (Int32.ofNat (1 + own_len nu)), rv b, .unset, .unset, .unset, iv (Int32.ofNat (1 + own_len nu)), iv (0 : Int32), .unset, .unset] [(.long (own_nl nu))])) rfl (hb hby d_jdk_35_method_14_25)) ?_
  show Go p e below _ (s₁.setTop (mkF m 28 #[.val (.long (own_nl nu)), .second, iv (Int32.ofNat (1 + own_len nu)), rv b, .unset, .unset, .unset, iv (Int32.ofNat (1 + own_len nu)), iv (0 : Int32), .unset, .unset] [(.long (-2147483648 : Int64)), (.long (own_nl nu))]))
  refine Go.pre (fun _ k => XS.lcmp X0.here hx rfl (hb hby d_jdk_35_method_14_28) rfl k) ?_
  show Go p e below _ (s₁.setTop (mkF m 29 #[.val (.long (own_nl nu)), .second, iv (Int32.ofNat (1 + own_len nu)), rv b, .unset, .unset, .unset, iv (Int32.ofNat (1 + own_len nu)), iv (0 : Int32), .unset, .unset] [(.int (lcmpW (own_nl nu) (-2147483648 : Int64)))]))
  refine Go.pre (fun _ k => XS.ifYes X0.here hx rfl (pc0 := 29) (pc' := 82) rfl (hb hby d_jdk_35_method_14_29) rfl ((if0 _ _).trans (tlt (own_gtT (own_nlmin (by omega)))).2.2.1) (by decide) (by decide) k) ?_
  show Go p e below _ (s₁.setTop (mkF m 82 #[.val (.long (own_nl nu)), .second, iv (Int32.ofNat (1 + own_len nu)), rv b, .unset, .unset, .unset, iv (Int32.ofNat (1 + own_len nu)), iv (0 : Int32), .unset, .unset] []))
  refine Go.pre (fun _ k => XS.lloadN X0.here hx rfl (hb hby d_jdk_35_method_14_82) rfl k) ?_
  show Go p e below _ (s₁.setTop (mkF m 83 #[.val (.long (own_nl nu)), .second, iv (Int32.ofNat (1 + own_len nu)), rv b, .unset, .unset, .unset, iv (Int32.ofNat (1 + own_len nu)), iv (0 : Int32), .unset, .unset] [(.long (own_nl nu))]))
  refine Go.pre (fun _ k => XS.l2i X0.here hx rfl (hb hby d_jdk_35_method_14_83) rfl k) ?_
  show Go p e below _ (s₁.setTop (mkF m 84 #[.val (.long (own_nl nu)), .second, iv (Int32.ofNat (1 + own_len nu)), rv b, .unset, .unset, .unset, iv (Int32.ofNat (1 + own_len nu)), iv (0 : Int32), .unset, .unset] [(.int ((own_nl nu).toInt32))]))
  rw [own_l2i (by omega)]
  show Go p e below _ (s₁.setTop (mkF m 84 #[.val (.long (own_nl nu)), .second, iv (Int32.ofNat (1 + own_len nu)), rv b, .unset, .unset, .unset, iv (Int32.ofNat (1 + own_len nu)), iv (0 : Int32), .unset, .unset] [(.int (own_ng nu))]))
  refine Go.pre (fun _ k => XS.istore X0.here hx rfl (hb hby d_jdk_35_method_14_84) rfl (l' := #[.val (.long (own_nl nu)), .second, iv (Int32.ofNat (1 + own_len nu)), rv b, .unset, .unset, .unset, iv (Int32.ofNat (1 + own_len nu)), iv (0 : Int32), .unset, iv (own_ng nu)]) rfl k) ?_
  exact J86 5 nu (1 + own_len nu) own_v0 _ _ One.u One.u hn rfl (by show _ < 100 ^ 5; omega) (by decide) rfl hRR.symm _ _ _ X0 N0 e0 (Keep.refl h0 [b]) tA O

theorem ef_apJ (m : MethodId) (x0 : Addr) (x1 : Int64) : entryFrame m #[(.ref x0), (.long x1)] 5 = mkF m 0 #[rv x0, .val (.long x1), .second, .unset, .unset] [] := by first | (simp [entryFrame, mkF, argsToLocals, Value.category]; done) | rfl
theorem pn_apJ : plainName "java/lang/AbstractStringBuilder" = true := by first | (simp [plainName, overriddenIn]; done) | decide +kernel
def Q_apJ (Z : State) (a : Addr) (b : Addr) (kb : ClassId) (nu : Nat) (d1a : Addr) (d10a : Addr) (cs : Int32) (h0 : Heap) (n0 : Nat) (v : Option Value) (h : Heap) (L : List Loc) : Prop := v = some (.ref a) ∧ Fr n0 L ∧ Keep h0 h [a, b] ∧ Bld Z h a b kb (Int32.ofNat (1 + own_len nu)) ((own_gc 5 nu (1 + own_len nu) own_v0).map Value.int)
set_option maxRecDepth 65536 in
set_option maxHeartbeats 40000000 in
theorem rm_apJ (l : Launch) (Z : State) (a0 : Array Value) (hw : ∀ d ∈ tables_1, d.before a0 Z = true) (ws : List Jvm.Cond) (a : Addr) (b : Addr) (kb : ClassId) (nu : Nat) (d1a : Addr) (d10a : Addr) (cs : Int32) (h0 : Heap) (n0 : Nat) (Z0 : n0 ≤ h0.size) (O : Old Z n0 h0) (SC : Sta Z Z.heap "java/lang/String" "COMPACT_STRINGS" "Z" (.int cs)) (hcs : ¬ cs = (0 : Int32)) (SD1 : Sta Z Z.heap "java/lang/Integer" "DigitOnes" "[B" (.ref d1a)) (G1 : Dgt Z d1a own_d1) (SD10 : Sta Z Z.heap "java/lang/Integer" "DigitTens" "[B" (.ref d10a)) (G10 : Dgt Z d10a own_d10) (BB : Bld Z h0 a b kb 1 (own_v0.map Value.int)) (ga : n0 ≤ a) (gb_ : n0 ≤ b) (hn : nu < 100000000) :
    MetFree l (⟨"java/lang/AbstractStringBuilder", "append", "(J)Ljava/lang/AbstractStringBuilder;"⟩ : MethodName) (head1 (Jvm.Cond.code (⟨"java/lang/AbstractStringBuilder", "append", "(J)Ljava/lang/AbstractStringBuilder;"⟩ : MethodName) jdk_68_method_33_code 5 (some (.object "java/lang/AbstractStringBuilder")) :: ws) ({ frames := 1, cells := 0, slots := 0, locals := 22 } : Room)) (fun as_ U => as_ = #[(.ref a), (.long (Int64.ofNat nu))] ∧ Z.Warmed39 U.vm ∧ U.heap = h0) (fun _ _ _ _ _ => True) (fun _ U o U' => ∃ v L, o = .returned v ∧ Q_apJ Z a b kb nu d1a d10a cs h0 n0 v U'.heap L ∧ FrameEnd U o U' L ({ frames := 1, cells := 0, slots := 0, locals := 22 } : Room).cells ({ frames := 1, cells := 0, slots := 0, locals := 22 } : Room).slots) := by
  refine MetFree.of_bodySF (plainFor_of_name pn_apJ) hisR ?_
  intro p e s m args below meth c s₁ Bd hml0 hP hK
  obtain ⟨rfl, hZ, hh⟩ := hP
  have hx := Bd.exec
  have hby := Bd.bytes
  have hml : c.maxLocals = 5 := hml0
  have hown : s.vm.findClass "java/lang/AbstractStringBuilder" = some m.cls := findClass_of_methodNamed Bd.named
  have hnm := (name_of_methodNamed Bd.named Bd.method).1
  have X0 : Stand p l e ({ frames := 1, cells := 0, slots := 0, locals := 22 } : Room) s m #[(.ref a), (.long (Int64.ofNat nu))] below meth c s₁ [] 0 0 := Stand.of_body Bd
  have e0 : s₁.heap = h0 := by rw [← hh, Bd.state]; rfl
  have N0 := Fr.nil n0
  refine Go.out ?_
  refine Go.pre (fun t k => castTop (ef_apJ m a (Int64.ofNat nu)) k) ?_
  obtain ⟨tE, tC, tV, tN, tA⟩ := BB
  have neab : a ≠ b := Exa.neArv tE tA (hw _ (List.mem_of_getElem? (i := 44) rfl))
  have hlen := own_len_le nu
  show Go p e below _ (s₁.setTop (mkF m 0 #[rv a, .val (.long (Int64.ofNat nu)), .second, .unset, .unset] []))
  refine Go.pre (fun _ k => XS.aloadN X0.here hx rfl (hb hby d_jdk_68_method_33_0) rfl rfl k) ?_
  show Go p e below _ (s₁.setTop (mkF m 1 #[rv a, .val (.long (Int64.ofNat nu)), .second, .unset, .unset] [(.ref a)]))
  obtain ⟨T1, X1, e1, st1⟩ := getF X0 hx hZ hown (host := "") (Or.inl (hw _ (List.mem_of_getElem? (i := 85) rfl))) Via.refl e0 tN (g := (mkF m 1 #[rv a, .val (.long (Int64.ofNat nu)), .second, .unset, .unset] [(.ref a)])) rfl rfl (hb hby d_jdk_68_method_33_1)
  refine Go.pre st1 ?_
  show Go p e below _ (T1.setTop (mkF m 4 #[rv a, .val (.long (Int64.ofNat nu)), .second, .unset, .unset] [(.int (1 : Int32))]))
  refine Go.pre (fun _ k => XS.istoreN X1.here hx rfl (hb hby d_jdk_68_method_33_4) rfl (l' := #[rv a, .val (.long (Int64.ofNat nu)), .second, iv (1 : Int32), .unset]) rfl k) ?_
  show Go p e below _ (T1.setTop (mkF m 5 #[rv a, .val (.long (Int64.ofNat nu)), .second, iv (1 : Int32), .unset] []))
  refine Go.pre (fun _ k => XS.iloadN X1.here hx rfl (hb hby d_jdk_68_method_33_5) rfl k) ?_
  show Go p e below _ (T1.setTop (mkF m 6 #[rv a, .val (.long (Int64.ofNat nu)), .second, iv (1 : Int32), .unset] [(.int (1 : Int32))]))
  refine Go.pre (fun _ k => XS.lloadN X1.here hx rfl (hb hby d_jdk_68_method_33_6) rfl k) ?_
  show Go p e below _ (T1.setTop (mkF m 7 #[rv a, .val (.long (Int64.ofNat nu)), .second, iv (1 : Int32), .unset] [(.long (Int64.ofNat nu)), (.int (1 : Int32))]))
  obtain ⟨_, _, ⟨T2, L2, k2, n2⟩, -, X2, ⟨Lc2, hQ2, l2, y2, z2⟩, st2⟩ := Jvm.LawKit.callS X1 hx (y := (⟨"java/lang/Long", "stringSize", "(J)I"⟩ : MethodName)) hown (mvT hZ (hw _ (List.mem_of_getElem? (i := 121) rfl))) (mvT hZ (hw _ (List.mem_of_getElem? (i := 122) rfl))) (mvT hZ (hw _ (List.mem_of_getElem? (i := 123) rfl))) (mvT hZ (hw _ (List.mem_of_getElem? (i := 124) rfl))) (by decide) (backOf (W := 1) (rm_ss l Z a0 hw [] nu h0 n0 Z0 hn) hZ (hw _ (List.mem_of_getElem? (i := 124) rfl)) (hw _ (List.mem_of_getElem? (i := 123) rfl)) (by decide) (by decide)) (g := (mkF m 7 #[rv a, .val (.long (Int64.ofNat nu)), .second, iv (1 : Int32), .unset] [(.long (Int64.ofNat nu)), (.int (1 : Int32))])) rfl (by rw [hml]; rfl) (argsL := [(.long (Int64.ofNat nu))]) (rest := [(.int (1 : Int32))]) (lenOf pd_7 rfl) rfl (by show 2 * 0 + _ ≤ _; exact Nat.le_of_eq rfl) (hb hby d_jdk_68_method_33_7) (fun _ _ => ⟨rfl, e1, (by decide : 0 + 0 ≤ _), (by decide : 0 + 0 ≤ _)⟩)
  dsimp only [Pt.U, Pt.locs, Pt.cells, Pt.slots] at X2 l2 y2 z2 st2 hQ2
  subst l2 y2 z2
  refine Go.pre st2 ?_
  obtain ⟨rfl, N2q, eh2⟩ := hQ2
  have N2 := Fr.app N0 N2q
  show Go p e below _ (T2.setTop (mkF m 10 #[rv a, .val (.long (Int64.ofNat nu)), .second, iv (1 : Int32), .unset] [(.int (Int32.ofNat (own_len nu))), (.int (1 : Int32))]))
  refine Go.pre (fun _ k => XS.iadd X2.here hx rfl (hb hby d_jdk_68_method_33_10) rfl k) ?_
  show Go p e below _ (T2.setTop (mkF m 11 #[rv a, .val (.long (Int64.ofNat nu)), .second, iv (1 : Int32), .unset] [(.int ((Int32.ofNat 1) + (Int32.ofNat (own_len nu))))]))
  rw [own_oadd]
  show Go p e below _ (T2.setTop (mkF m 11 #[rv a, .val (.long (Int64.ofNat nu)), .second, iv (1 : Int32), .unset] [(.int (Int32.ofNat (1 + (own_len nu))))]))
  refine Go.pre (fun _ k => XS.istore X2.here hx rfl (hb hby d_jdk_68_method_33_11) rfl (l' := #[rv a, .val (.long (Int64.ofNat nu)), .second, iv (1 : Int32), iv (Int32.ofNat (1 + (own_len nu)))]) rfl k) ?_
  show Go p e below _ (T2.setTop (mkF m 13 #[rv a, .val (.long (Int64.ofNat nu)), .second, iv (1 : Int32), iv (Int32.ofNat (1 + (own_len nu)))] []))
  refine Go.pre (fun _ k => XS.aloadN X2.here hx rfl (hb hby d_jdk_68_method_33_13) rfl rfl k) ?_
  show Go p e below _ (T2.setTop (mkF m 14 #[rv a, .val (.long (Int64.ofNat nu)), .second, iv (1 : Int32), iv (Int32.ofNat (1 + (own_len nu)))] [(.ref a)]))
  refine Go.pre (fun _ k => XS.iload X2.here hx rfl (hb hby d_jdk_68_method_33_14) rfl k) ?_
  show Go p e below _ (T2.setTop (mkF m 16 #[rv a, .val (.long (Int64.ofNat nu)), .second, iv (1 : Int32), iv (Int32.ofNat (1 + (own_len nu)))] [(.int (Int32.ofNat (1 + (own_len nu)))), (.ref a)]))
  obtain ⟨cq3, kq3, q3a, q3b, q3c⟩ := isOf hZ eh2 tE
  obtain ⟨_, _, ⟨T3, L3, k3, n3⟩, -, X3, ⟨Lc3, hQ3, l3, y3, z3⟩, st3⟩ := X2.virtualBack hx (y := (⟨"java/lang/AbstractStringBuilder", "ensureCapacityInternal", "(I)V"⟩ : MethodName)) (z := (⟨"java/lang/AbstractStringBuilder", "ensureCapacityInternal", "(I)V"⟩ : MethodName)) hown (mvT hZ (hw _ (List.mem_of_getElem? (i := 87) rfl))) (mvT hZ (own_decl (hw _ (List.mem_of_getElem? (i := 88) rfl)) (hw _ (List.mem_of_getElem? (i := 91) rfl)))) (notFace_of_selects (args := #[]) (mvT hZ (hw _ (List.mem_of_getElem? (i := 90) rfl)))) (mvT hZ (hw _ (List.mem_of_getElem? (i := 90) rfl))) (mvT hZ (hw _ (List.mem_of_getElem? (i := 88) rfl))) (by decide) (backOf (W := 0) (rm_ens l Z a0 hw [] a b kb (1 : Int32) (own_v0.map Value.int) (1 + (own_len nu)) h0 n0 Z0 O ⟨tE, tC, tV, tN, tA⟩ (by omega)) hZ (hw _ (List.mem_of_getElem? (i := 91) rfl)) (hw _ (List.mem_of_getElem? (i := 53) rfl)) (by decide) (by decide)) q3a q3c (g := (mkF m 16 #[rv a, .val (.long (Int64.ofNat nu)), .second, iv (1 : Int32), iv (Int32.ofNat (1 + (own_len nu)))] [(.int (Int32.ofNat (1 + (own_len nu)))), (.ref a)])) rfl (by rw [hml]; rfl) (Steps.refl _) (argsL := [(.int (Int32.ofNat (1 + (own_len nu))))]) (rest := []) (lenOf pd_4 rfl) rfl (by show 2 * 0 + _ ≤ _; exact Nat.le_of_eq rfl) (hb hby d_jdk_68_method_33_16) (fun _ _ => ⟨rfl, eh2, (by decide : 0 + 0 ≤ _), (by decide : 0 + 0 ≤ _)⟩)
  dsimp only [Pt.U, Pt.locs, Pt.cells, Pt.slots] at X3 l3 y3 z3 st3 hQ3
  subst l3 y3 z3
  refine Go.pre (own_cut st3) ?_
  obtain ⟨rfl, N3q, eh3⟩ := hQ3
  have N3 := Fr.app N2 N3q
  show Go p e below _ (T3.setTop (mkF m 19 #[rv a, .val (.long (Int64.ofNat nu)), .second, iv (1 : Int32), iv (Int32.ofNat (1 + (own_len nu)))] []))
  refine Go.pre (fun _ k => XS.aloadN X3.here hx rfl (hb hby d_jdk_68_method_33_19) rfl rfl k) ?_
  show Go p e below _ (T3.setTop (mkF m 20 #[rv a, .val (.long (Int64.ofNat nu)), .second, iv (1 : Int32), iv (Int32.ofNat (1 + (own_len nu)))] [(.ref a)]))
  obtain ⟨cq4, kq4, q4a, q4b, q4c⟩ := isOf hZ eh3 tE
  obtain ⟨_, _, ⟨T4, L4, k4, n4⟩, -, X4, ⟨Lc4, hQ4, l4, y4, z4⟩, st4⟩ := X3.virtualBack hx (y := (⟨"java/lang/AbstractStringBuilder", "isLatin1", "()Z"⟩ : MethodName)) (z := (⟨"java/lang/AbstractStringBuilder", "isLatin1", "()Z"⟩ : MethodName)) hown (mvT hZ (hw _ (List.mem_of_getElem? (i := 126) rfl))) (mvT hZ (hw _ (List.mem_of_getElem? (i := 127) rfl))) (notFace_of_selects (args := #[]) (mvT hZ (hw _ (List.mem_of_getElem? (i := 129) rfl)))) (mvT hZ (hw _ (List.mem_of_getElem? (i := 129) rfl))) (mvT hZ (hw _ (List.mem_of_getElem? (i := 128) rfl))) (by decide) (backOf (W := 0) (rm_isl l Z a0 hw [] a b kb (1 : Int32) (own_v0.map Value.int) cs h0 n0 Z0 O SC hcs ⟨tE, tC, tV, tN, tA⟩) hZ (hw _ (List.mem_of_getElem? (i := 130) rfl)) (hw _ (List.mem_of_getElem? (i := 53) rfl)) (by decide) (by decide)) q4a q4c (g := (mkF m 20 #[rv a, .val (.long (Int64.ofNat nu)), .second, iv (1 : Int32), iv (Int32.ofNat (1 + (own_len nu)))] [(.ref a)])) rfl (by rw [hml]; rfl) (Steps.refl _) (argsL := []) (rest := []) (lenOf pd_8 rfl) rfl (by show 2 * 0 + _ ≤ _; exact Nat.le_of_eq rfl) (hb hby d_jdk_68_method_33_20) (fun _ _ => ⟨rfl, eh3, (by decide : 0 + 0 ≤ _), (by decide : 0 + 0 ≤ _)⟩)
  dsimp only [Pt.U, Pt.locs, Pt.cells, Pt.slots] at X4 l4 y4 z4 st4 hQ4
  subst l4 y4 z4
  refine Go.pre (own_cut st4) ?_
  obtain ⟨rfl, N4q, eh4⟩ := hQ4
  have N4 := Fr.app N3 N4q
  show Go p e below _ (T4.setTop (mkF m 23 #[rv a, .val (.long (Int64.ofNat nu)), .second, iv (1 : Int32), iv (Int32.ofNat (1 + (own_len nu)))] [(.int (1 : Int32))]))
  refine Go.pre (fun _ k => XS.ifNo X4.here hx rfl (hb hby d_jdk_68_method_33_23) rfl ((if0 _ _).trans (feq (by decide : ¬ ((1 : Int32) = (0 : Int32)))).1) k) ?_
  show Go p e below _ (T4.setTop (mkF m 26 #[rv a, .val (.long (Int64.ofNat nu)), .second, iv (1 : Int32), iv (Int32.ofNat (1 + (own_len nu)))] []))
  refine Go.pre (fun _ k => XS.lloadN X4.here hx rfl (hb hby d_jdk_68_method_33_26) rfl k) ?_
  show Go p e below _ (T4.setTop (mkF m 27 #[rv a, .val (.long (Int64.ofNat nu)), .second, iv (1 : Int32), iv (Int32.ofNat (1 + (own_len nu)))] [(.long (Int64.ofNat nu))]))
  refine Go.pre (fun _ k => XS.iload X4.here hx rfl (hb hby d_jdk_68_method_33_27) rfl k) ?_
  show Go p e below _ (T4.setTop (mkF m 29 #[rv a, .val (.long (Int64.ofNat nu)), .second, iv (1 : Int32), iv (Int32.ofNat (1 + (own_len nu)))] [(.int (Int32.ofNat (1 + (own_len nu)))), (.long (Int64.ofNat nu))]))
  refine Go.pre (fun _ k => XS.aloadN X4.here hx rfl (hb hby d_jdk_68_method_33_29) rfl rfl k) ?_
  show Go p e below _ (T4.setTop (mkF m 30 #[rv a, .val (.long (Int64.ofNat nu)), .second, iv (1 : Int32), iv (Int32.ofNat (1 + (own_len nu)))] [(.ref a), (.int (Int32.ofNat (1 + (own_len nu)))), (.long (Int64.ofNat nu))]))
  obtain ⟨T5, X5, e5, st5⟩ := getF X4 hx hZ hown (host := "") (Or.inl (hw _ (List.mem_of_getElem? (i := 57) rfl))) Via.refl eh4 tV (g := (mkF m 30 #[rv a, .val (.long (Int64.ofNat nu)), .second, iv (1 : Int32), iv (Int32.ofNat (1 + (own_len nu)))] [(.ref a), (.int (Int32.ofNat (1 + (own_len nu)))), (.long (Int64.ofNat nu))])) rfl rfl (hb hby d_jdk_68_method_33_30)
  refine Go.pre st5 ?_
  show Go p e below _ (T5.setTop (mkF m 33 #[rv a, .val (.long (Int64.ofNat nu)), .second, iv (1 : Int32), iv (Int32.ofNat (1 + (own_len nu)))] [(.ref b), (.int (Int32.ofNat (1 + (own_len nu)))), (.long (Int64.ofNat nu))]))
  obtain ⟨_, _, ⟨T6, L6, k6, n6⟩, -, X6, ⟨Lc6, hQ6, l6, y6, z6⟩, st6⟩ := Jvm.LawKit.callS X5 hx (y := (⟨"java/lang/Long", "getChars", "(JI[B)I"⟩ : MethodName)) hown (mvT hZ (hw _ (List.mem_of_getElem? (i := 131) rfl))) (mvT hZ (hw _ (List.mem_of_getElem? (i := 132) rfl))) (mvT hZ (hw _ (List.mem_of_getElem? (i := 123) rfl))) (mvT hZ (hw _ (List.mem_of_getElem? (i := 133) rfl))) (by decide) (backOf (W := 0) (rm_gc l Z a0 hw [] nu b kb d1a d10a h0 n0 Z0 O SD1 G1 SD10 G10 tA gb_ hn) hZ (hw _ (List.mem_of_getElem? (i := 133) rfl)) (hw _ (List.mem_of_getElem? (i := 123) rfl)) (by decide) (by decide)) (g := (mkF m 33 #[rv a, .val (.long (Int64.ofNat nu)), .second, iv (1 : Int32), iv (Int32.ofNat (1 + (own_len nu)))] [(.ref b), (.int (Int32.ofNat (1 + (own_len nu)))), (.long (Int64.ofNat nu))])) rfl (by rw [hml]; rfl) (argsL := [(.long (Int64.ofNat nu)), (.int (Int32.ofNat (1 + (own_len nu)))), (.ref b)]) (rest := []) (lenOf pd_9 rfl) rfl (by show 2 * 0 + _ ≤ _; exact Nat.le_of_eq rfl) (hb hby d_jdk_68_method_33_33) (fun _ _ => ⟨rfl, e5, (by decide : 0 + 0 ≤ _), (by decide : 0 + 0 ≤ _)⟩)
  dsimp only [Pt.U, Pt.locs, Pt.cells, Pt.slots] at X6 l6 y6 z6 st6 hQ6
  subst l6 y6 z6
  refine Go.pre st6 ?_
  obtain ⟨⟨r6, rfl⟩, N6q, K6, V6⟩ := hQ6
  have N6 := Fr.app N4 N6q
  have KC6 : Keep h0 T6.heap [a, b] := (Keep.refl h0 [a, b]).trans K6 (allS (Or.inl (List.mem_of_getElem? (i := 1) rfl)) all0)
  show Go p e below _ (T6.setTop (mkF m 36 #[rv a, .val (.long (Int64.ofNat nu)), .second, iv (1 : Int32), iv (Int32.ofNat (1 + (own_len nu)))] [(.int r6)]))
  refine Go.pre (fun _ k => XS.pop X6.here hx rfl (hb hby d_jdk_68_method_33_36) rfl rfl k) ?_
  show Go p e below _ (T6.setTop (mkF m 37 #[rv a, .val (.long (Int64.ofNat nu)), .second, iv (1 : Int32), iv (Int32.ofNat (1 + (own_len nu)))] []))
  refine Go.pre (fun _ k => XS.goto X6.here hx rfl (pc0 := 37) (pc' := 52) rfl (hb hby d_jdk_68_method_33_37) (by decide) (by decide) k) ?_
  show Go p e below _ (T6.setTop (mkF m 52 #[rv a, .val (.long (Int64.ofNat nu)), .second, iv (1 : Int32), iv (Int32.ofNat (1 + (own_len nu)))] []))
  refine Go.pre (fun _ k => XS.aloadN X6.here hx rfl (hb hby d_jdk_68_method_33_52) rfl rfl k) ?_
  show Go p e below _ (T6.setTop (mkF m 53 #[rv a, .val (.long (Int64.ofNat nu)), .second, iv (1 : Int32), iv (Int32.ofNat (1 + (own_len nu)))] [(.ref a)]))
  refine Go.pre (fun _ k => XS.iload X6.here hx rfl (hb hby d_jdk_68_method_33_53) rfl k) ?_
  show Go p e below _ (T6.setTop (mkF m 55 #[rv a, .val (.long (Int64.ofNat nu)), .second, iv (1 : Int32), iv (Int32.ofNat (1 + (own_len nu)))] [(.int (Int32.ofNat (1 + (own_len nu)))), (.ref a)]))
  obtain ⟨T7, h7, X7, e7, W7, st7⟩ := putF X6 hx hZ hown (host := "") (Or.inl (hw _ (List.mem_of_getElem? (i := 85) rfl))) Via.refl rfl (tN.keep K6 (ninS neab nin0)) (tE.keep K6) (Or.inl (hw _ (List.mem_of_getElem? (i := 86) rfl))) (hw _ (List.mem_of_getElem? (i := 44) rfl)) (ty := .int) (by decide) rfl rfl (g := (mkF m 55 #[rv a, .val (.long (Int64.ofNat nu)), .second, iv (1 : Int32), iv (Int32.ofNat (1 + (own_len nu)))] [(.int (Int32.ofNat (1 + (own_len nu)))), (.ref a)])) rfl rfl (hb hby d_jdk_68_method_33_55)
  have F7 := (tN.keep K6 (ninS neab nin0)).same W7
  have N7 := Fr.snoc X7 N6 ga
  refine Go.pre st7 ?_
  have KC7 : Keep h0 h7 [a, b] := KC6.wr W7 (Or.inl (List.mem_of_getElem? (i := 0) rfl))
  show Go p e below _ (T7.setTop (mkF m 58 #[rv a, .val (.long (Int64.ofNat nu)), .second, iv (1 : Int32), iv (Int32.ofNat (1 + (own_len nu)))] []))
  refine Go.pre (fun _ k => XS.aloadN X7.here hx rfl (hb hby d_jdk_68_method_33_58) rfl rfl k) ?_
  show Go p e below _ (T7.setTop (mkF m 59 #[rv a, .val (.long (Int64.ofNat nu)), .second, iv (1 : Int32), iv (Int32.ofNat (1 + (own_len nu)))] [(.ref a)]))
  obtain ⟨fs, hr, hrun, hended, hW, hsame⟩ := X7.leave (v := some (.ref a)) (fun h => by rw [Bd.returns] at h; cases h)
  refine Go.fin (retOut X7 hx Bd.returns rfl (Or.inr (Or.inr (Or.inr (Or.inr ⟨rfl, rfl, rfl⟩)))) (hb hby d_jdk_68_method_33_59) hr) ⟨hrun, hended, _, _, rfl, ?_, ⟨_, rfl⟩, hW, hsame.mono (by decide) (by decide)⟩
  show Q_apJ Z a b kb nu d1a d10a cs h0 n0 _ T7.heap _
  rw [e7]
  exact ⟨rfl, N7, KC7, ⟨((tE.keep K6).wr W7), ((tC.keep K6 (ninS neab nin0)).other W7 (Or.inr (slot_ne (Or.inl (hw _ (List.mem_of_getElem? (i := 60) rfl))) (Or.inl (hw _ (List.mem_of_getElem? (i := 86) rfl))) (by decide) (t := .byte) (t' := .int) (by decide) (by decide)))), ((tV.keep K6 (ninS neab nin0)).other W7 (Or.inr (slot_ne (Or.inl (hw _ (List.mem_of_getElem? (i := 58) rfl))) (Or.inl (hw _ (List.mem_of_getElem? (i := 86) rfl))) (by decide) (t := (.array .byte)) (t' := .int) (by decide) (by decide)))), F7, (V6.other W7 (Ne.symm neab))⟩⟩

theorem ef_sbJ (m : MethodId) (x0 : Addr) (x1 : Int64) : entryFrame m #[(.ref x0), (.long x1)] 3 = mkF m 0 #[rv x0, .val (.long x1), .second] [] := by first | (simp [entryFrame, mkF, argsToLocals, Value.category]; done) | rfl
theorem pn_sbJ : plainName "java/lang/StringBuilder" = true := by first | (simp [plainName, overriddenIn]; done) | decide +kernel
def Q_sbJ (Z : State) (a : Addr) (b : Addr) (kb : ClassId) (nu : Nat) (d1a : Addr) (d10a : Addr) (cs : Int32) (h0 : Heap) (n0 : Nat) (v : Option Value) (h : Heap) (L : List Loc) : Prop := v = some (.ref a) ∧ Fr n0 L ∧ Keep h0 h [a, b] ∧ Bld Z h a b kb (Int32.ofNat (1 + own_len nu)) ((own_gc 5 nu (1 + own_len nu) own_v0).map Value.int)
set_option maxRecDepth 65536 in
set_option maxHeartbeats 40000000 in
theorem rm_sbJ (l : Launch) (Z : State) (a0 : Array Value) (hw : ∀ d ∈ tables_1, d.before a0 Z = true) (ws : List Jvm.Cond) (a : Addr) (b : Addr) (kb : ClassId) (nu : Nat) (d1a : Addr) (d10a : Addr) (cs : Int32) (h0 : Heap) (n0 : Nat) (Z0 : n0 ≤ h0.size) (O : Old Z n0 h0) (SC : Sta Z Z.heap "java/lang/String" "COMPACT_STRINGS" "Z" (.int cs)) (hcs : ¬ cs = (0 : Int32)) (SD1 : Sta Z Z.heap "java/lang/Integer" "DigitOnes" "[B" (.ref d1a)) (G1 : Dgt Z d1a own_d1) (SD10 : Sta Z Z.heap "java/lang/Integer" "DigitTens" "[B" (.ref d10a)) (G10 : Dgt Z d10a own_d10) (BB : Bld Z h0 a b kb 1 (own_v0.map Value.int)) (ga : n0 ≤ a) (gb_ : n0 ≤ b) (hn : nu < 100000000) :
    MetFree l (⟨"java/lang/StringBuilder", "append", "(J)Ljava/lang/StringBuilder;"⟩ : MethodName) (head1 (Jvm.Cond.code (⟨"java/lang/StringBuilder", "append", "(J)Ljava/lang/StringBuilder;"⟩ : MethodName) jdk_67_method_16_code 3 (some (.object "java/lang/StringBuilder")) :: ws) ({ frames := 2, cells := 0, slots := 0, locals := 38 } : Room)) (fun as_ U => as_ = #[(.ref a), (.long (Int64.ofNat nu))] ∧ Z.Warmed39 U.vm ∧ U.heap = h0) (fun _ _ _ _ _ => True) (fun _ U o U' => ∃ v L, o = .returned v ∧ Q_sbJ Z a b kb nu d1a d10a cs h0 n0 v U'.heap L ∧ FrameEnd U o U' L ({ frames := 2, cells := 0, slots := 0, locals := 38 } : Room).cells ({ frames := 2, cells := 0, slots := 0, locals := 38 } : Room).slots) := by
  refine MetFree.of_bodySF (plainFor_of_name pn_sbJ) hisR ?_
  intro p e s m args below meth c s₁ Bd hml0 hP hK
  obtain ⟨rfl, hZ, hh⟩ := hP
  have hx := Bd.exec
  have hby := Bd.bytes
  have hml : c.maxLocals = 3 := hml0
  have hown : s.vm.findClass "java/lang/StringBuilder" = some m.cls := findClass_of_methodNamed Bd.named
  have hnm := (name_of_methodNamed Bd.named Bd.method).1
  have X0 : Stand p l e ({ frames := 2, cells := 0, slots := 0, locals := 38 } : Room) s m #[(.ref a), (.long (Int64.ofNat nu))] below meth c s₁ [] 0 0 := Stand.of_body Bd
  have e0 : s₁.heap = h0 := by rw [← hh, Bd.state]; rfl
  have N0 := Fr.nil n0
  refine Go.out ?_
  refine Go.pre (fun t k => castTop (ef_sbJ m a (Int64.ofNat nu)) k) ?_
  obtain ⟨tE, tC, tV, tN, tA⟩ := BB
  have neab : a ≠ b := Exa.neArv tE tA (hw _ (List.mem_of_getElem? (i := 44) rfl))
  have hlen := own_len_le nu
  show Go p e below _ (s₁.setTop (mkF m 0 #[rv a, .val (.long (Int64.ofNat nu)), .second] []))
  refine Go.pre (fun _ k => XS.aloadN X0.here hx rfl (hb hby d_jdk_67_method_16_0) rfl rfl k) ?_
  show Go p e below _ (s₁.setTop (mkF m 1 #[rv a, .val (.long (Int64.ofNat nu)), .second] [(.ref a)]))
  refine Go.pre (fun _ k => XS.lloadN X0.here hx rfl (hb hby d_jdk_67_method_16_1) rfl k) ?_
  show Go p e below _ (s₁.setTop (mkF m 2 #[rv a, .val (.long (Int64.ofNat nu)), .second] [(.long (Int64.ofNat nu)), (.ref a)]))
  obtain ⟨_, _, ⟨T1, L1, k1, n1⟩, -, X1, ⟨Lc1, hQ1, l1, y1, z1⟩, st1⟩ := superBack X0 hx hZ (y := (⟨"java/lang/AbstractStringBuilder", "append", "(J)Ljava/lang/AbstractStringBuilder;"⟩ : MethodName)) hown (hw _ (List.mem_of_getElem? (i := 117) rfl)) (own_same (hw _ (List.mem_of_getElem? (i := 120) rfl)) (notFace_of_selects (args := a0) (y := (⟨"java/lang/AbstractStringBuilder", "getValue", "()[B"⟩ : MethodName)) (hw _ (List.mem_of_getElem? (i := 154) rfl))) (by decide) rfl (Cond.code_named (hw _ (List.mem_of_getElem? (i := 155) rfl)))) (hw _ (List.mem_of_getElem? (i := 118) rfl)) (hw _ (List.mem_of_getElem? (i := 69) rfl)) (by decide) (backOf (W := 0) (rm_apJ l Z a0 hw [] a b kb nu d1a d10a cs h0 n0 Z0 O SC hcs SD1 G1 SD10 G10 ⟨tE, tC, tV, tN, tA⟩ ga gb_ hn) hZ (hw _ (List.mem_of_getElem? (i := 120) rfl)) (hw _ (List.mem_of_getElem? (i := 53) rfl)) (by decide) (by decide)) e0 (Ins.self tE) (g := (mkF m 2 #[rv a, .val (.long (Int64.ofNat nu)), .second] [(.long (Int64.ofNat nu)), (.ref a)])) rfl (by rw [hml]; rfl) (hw _ (List.mem_of_getElem? (i := 120) rfl)) (argsL := [(.long (Int64.ofNat nu))]) (rest := []) (lenOf pd_10 rfl) rfl (by show 2 * 0 + _ ≤ _; exact Nat.le_of_eq rfl) (hb hby d_jdk_67_method_16_2) (fun _ _ => ⟨rfl, e0, (by decide : 0 + 0 ≤ _), (by decide : 0 + 0 ≤ _)⟩)
  dsimp only [Pt.U, Pt.locs, Pt.cells, Pt.slots] at X1 l1 y1 z1 st1 hQ1
  subst l1 y1 z1
  refine Go.pre (own_cut st1) ?_
  obtain ⟨rfl, N1q, K1, B1⟩ := hQ1
  have N1 := Fr.app N0 N1q
  have KC1 : Keep h0 T1.heap [a, b] := (Keep.refl h0 [a, b]).trans K1 (allS (Or.inl (List.mem_of_getElem? (i := 0) rfl)) (allS (Or.inl (List.mem_of_getElem? (i := 1) rfl)) all0))
  obtain ⟨uE1, uC1, uV1, uN1, uA1⟩ := B1
  show Go p e below _ (T1.setTop (mkF m 5 #[rv a, .val (.long (Int64.ofNat nu)), .second] [(.ref a)]))
  refine Go.pre (fun _ k => XS.pop X1.here hx rfl (hb hby d_jdk_67_method_16_5) rfl rfl k) ?_
  show Go p e below _ (T1.setTop (mkF m 6 #[rv a, .val (.long (Int64.ofNat nu)), .second] []))
  refine Go.pre (fun _ k => XS.aloadN X1.here hx rfl (hb hby d_jdk_67_method_16_6) rfl rfl k) ?_
  show Go p e below _ (T1.setTop (mkF m 7 #[rv a, .val (.long (Int64.ofNat nu)), .second] [(.ref a)]))
  obtain ⟨fs, hr, hrun, hended, hW, hsame⟩ := X1.leave (v := some (.ref a)) (fun h => by rw [Bd.returns] at h; cases h)
  refine Go.fin (retOut X1 hx Bd.returns rfl (Or.inr (Or.inr (Or.inr (Or.inr ⟨rfl, rfl, rfl⟩)))) (hb hby d_jdk_67_method_16_7) hr) ⟨hrun, hended, _, _, rfl, ?_, ⟨_, rfl⟩, hW, hsame.mono (by decide) (by decide)⟩
  show Q_sbJ Z a b kb nu d1a d10a cs h0 n0 _ T1.heap _
  exact ⟨rfl, N1, KC1, ⟨uE1, uC1, uV1, uN1, uA1⟩⟩

theorem ef_chk (m : MethodId) (x0 : Int32) (x1 : Int32) : entryFrame m #[(.int x0), (.int x1)] 2 = mkF m 0 #[iv x0, iv x1] [] := by first | (simp [entryFrame, mkF, argsToLocals, Value.category]; done) | rfl
theorem pn_chk : plainName "java/util/Arrays" = true := by first | (simp [plainName, overriddenIn]; done) | decide +kernel
def Q_chk (Z : State) (ln : Nat) (h0 : Heap) (n0 : Nat) (v : Option Value) (h : Heap) (L : List Loc) : Prop := v = none ∧ Fr n0 L ∧ h = h0
set_option maxRecDepth 65536 in
set_option maxHeartbeats 40000000 in
theorem rm_chk (l : Launch) (Z : State) (a0 : Array Value) (hw : ∀ d ∈ tables_1, d.before a0 Z = true) (ws : List Jvm.Cond) (ln : Nat) (h0 : Heap) (n0 : Nat) (Z0 : n0 ≤ h0.size) (hln : ln < 16) :
    MetFree l (⟨"java/util/Arrays", "checkLength", "(II)V"⟩ : MethodName) (head1 (Jvm.Cond.code (⟨"java/util/Arrays", "checkLength", "(II)V"⟩ : MethodName) jdk_65_method_131_code 2 none :: ws) ({ frames := 0, cells := 0, slots := 0, locals := 0 } : Room)) (fun as_ U => as_ = #[(.int (0 : Int32)), (.int (Int32.ofNat ln))] ∧ Z.Warmed39 U.vm ∧ U.heap = h0) (fun _ _ _ _ _ => True) (fun _ U o U' => ∃ v L, o = .returned v ∧ Q_chk Z ln h0 n0 v U'.heap L ∧ FrameEnd U o U' L ({ frames := 0, cells := 0, slots := 0, locals := 0 } : Room).cells ({ frames := 0, cells := 0, slots := 0, locals := 0 } : Room).slots) := by
  refine MetFree.of_bodySF (plainFor_of_name pn_chk) hisR ?_
  intro p e s m args below meth c s₁ Bd hml0 hP hK
  obtain ⟨rfl, hZ, hh⟩ := hP
  have hx := Bd.exec
  have hby := Bd.bytes
  have hml : c.maxLocals = 2 := hml0
  have hown : s.vm.findClass "java/util/Arrays" = some m.cls := findClass_of_methodNamed Bd.named
  have hnm := (name_of_methodNamed Bd.named Bd.method).1
  have X0 : Stand p l e ({ frames := 0, cells := 0, slots := 0, locals := 0 } : Room) s m #[(.int (0 : Int32)), (.int (Int32.ofNat ln))] below meth c s₁ [] 0 0 := Stand.of_body Bd
  have e0 : s₁.heap = h0 := by rw [← hh, Bd.state]; rfl
  have N0 := Fr.nil n0
  refine Go.out ?_
  refine Go.pre (fun t k => castTop (ef_chk m (0 : Int32) (Int32.ofNat ln)) k) ?_
  show Go p e below _ (s₁.setTop (mkF m 0 #[iv (0 : Int32), iv (Int32.ofNat ln)] []))
  refine Go.pre (fun _ k => XS.iloadN X0.here hx rfl (hb hby d_jdk_65_method_131_0) rfl k) ?_
  show Go p e below _ (s₁.setTop (mkF m 1 #[iv (0 : Int32), iv (Int32.ofNat ln)] [(.int (Int32.ofNat ln))]))
  refine Go.pre (fun _ k => XS.iloadN X0.here hx rfl (hb hby d_jdk_65_method_131_1) rfl k) ?_
  show Go p e below _ (s₁.setTop (mkF m 2 #[iv (0 : Int32), iv (Int32.ofNat ln)] [(.int (0 : Int32)), (.int (Int32.ofNat ln))]))
  refine Go.pre (fun _ k => XS.icmpYes X0.here hx rfl (pc0 := 2) (pc' := 37) rfl (hb hby d_jdk_65_method_131_2) rfl (flt (own_nn (by omega))).2.1 (by decide) (by decide) k) ?_
  show Go p e below _ (s₁.setTop (mkF m 37 #[iv (0 : Int32), iv (Int32.ofNat ln)] []))
  obtain ⟨fs, hr, hrun, hended, hW, hsame⟩ := X0.leave (v := none) (fun _ => rfl)
  refine Go.fin (X0.returnOut hx Bd.returns (hb hby d_jdk_65_method_131_37) hr) ⟨hrun, hended, _, _, rfl, ?_, ⟨_, rfl⟩, hW, hsame.mono (by decide) (by decide)⟩
  show Q_chk Z ln h0 n0 _ s₁.heap _
  rw [e0]
  exact ⟨rfl, N0, rfl⟩

theorem ef_mmin (m : MethodId) (x0 : Int32) (x1 : Int32) : entryFrame m #[(.int x0), (.int x1)] 2 = mkF m 0 #[iv x0, iv x1] [] := by first | (simp [entryFrame, mkF, argsToLocals, Value.category]; done) | rfl
def Q_mmin (Z : State) (ln : Nat) (h0 : Heap) (n0 : Nat) (v : Option Value) (h : Heap) (L : List Loc) : Prop := v = some (.int (Int32.ofNat ln)) ∧ Fr n0 L ∧ h = h0
set_option maxRecDepth 65536 in
set_option maxHeartbeats 40000000 in
theorem rm_mmin (l : Launch) (Z : State) (a0 : Array Value) (hw : ∀ d ∈ tables_1, d.before a0 Z = true) (ws : List Jvm.Cond) (ln : Nat) (h0 : Heap) (n0 : Nat) (Z0 : n0 ≤ h0.size) (hln : ln < 16) :
    MetFree l (⟨"java/lang/Math", "min", "(II)I"⟩ : MethodName) (head1 (Jvm.Cond.code (⟨"java/lang/Math", "min", "(II)I"⟩ : MethodName) jdk_29_method_69_code 2 (some .int) :: ws) ({ frames := 0, cells := 0, slots := 0, locals := 0 } : Room)) (fun as_ U => as_ = #[(.int (16 : Int32)), (.int (Int32.ofNat ln))] ∧ Z.Warmed39 U.vm ∧ U.heap = h0) (fun _ _ _ _ _ => True) (fun _ U o U' => ∃ v L, o = .returned v ∧ Q_mmin Z ln h0 n0 v U'.heap L ∧ FrameEnd U o U' L ({ frames := 0, cells := 0, slots := 0, locals := 0 } : Room).cells ({ frames := 0, cells := 0, slots := 0, locals := 0 } : Room).slots) := by
  refine MetFree.of_bodySF (Jvm.Free.JP.mathPlain rfl (by decide +kernel)) hisR ?_
  intro p e s m args below meth c s₁ Bd hml0 hP hK
  obtain ⟨rfl, hZ, hh⟩ := hP
  have hx := Bd.exec
  have hby := Bd.bytes
  have hml : c.maxLocals = 2 := hml0
  have hown : s.vm.findClass "java/lang/Math" = some m.cls := findClass_of_methodNamed Bd.named
  have hnm := (name_of_methodNamed Bd.named Bd.method).1
  have X0 : Stand p l e ({ frames := 0, cells := 0, slots := 0, locals := 0 } : Room) s m #[(.int (16 : Int32)), (.int (Int32.ofNat ln))] below meth c s₁ [] 0 0 := Stand.of_body Bd
  have e0 : s₁.heap = h0 := by rw [← hh, Bd.state]; rfl
  have N0 := Fr.nil n0
  refine Go.out ?_
  refine Go.pre (fun t k => castTop (ef_mmin m (16 : Int32) (Int32.ofNat ln)) k) ?_
  show Go p e below _ (s₁.setTop (mkF m 0 #[iv (16 : Int32), iv (Int32.ofNat ln)] []))
  refine Go.pre (fun _ k => XS.iloadN X0.here hx rfl (hb hby d_jdk_29_method_69_0) rfl k) ?_
  show Go p e below _ (s₁.setTop (mkF m 1 #[iv (16 : Int32), iv (Int32.ofNat ln)] [(.int (16 : Int32))]))
  refine Go.pre (fun _ k => XS.iloadN X0.here hx rfl (hb hby d_jdk_29_method_69_1) rfl k) ?_
  show Go p e below _ (s₁.setTop (mkF m 2 #[iv (16 : Int32), iv (Int32.ofNat ln)] [(.int (Int32.ofNat ln)), (.int (16 : Int32))]))
  refine Go.pre (fun _ k => XS.icmpYes X0.here hx rfl (pc0 := 2) (pc' := 9) rfl (hb hby d_jdk_29_method_69_2) rfl (tlt ((own_ol (a := ln) (b := 16) (by omega) (by omega)).mpr hln)).2.2.1 (by decide) (by decide) k) ?_
  show Go p e below _ (s₁.setTop (mkF m 9 #[iv (16 : Int32), iv (Int32.ofNat ln)] []))
  refine Go.pre (fun _ k => XS.iloadN X0.here hx rfl (hb hby d_jdk_29_method_69_9) rfl k) ?_
  show Go p e below _ (s₁.setTop (mkF m 10 #[iv (16 : Int32), iv (Int32.ofNat ln)] [(.int (Int32.ofNat ln))]))
  obtain ⟨fs, hr, hrun, hended, hW, hsame⟩ := X0.leave (v := some (.int (Int32.ofNat ln))) (fun h => by rw [Bd.returns] at h; cases h)
  refine Go.fin (retI X0 hx Bd.returns (hb hby d_jdk_29_method_69_10) hr) ⟨hrun, hended, _, _, rfl, ?_, ⟨_, rfl⟩, hW, hsame.mono (by decide) (by decide)⟩
  show Q_mmin Z ln h0 n0 _ s₁.heap _
  rw [e0]
  exact ⟨rfl, N0, rfl⟩

theorem ef_corb (m : MethodId) (x0 : Addr) (x1 : Int32) (x2 : Int32) : entryFrame m #[(.ref x0), (.int x1), (.int x2)] 5 = mkF m 0 #[rv x0, iv x1, iv x2, .unset, .unset] [] := by first | (simp [entryFrame, mkF, argsToLocals, Value.category]; done) | rfl
theorem pn_corb : plainName "java/util/Arrays" = true := by first | (simp [plainName, overriddenIn]; done) | decide +kernel
def Q_corb (Z : State) (b : Addr) (kb : ClassId) (vs : List Value) (ln : Nat) (h0 : Heap) (n0 : Nat) (v : Option Value) (h : Heap) (L : List Loc) : Prop := ∃ (r : Addr) (kr : ClassId), v = some (.ref r) ∧ Fr n0 L ∧ Keep h0 h [] ∧ h0.size ≤ r ∧ Arv Z h r kr .byte (Int32.ofNat ln) (vs.take ln) (.int 0)
set_option maxRecDepth 65536 in
set_option maxHeartbeats 40000000 in
theorem rm_corb (l : Launch) (Z : State) (a0 : Array Value) (hw : ∀ d ∈ tables_1, d.before a0 Z = true) (ws : List Jvm.Cond) (b : Addr) (kb : ClassId) (vs : List Value) (ln : Nat) (h0 : Heap) (n0 : Nat) (Z0 : n0 ≤ h0.size) (O : Old Z n0 h0) (tA : Arv Z h0 b kb .byte 16 vs (.int 0)) (hvs : vs.length = 16) (hln : ln < 16) :
    MetFree l (⟨"java/util/Arrays", "copyOfRangeByte", "([BII)[B"⟩ : MethodName) (head1 (Jvm.Cond.code (⟨"java/util/Arrays", "copyOfRangeByte", "([BII)[B"⟩ : MethodName) jdk_65_method_133_code 5 (some (.array .byte)) :: ws) ({ frames := 1, cells := 1, slots := 16, locals := 30 } : Room)) (fun as_ U => as_ = #[(.ref b), (.int (0 : Int32)), (.int (Int32.ofNat ln))] ∧ Z.Warmed39 U.vm ∧ U.heap = h0) (fun _ _ _ _ _ => True) (fun _ U o U' => ∃ v L, o = .returned v ∧ Q_corb Z b kb vs ln h0 n0 v U'.heap L ∧ FrameEnd U o U' L ({ frames := 1, cells := 1, slots := 16, locals := 30 } : Room).cells ({ frames := 1, cells := 1, slots := 16, locals := 30 } : Room).slots) := by
  refine MetFree.of_bodySF (plainFor_of_name pn_corb) hisR ?_
  intro p e s m args below meth c s₁ Bd hml0 hP hK
  obtain ⟨rfl, hZ, hh⟩ := hP
  have hx := Bd.exec
  have hby := Bd.bytes
  have hml : c.maxLocals = 5 := hml0
  have hown : s.vm.findClass "java/util/Arrays" = some m.cls := findClass_of_methodNamed Bd.named
  have hnm := (name_of_methodNamed Bd.named Bd.method).1
  have X0 : Stand p l e ({ frames := 1, cells := 1, slots := 16, locals := 30 } : Room) s m #[(.ref b), (.int (0 : Int32)), (.int (Int32.ofNat ln))] below meth c s₁ [] 0 0 := Stand.of_body Bd
  have e0 : s₁.heap = h0 := by rw [← hh, Bd.state]; rfl
  have N0 := Fr.nil n0
  refine Go.out ?_
  refine Go.pre (fun t k => castTop (ef_corb m b (0 : Int32) (Int32.ofNat ln)) k) ?_
  show Go p e below _ (s₁.setTop (mkF m 0 #[rv b, iv (0 : Int32), iv (Int32.ofNat ln), .unset, .unset] []))
  refine Go.pre (fun _ k => XS.iloadN X0.here hx rfl (hb hby d_jdk_65_method_133_0) rfl k) ?_
  show Go p e below _ (s₁.setTop (mkF m 1 #[rv b, iv (0 : Int32), iv (Int32.ofNat ln), .unset, .unset] [(.int (0 : Int32))]))
  refine Go.pre (fun _ k => XS.iloadN X0.here hx rfl (hb hby d_jdk_65_method_133_1) rfl k) ?_
  show Go p e below _ (s₁.setTop (mkF m 2 #[rv b, iv (0 : Int32), iv (Int32.ofNat ln), .unset, .unset] [(.int (Int32.ofNat ln)), (.int (0 : Int32))]))
  obtain ⟨_, _, ⟨T1, L1, k1, n1⟩, -, X1, ⟨Lc1, hQ1, l1, y1, z1⟩, st1⟩ := Jvm.LawKit.callS X0 hx (y := (⟨"java/util/Arrays", "checkLength", "(II)V"⟩ : MethodName)) hown (mvT hZ (hw _ (List.mem_of_getElem? (i := 172) rfl))) (mvT hZ (hw _ (List.mem_of_getElem? (i := 173) rfl))) (mvT hZ (hw _ (List.mem_of_getElem? (i := 167) rfl))) (mvT hZ (hw _ (List.mem_of_getElem? (i := 174) rfl))) (by decide) (backOf (W := 0) (rm_chk l Z a0 hw [] ln h0 n0 Z0 hln) hZ (hw _ (List.mem_of_getElem? (i := 174) rfl)) (hw _ (List.mem_of_getElem? (i := 167) rfl)) (by decide) (by decide)) (g := (mkF m 2 #[rv b, iv (0 : Int32), iv (Int32.ofNat ln), .unset, .unset] [(.int (Int32.ofNat ln)), (.int (0 : Int32))])) rfl (by rw [hml]; rfl) (argsL := [(.int (0 : Int32)), (.int (Int32.ofNat ln))]) (rest := []) (lenOf pd_11 rfl) rfl (by show 2 * 0 + _ ≤ _; exact Nat.le_of_eq rfl) (hb hby d_jdk_65_method_133_2) (fun _ _ => ⟨rfl, e0, (by decide : 0 + 0 ≤ _), (by decide : 0 + 0 ≤ _)⟩)
  dsimp only [Pt.U, Pt.locs, Pt.cells, Pt.slots] at X1 l1 y1 z1 st1 hQ1
  subst l1 y1 z1
  refine Go.pre st1 ?_
  obtain ⟨rfl, N1q, eh1⟩ := hQ1
  have N1 := Fr.app N0 N1q
  show Go p e below _ (T1.setTop (mkF m 5 #[rv b, iv (0 : Int32), iv (Int32.ofNat ln), .unset, .unset] []))
  refine Go.pre (fun _ k => XS.iloadN X1.here hx rfl (hb hby d_jdk_65_method_133_5) rfl k) ?_
  show Go p e below _ (T1.setTop (mkF m 6 #[rv b, iv (0 : Int32), iv (Int32.ofNat ln), .unset, .unset] [(.int (Int32.ofNat ln))]))
  refine Go.pre (fun _ k => XS.iloadN X1.here hx rfl (hb hby d_jdk_65_method_133_6) rfl k) ?_
  show Go p e below _ (T1.setTop (mkF m 7 #[rv b, iv (0 : Int32), iv (Int32.ofNat ln), .unset, .unset] [(.int (0 : Int32)), (.int (Int32.ofNat ln))]))
  refine Go.pre (fun _ k => XS.isub X1.here hx rfl (hb hby d_jdk_65_method_133_7) rfl k) ?_
  show Go p e below _ (T1.setTop (mkF m 8 #[rv b, iv (0 : Int32), iv (Int32.ofNat ln), .unset, .unset] [(.int ((Int32.ofNat ln) - (Int32.ofNat 0)))]))
  rw [own_osub (a := ln) (b := 0) (by omega)]
  show Go p e below _ (T1.setTop (mkF m 8 #[rv b, iv (0 : Int32), iv (Int32.ofNat ln), .unset, .unset] [(.int (Int32.ofNat ln))]))
  refine Go.pre (fun _ k => XS.istoreN X1.here hx rfl (hb hby d_jdk_65_method_133_8) rfl (l' := #[rv b, iv (0 : Int32), iv (Int32.ofNat ln), iv (Int32.ofNat ln), .unset]) rfl k) ?_
  show Go p e below _ (T1.setTop (mkF m 9 #[rv b, iv (0 : Int32), iv (Int32.ofNat ln), iv (Int32.ofNat ln), .unset] []))
  refine Go.pre (fun _ k => XS.iloadN X1.here hx rfl (hb hby d_jdk_65_method_133_9) rfl k) ?_
  show Go p e below _ (T1.setTop (mkF m 10 #[rv b, iv (0 : Int32), iv (Int32.ofNat ln), iv (Int32.ofNat ln), .unset] [(.int (Int32.ofNat ln))]))
  obtain ⟨T2, h2, k2, X2, e2, E2, A2, st2⟩ := newP X1 hx hZ (hw _ (List.mem_of_getElem? (i := 9) rfl)) eh1 (g := (mkF m 10 #[rv b, iv (0 : Int32), iv (Int32.ofNat ln), iv (Int32.ofNat ln), .unset] [(.int (Int32.ofNat ln))])) rfl (hb hby d_jdk_65_method_133_10) rfl (own_nn (by omega)) (cap := 16) (by rw [own_clamp (by omega)]; omega) (by decide) (by decide) (by decide)
  obtain ⟨b2, q2⟩ : ∃ z, z = h0.size := ⟨_, rfl⟩
  rw [← q2] at A2 st2
  have g_b2 : n0 ≤ b2 := Nat.le_trans Z0 (Nat.le_of_eq q2.symm)
  have sz_b2 : h0.size ≤ b2 := Nat.le_trans (Keep.refl h0 []).1 (Nat.le_of_eq q2.symm)
  have ne_b_b2 : b ≠ b2 := Nat.ne_of_lt (Nat.lt_of_lt_of_le tA.lt (Nat.le_of_eq q2.symm))
  have V2 := Arv.new A2 (own_nn (by omega))
  refine Go.pre st2 ?_
  have KC2 : Keep h0 h2 [] := (Keep.refl h0 []).ext E2
  have VP : Arv Z h2 b2 k2 .byte (Int32.ofNat ln) (List.replicate ln (.int 0)) (.int 0) := V2.pad (pad_rep [] (.int 0) ln)
  show Go p e below _ (T2.setTop (mkF m 12 #[rv b, iv (0 : Int32), iv (Int32.ofNat ln), iv (Int32.ofNat ln), .unset] [(.ref b2)]))
  refine Go.pre (fun _ k => XS.astore X2.here hx rfl (hb hby d_jdk_65_method_133_12) rfl rfl (l' := #[rv b, iv (0 : Int32), iv (Int32.ofNat ln), iv (Int32.ofNat ln), rv b2]) rfl k) ?_
  show Go p e below _ (T2.setTop (mkF m 14 #[rv b, iv (0 : Int32), iv (Int32.ofNat ln), iv (Int32.ofNat ln), rv b2] []))
  refine Go.pre (fun _ k => XS.aloadN X2.here hx rfl (hb hby d_jdk_65_method_133_14) rfl rfl k) ?_
  show Go p e below _ (T2.setTop (mkF m 15 #[rv b, iv (0 : Int32), iv (Int32.ofNat ln), iv (Int32.ofNat ln), rv b2] [(.ref b)]))
  refine Go.pre (fun _ k => XS.iloadN X2.here hx rfl (hb hby d_jdk_65_method_133_15) rfl k) ?_
  show Go p e below _ (T2.setTop (mkF m 16 #[rv b, iv (0 : Int32), iv (Int32.ofNat ln), iv (Int32.ofNat ln), rv b2] [(.int (0 : Int32)), (.ref b)]))
  refine Go.pre (fun _ k => XS.aload X2.here hx rfl (hb hby d_jdk_65_method_133_16) rfl rfl k) ?_
  show Go p e below _ (T2.setTop (mkF m 18 #[rv b, iv (0 : Int32), iv (Int32.ofNat ln), iv (Int32.ofNat ln), rv b2] [(.ref b2), (.int (0 : Int32)), (.ref b)]))
  refine Go.pre (fun _ k => XS.iconst X2.here hx rfl (hb hby d_jdk_65_method_133_18) k) ?_
  show Go p e below _ (T2.setTop (mkF m 19 #[rv b, iv (0 : Int32), iv (Int32.ofNat ln), iv (Int32.ofNat ln), rv b2] [(.int (0 : Int32)), (.ref b2), (.int (0 : Int32)), (.ref b)]))
  refine Go.pre (fun _ k => XS.aloadN X2.here hx rfl (hb hby d_jdk_65_method_133_19) rfl rfl k) ?_
  show Go p e below _ (T2.setTop (mkF m 20 #[rv b, iv (0 : Int32), iv (Int32.ofNat ln), iv (Int32.ofNat ln), rv b2] [(.ref b), (.int (0 : Int32)), (.ref b2), (.int (0 : Int32)), (.ref b)]))
  obtain ⟨cl3, Ar3, -, S3, N3z, -, -⟩ := id (tA.ext E2)
  refine Go.pre (X2.arraylength hx (by rw [e2]; exact Ar3.1) (State.isArrayOf_alike hZ.alike Ar3.2.1) (g := (mkF m 20 #[rv b, iv (0 : Int32), iv (Int32.ofNat ln), iv (Int32.ofNat ln), rv b2] [(.ref b), (.int (0 : Int32)), (.ref b2), (.int (0 : Int32)), (.ref b)])) rfl rfl (hb hby d_jdk_65_method_133_20)) ?_
  rw [len_of S3 N3z]
  show Go p e below _ (T2.setTop (mkF m 21 #[rv b, iv (0 : Int32), iv (Int32.ofNat ln), iv (Int32.ofNat ln), rv b2] [(.int (16 : Int32)), (.int (0 : Int32)), (.ref b2), (.int (0 : Int32)), (.ref b)]))
  refine Go.pre (fun _ k => XS.iloadN X2.here hx rfl (hb hby d_jdk_65_method_133_21) rfl k) ?_
  show Go p e below _ (T2.setTop (mkF m 22 #[rv b, iv (0 : Int32), iv (Int32.ofNat ln), iv (Int32.ofNat ln), rv b2] [(.int (0 : Int32)), (.int (16 : Int32)), (.int (0 : Int32)), (.ref b2), (.int (0 : Int32)), (.ref b)]))
  refine Go.pre (fun _ k => XS.isub X2.here hx rfl (hb hby d_jdk_65_method_133_22) rfl k) ?_
  show Go p e below _ (T2.setTop (mkF m 23 #[rv b, iv (0 : Int32), iv (Int32.ofNat ln), iv (Int32.ofNat ln), rv b2] [(.int (16 : Int32)), (.int (0 : Int32)), (.ref b2), (.int (0 : Int32)), (.ref b)]))
  refine Go.pre (fun _ k => XS.iloadN X2.here hx rfl (hb hby d_jdk_65_method_133_23) rfl k) ?_
  show Go p e below _ (T2.setTop (mkF m 24 #[rv b, iv (0 : Int32), iv (Int32.ofNat ln), iv (Int32.ofNat ln), rv b2] [(.int (Int32.ofNat ln)), (.int (16 : Int32)), (.int (0 : Int32)), (.ref b2), (.int (0 : Int32)), (.ref b)]))
  obtain ⟨_, _, ⟨T4, L4, k4, n4⟩, -, X4, ⟨Lc4, hQ4, l4, y4, z4⟩, st4⟩ := Jvm.LawKit.callS X2 hx (y := (⟨"java/lang/Math", "min", "(II)I"⟩ : MethodName)) hown (mvT hZ (hw _ (List.mem_of_getElem? (i := 175) rfl))) (mvT hZ (hw _ (List.mem_of_getElem? (i := 176) rfl))) (mvT hZ (hw _ (List.mem_of_getElem? (i := 177) rfl))) (mvT hZ (hw _ (List.mem_of_getElem? (i := 178) rfl))) (by decide) (backOf (W := 4) (rm_mmin l Z a0 hw [] ln h2 n0 (Nat.le_trans Z0 E2.1) hln) hZ (hw _ (List.mem_of_getElem? (i := 178) rfl)) (hw _ (List.mem_of_getElem? (i := 177) rfl)) (by decide) (by decide)) (g := (mkF m 24 #[rv b, iv (0 : Int32), iv (Int32.ofNat ln), iv (Int32.ofNat ln), rv b2] [(.int (Int32.ofNat ln)), (.int (16 : Int32)), (.int (0 : Int32)), (.ref b2), (.int (0 : Int32)), (.ref b)])) rfl (by rw [hml]; rfl) (argsL := [(.int (16 : Int32)), (.int (Int32.ofNat ln))]) (rest := [(.int (0 : Int32)), (.ref b2), (.int (0 : Int32)), (.ref b)]) (lenOf pd_12 rfl) rfl (by show 2 * 0 + _ ≤ _; exact Nat.le_of_eq rfl) (hb hby d_jdk_65_method_133_24) (fun _ _ => ⟨rfl, e2, (by decide : 1 + 0 ≤ _), (by decide : 16 + 0 ≤ _)⟩)
  dsimp only [Pt.U, Pt.locs, Pt.cells, Pt.slots] at X4 l4 y4 z4 st4 hQ4
  subst l4 y4 z4
  refine Go.pre st4 ?_
  obtain ⟨rfl, N4q, eh4⟩ := hQ4
  have N4 := Fr.app N1 N4q
  show Go p e below _ (T4.setTop (mkF m 27 #[rv b, iv (0 : Int32), iv (Int32.ofNat ln), iv (Int32.ofNat ln), rv b2] [(.int (Int32.ofNat ln)), (.int (0 : Int32)), (.ref b2), (.int (0 : Int32)), (.ref b)]))
  obtain ⟨T5, h5, L5, X5, e5, N5, K5, V5, st5⟩ := cpA X4 hx hZ hown (hw _ (List.mem_of_getElem? (i := 179) rfl)) (hw _ (List.mem_of_getElem? (i := 111) rfl)) (hw _ (List.mem_of_getElem? (i := 109) rfl)) (hw _ (List.mem_of_getElem? (i := 110) rfl)) eh4 (tA.ext E2) VP (Or.inl ⟨rfl, rfl⟩) (by decide) (by decide) (own_nn (by omega)) (by rw [own_clamp (by omega)]; show 0 + ln ≤ 16; omega) (by rw [own_clamp (by omega)]; show 0 + ln ≤ ln; omega) (us := (vs.take ln)) (by rw [own_clamp (by omega)]; exact (own_take vs (.int 0) ln (by omega)).symm) (by rw [own_clamp (by omega), List.length_replicate]; show 0 + ln ≤ ln; omega) N4 g_b2 (g := (mkF m 27 #[rv b, iv (0 : Int32), iv (Int32.ofNat ln), iv (Int32.ofNat ln), rv b2] [(.int (Int32.ofNat ln)), (.int (0 : Int32)), (.ref b2), (.int (0 : Int32)), (.ref b)])) rfl (by rw [hml]; rfl) (rest := []) rfl (hb hby d_jdk_65_method_133_27) (by decide) (W := 0) (by show 2 * 0 + _ ≤ _; exact Nat.le_of_eq rfl) (by decide)
  refine Go.pre st5 ?_
  have KC5 : Keep h0 h5 [] := KC2.trans K5 (allS (Or.inr sz_b2) all0)
  have V5 : Arv Z h5 b2 k2 .byte (Int32.ofNat ln) (vs.take ln) (.int 0) := (by have q := V5; rw [own_cp (by omega)] at q; exact q)
  show Go p e below _ (T5.setTop (mkF m 30 #[rv b, iv (0 : Int32), iv (Int32.ofNat ln), iv (Int32.ofNat ln), rv b2] []))
  refine Go.pre (fun _ k => XS.aload X5.here hx rfl (hb hby d_jdk_65_method_133_30) rfl rfl k) ?_
  show Go p e below _ (T5.setTop (mkF m 32 #[rv b, iv (0 : Int32), iv (Int32.ofNat ln), iv (Int32.ofNat ln), rv b2] [(.ref b2)]))
  obtain ⟨fs, hr, hrun, hended, hW, hsame⟩ := X5.leave (v := some (.ref b2)) (fun h => by rw [Bd.returns] at h; cases h)
  refine Go.fin (retOut X5 hx Bd.returns rfl (Or.inr (Or.inr (Or.inr (Or.inr ⟨rfl, rfl, rfl⟩)))) (hb hby d_jdk_65_method_133_32) hr) ⟨hrun, hended, _, _, rfl, ?_, ⟨_, rfl⟩, hW, hsame.mono (by decide) (by decide)⟩
  show Q_corb Z b kb vs ln h0 n0 _ T5.heap _
  rw [e5]
  exact ⟨b2, k2, rfl, N5, KC5, sz_b2, V5⟩

theorem ef_cor (m : MethodId) (x0 : Addr) (x1 : Int32) (x2 : Int32) : entryFrame m #[(.ref x0), (.int x1), (.int x2)] 3 = mkF m 0 #[rv x0, iv x1, iv x2] [] := by first | (simp [entryFrame, mkF, argsToLocals, Value.category]; done) | rfl
theorem pn_cor : plainName "java/util/Arrays" = true := by first | (simp [plainName, overriddenIn]; done) | decide +kernel
def Q_cor (Z : State) (b : Addr) (kb : ClassId) (vs : List Value) (ln : Nat) (h0 : Heap) (n0 : Nat) (v : Option Value) (h : Heap) (L : List Loc) : Prop := ∃ (r : Addr) (kr : ClassId), v = some (.ref r) ∧ Fr n0 L ∧ Keep h0 h [] ∧ h0.size ≤ r ∧ Arv Z h r kr .byte (Int32.ofNat ln) (vs.take ln) (.int 0)
set_option maxRecDepth 65536 in
set_option maxHeartbeats 40000000 in
theorem rm_cor (l : Launch) (Z : State) (a0 : Array Value) (hw : ∀ d ∈ tables_1, d.before a0 Z = true) (ws : List Jvm.Cond) (b : Addr) (kb : ClassId) (vs : List Value) (ln : Nat) (h0 : Heap) (n0 : Nat) (Z0 : n0 ≤ h0.size) (O : Old Z n0 h0) (tA : Arv Z h0 b kb .byte 16 vs (.int 0)) (hvs : vs.length = 16) (hln : ln < 16) :
    MetFree l (⟨"java/util/Arrays", "copyOfRange", "([BII)[B"⟩ : MethodName) (head1 (Jvm.Cond.code (⟨"java/util/Arrays", "copyOfRange", "([BII)[B"⟩ : MethodName) jdk_65_method_132_code 3 (some (.array .byte)) :: ws) ({ frames := 2, cells := 1, slots := 16, locals := 46 } : Room)) (fun as_ U => as_ = #[(.ref b), (.int (0 : Int32)), (.int (Int32.ofNat ln))] ∧ Z.Warmed39 U.vm ∧ U.heap = h0) (fun _ _ _ _ _ => True) (fun _ U o U' => ∃ v L, o = .returned v ∧ Q_cor Z b kb vs ln h0 n0 v U'.heap L ∧ FrameEnd U o U' L ({ frames := 2, cells := 1, slots := 16, locals := 46 } : Room).cells ({ frames := 2, cells := 1, slots := 16, locals := 46 } : Room).slots) := by
  refine MetFree.of_bodySF (plainFor_of_name pn_cor) hisR ?_
  intro p e s m args below meth c s₁ Bd hml0 hP hK
  obtain ⟨rfl, hZ, hh⟩ := hP
  have hx := Bd.exec
  have hby := Bd.bytes
  have hml : c.maxLocals = 3 := hml0
  have hown : s.vm.findClass "java/util/Arrays" = some m.cls := findClass_of_methodNamed Bd.named
  have hnm := (name_of_methodNamed Bd.named Bd.method).1
  have X0 : Stand p l e ({ frames := 2, cells := 1, slots := 16, locals := 46 } : Room) s m #[(.ref b), (.int (0 : Int32)), (.int (Int32.ofNat ln))] below meth c s₁ [] 0 0 := Stand.of_body Bd
  have e0 : s₁.heap = h0 := by rw [← hh, Bd.state]; rfl
  have N0 := Fr.nil n0
  refine Go.out ?_
  refine Go.pre (fun t k => castTop (ef_cor m b (0 : Int32) (Int32.ofNat ln)) k) ?_
  show Go p e below _ (s₁.setTop (mkF m 0 #[rv b, iv (0 : Int32), iv (Int32.ofNat ln)] []))
  refine Go.pre (fun _ k => XS.iloadN X0.here hx rfl (hb hby d_jdk_65_method_132_0) rfl k) ?_
  show Go p e below _ (s₁.setTop (mkF m 1 #[rv b, iv (0 : Int32), iv (Int32.ofNat ln)] [(.int (0 : Int32))]))
  refine Go.pre (fun _ k => XS.ifNo X0.here hx rfl (hb hby d_jdk_65_method_132_1) rfl ((if0 _ _).trans (teq (by decide : (0 : Int32) = (0 : Int32))).2) k) ?_
  show Go p e below _ (s₁.setTop (mkF m 4 #[rv b, iv (0 : Int32), iv (Int32.ofNat ln)] []))
  refine Go.pre (fun _ k => XS.iloadN X0.here hx rfl (hb hby d_jdk_65_method_132_4) rfl k) ?_
  show Go p e below _ (s₁.setTop (mkF m 5 #[rv b, iv (0 : Int32), iv (Int32.ofNat ln)] [(.int (Int32.ofNat ln))]))
  refine Go.pre (fun _ k => XS.aloadN X0.here hx rfl (hb hby d_jdk_65_method_132_5) rfl rfl k) ?_
  show Go p e below _ (s₁.setTop (mkF m 6 #[rv b, iv (0 : Int32), iv (Int32.ofNat ln)] [(.ref b), (.int (Int32.ofNat ln))]))
  obtain ⟨cl1, Ar1, -, S1, N1z, -, -⟩ := id tA
  refine Go.pre (X0.arraylength hx (by rw [e0]; exact Ar1.1) (State.isArrayOf_alike hZ.alike Ar1.2.1) (g := (mkF m 6 #[rv b, iv (0 : Int32), iv (Int32.ofNat ln)] [(.ref b), (.int (Int32.ofNat ln))])) rfl rfl (hb hby d_jdk_65_method_132_6)) ?_
  rw [len_of S1 N1z]
  show Go p e below _ (s₁.setTop (mkF m 7 #[rv b, iv (0 : Int32), iv (Int32.ofNat ln)] [(.int (16 : Int32)), (.int (Int32.ofNat ln))]))
  refine Go.pre (fun _ k => XS.icmpNo X0.here hx rfl (hb hby d_jdk_65_method_132_7) rfl (feq (fun q => absurd ((own_oe (a := ln) (b := 16) (by omega) (by omega)).mp q) (by omega))).1 k) ?_
  show Go p e below _ (s₁.setTop (mkF m 10 #[rv b, iv (0 : Int32), iv (Int32.ofNat ln)] []))
  refine Go.pre (fun _ k => XS.aloadN X0.here hx rfl (hb hby d_jdk_65_method_132_10) rfl rfl k) ?_
  show Go p e below _ (s₁.setTop (mkF m 11 #[rv b, iv (0 : Int32), iv (Int32.ofNat ln)] [(.ref b)]))
  refine Go.pre (fun _ k => XS.iloadN X0.here hx rfl (hb hby d_jdk_65_method_132_11) rfl k) ?_
  show Go p e below _ (s₁.setTop (mkF m 12 #[rv b, iv (0 : Int32), iv (Int32.ofNat ln)] [(.int (0 : Int32)), (.ref b)]))
  refine Go.pre (fun _ k => XS.iloadN X0.here hx rfl (hb hby d_jdk_65_method_132_12) rfl k) ?_
  show Go p e below _ (s₁.setTop (mkF m 13 #[rv b, iv (0 : Int32), iv (Int32.ofNat ln)] [(.int (Int32.ofNat ln)), (.int (0 : Int32)), (.ref b)]))
  obtain ⟨_, _, ⟨T2, L2, k2, n2⟩, -, X2, ⟨Lc2, hQ2, l2, y2, z2⟩, st2⟩ := Jvm.LawKit.callS X0 hx (y := (⟨"java/util/Arrays", "copyOfRangeByte", "([BII)[B"⟩ : MethodName)) hown (mvT hZ (hw _ (List.mem_of_getElem? (i := 169) rfl))) (mvT hZ (hw _ (List.mem_of_getElem? (i := 170) rfl))) (mvT hZ (hw _ (List.mem_of_getElem? (i := 167) rfl))) (mvT hZ (hw _ (List.mem_of_getElem? (i := 171) rfl))) (by decide) (backOf (W := 0) (rm_corb l Z a0 hw [] b kb vs ln h0 n0 Z0 O tA hvs hln) hZ (hw _ (List.mem_of_getElem? (i := 171) rfl)) (hw _ (List.mem_of_getElem? (i := 167) rfl)) (by decide) (by decide)) (g := (mkF m 13 #[rv b, iv (0 : Int32), iv (Int32.ofNat ln)] [(.int (Int32.ofNat ln)), (.int (0 : Int32)), (.ref b)])) rfl (by rw [hml]; rfl) (argsL := [(.ref b), (.int (0 : Int32)), (.int (Int32.ofNat ln))]) (rest := []) (lenOf pd_13 rfl) rfl (by show 2 * 0 + _ ≤ _; exact Nat.le_of_eq rfl) (hb hby d_jdk_65_method_132_13) (fun _ _ => ⟨rfl, e0, (by decide : 0 + 1 ≤ _), (by decide : 0 + 16 ≤ _)⟩)
  dsimp only [Pt.U, Pt.locs, Pt.cells, Pt.slots] at X2 l2 y2 z2 st2 hQ2
  subst l2 y2 z2
  refine Go.pre st2 ?_
  obtain ⟨r2, kr2, rfl, N2q, K2, z2', V2⟩ := hQ2
  have N2 := Fr.app N0 N2q
  have KC2 : Keep h0 T2.heap [] := (Keep.refl h0 []).trans K2 all0
  have g_r2 : n0 ≤ r2 := Nat.le_trans Z0 z2'
  have sz_r2 : h0.size ≤ r2 := Nat.le_trans (Keep.refl h0 []).1 z2'
  have ne_b_r2 : b ≠ r2 := Nat.ne_of_lt (Nat.lt_of_lt_of_le tA.lt z2')
  show Go p e below _ (T2.setTop (mkF m 16 #[rv b, iv (0 : Int32), iv (Int32.ofNat ln)] [(.ref r2)]))
  obtain ⟨fs, hr, hrun, hended, hW, hsame⟩ := X2.leave (v := some (.ref r2)) (fun h => by rw [Bd.returns] at h; cases h)
  refine Go.fin (retOut X2 hx Bd.returns rfl (Or.inr (Or.inr (Or.inr (Or.inr ⟨rfl, rfl, rfl⟩)))) (hb hby d_jdk_65_method_132_16) hr) ⟨hrun, hended, _, _, rfl, ?_, ⟨_, rfl⟩, hW, hsame.mono (by decide) (by decide)⟩
  show Q_cor Z b kb vs ln h0 n0 _ T2.heap _
  exact ⟨r2, kr2, rfl, N2, KC2, sz_r2, V2⟩

theorem ef_siA (m : MethodId) (x0 : Addr) (x1 : Addr) : entryFrame m #[(.ref x0), (.ref x1), .null] 5 = mkF m 0 #[rv x0, rv x1, .val .null, .unset, .unset] [] := by first | (simp [entryFrame, mkF, argsToLocals, Value.category]; done) | rfl
theorem pn_siA : plainName "java/lang/String" = true := by first | (simp [plainName, overriddenIn]; done) | decide +kernel
def Q_siA (Z : State) (ts : Addr) (a : Addr) (b : Addr) (kb : ClassId) (vs : List Value) (ln : Nat) (cs : Int32) (h0 : Heap) (n0 : Nat) (v : Option Value) (h : Heap) (L : List Loc) : Prop := v = none ∧ Fr n0 L ∧ Keep h0 h [ts] ∧ ∃ (r : Addr) (kr : ClassId), Str Z h ts r kr (Int32.ofNat ln) (vs.take ln)
set_option maxRecDepth 65536 in
set_option maxHeartbeats 40000000 in
theorem rm_siA (l : Launch) (Z : State) (a0 : Array Value) (hw : ∀ d ∈ tables_1, d.before a0 Z = true) (ws : List Jvm.Cond) (ts : Addr) (a : Addr) (b : Addr) (kb : ClassId) (vs : List Value) (ln : Nat) (cs : Int32) (h0 : Heap) (n0 : Nat) (Z0 : n0 ≤ h0.size) (O : Old Z n0 h0) (SC : Sta Z Z.heap "java/lang/String" "COMPACT_STRINGS" "Z" (.int cs)) (hcs : ¬ cs = (0 : Int32)) (pE : Exa Z h0 ts "java/lang/String") (pC : Fld Z h0 ts "java/lang/String" "coder" "B" (.int 0)) (pV : Fld Z h0 ts "java/lang/String" "value" "[B" .null) (gt : n0 ≤ ts) (BB : Bld Z h0 a b kb (Int32.ofNat ln) vs) (hvs : vs.length = 16) (hln : ln < 16) :
    MetFree l (⟨"java/lang/String", "<init>", "(Ljava/lang/AbstractStringBuilder;Ljava/lang/Void;)V"⟩ : MethodName) (head1 (Jvm.Cond.code (⟨"java/lang/String", "<init>", "(Ljava/lang/AbstractStringBuilder;Ljava/lang/Void;)V"⟩ : MethodName) jdk_42_method_150_code 5 none :: ws) ({ frames := 3, cells := 1, slots := 16, locals := 61 } : Room)) (fun as_ U => as_ = #[(.ref ts), (.ref a), .null] ∧ Z.Warmed39 U.vm ∧ U.heap = h0) (fun _ _ _ _ _ => True) (fun _ U o U' => ∃ v L, o = .returned v ∧ Q_siA Z ts a b kb vs ln cs h0 n0 v U'.heap L ∧ FrameEnd U o U' L ({ frames := 3, cells := 1, slots := 16, locals := 61 } : Room).cells ({ frames := 3, cells := 1, slots := 16, locals := 61 } : Room).slots) := by
  refine MetFree.of_bodySF (plainFor_of_name pn_siA) hisR ?_
  intro p e s m args below meth c s₁ Bd hml0 hP hK
  obtain ⟨rfl, hZ, hh⟩ := hP
  have hx := Bd.exec
  have hby := Bd.bytes
  have hml : c.maxLocals = 5 := hml0
  have hown : s.vm.findClass "java/lang/String" = some m.cls := findClass_of_methodNamed Bd.named
  have hnm := (name_of_methodNamed Bd.named Bd.method).1
  have X0 : Stand p l e ({ frames := 3, cells := 1, slots := 16, locals := 61 } : Room) s m #[(.ref ts), (.ref a), .null] below meth c s₁ [] 0 0 := Stand.of_body Bd
  have e0 : s₁.heap = h0 := by rw [← hh, Bd.state]; rfl
  have N0 := Fr.nil n0
  refine Go.out ?_
  refine Go.pre (fun t k => castTop (ef_siA m ts a) k) ?_
  obtain ⟨tE, tC, tV, tN, tA⟩ := BB
  have neab : a ≠ b := Exa.neArv tE tA (hw _ (List.mem_of_getElem? (i := 44) rfl))
  have neta : ts ≠ a := Exa.ne pE tE (by decide)
  have netb : ts ≠ b := Exa.neArv pE tA (hw _ (List.mem_of_getElem? (i := 8) rfl))
  show Go p e below _ (s₁.setTop (mkF m 0 #[rv ts, rv a, .val .null, .unset, .unset] []))
  refine Go.pre (fun _ k => XS.aloadN X0.here hx rfl (hb hby d_jdk_42_method_150_0) rfl rfl k) ?_
  show Go p e below _ (s₁.setTop (mkF m 1 #[rv ts, rv a, .val .null, .unset, .unset] [(.ref ts)]))
  obtain ⟨T1, X1, e1, st1⟩ := initO X0 hx hZ hown (hw _ (List.mem_of_getElem? (i := 150) rfl)) (hw _ (List.mem_of_getElem? (i := 18) rfl)) (hw _ (List.mem_of_getElem? (i := 19) rfl)) e0 (g := (mkF m 1 #[rv ts, rv a, .val .null, .unset, .unset] [(.ref ts)])) rfl (by rw [hml]; rfl) rfl (hb hby d_jdk_42_method_150_1) (by decide) (W := 0) (by show 2 * 0 + _ ≤ _; exact Nat.le_of_eq rfl) (by decide)
  refine Go.pre st1 ?_
  show Go p e below _ (T1.setTop (mkF m 4 #[rv ts, rv a, .val .null, .unset, .unset] []))
  refine Go.pre (fun _ k => XS.aloadN X1.here hx rfl (hb hby d_jdk_42_method_150_4) rfl rfl k) ?_
  show Go p e below _ (T1.setTop (mkF m 5 #[rv ts, rv a, .val .null, .unset, .unset] [(.ref a)]))
  obtain ⟨cq2, kq2, q2a, q2b, q2c⟩ := isOf hZ e1 tE
  obtain ⟨_, _, ⟨T2, L2, k2, n2⟩, -, X2, ⟨Lc2, hQ2, l2, y2, z2⟩, st2⟩ := X1.virtualBack hx (y := (⟨"java/lang/AbstractStringBuilder", "getValue", "()[B"⟩ : MethodName)) (z := (⟨"java/lang/AbstractStringBuilder", "getValue", "()[B"⟩ : MethodName)) hown (mvT hZ (hw _ (List.mem_of_getElem? (i := 151) rfl))) (mvT hZ (hw _ (List.mem_of_getElem? (i := 152) rfl))) (notFace_of_selects (args := #[]) (mvT hZ (hw _ (List.mem_of_getElem? (i := 154) rfl)))) (mvT hZ (hw _ (List.mem_of_getElem? (i := 154) rfl))) (mvT hZ (hw _ (List.mem_of_getElem? (i := 153) rfl))) (by decide) (backOf (W := 0) (rm_gv l Z a0 hw [] a b kb (Int32.ofNat ln) vs h0 n0 Z0 O ⟨tE, tC, tV, tN, tA⟩) hZ (hw _ (List.mem_of_getElem? (i := 155) rfl)) (hw _ (List.mem_of_getElem? (i := 53) rfl)) (by decide) (by decide)) q2a q2c (g := (mkF m 5 #[rv ts, rv a, .val .null, .unset, .unset] [(.ref a)])) rfl (by rw [hml]; rfl) (Steps.refl _) (argsL := []) (rest := []) (lenOf pd_14 rfl) rfl (by show 2 * 0 + _ ≤ _; exact Nat.le_of_eq rfl) (hb hby d_jdk_42_method_150_5) (fun _ _ => ⟨rfl, e1, (by decide : 0 + 0 ≤ _), (by decide : 0 + 0 ≤ _)⟩)
  dsimp only [Pt.U, Pt.locs, Pt.cells, Pt.slots] at X2 l2 y2 z2 st2 hQ2
  subst l2 y2 z2
  refine Go.pre (own_cut st2) ?_
  obtain ⟨rfl, N2q, eh2⟩ := hQ2
  have N2 := Fr.app N0 N2q
  show Go p e below _ (T2.setTop (mkF m 8 #[rv ts, rv a, .val .null, .unset, .unset] [(.ref b)]))
  refine Go.pre (fun _ k => XS.astoreN X2.here hx rfl (hb hby d_jdk_42_method_150_8) rfl rfl (l' := #[rv ts, rv a, .val .null, rv b, .unset]) rfl k) ?_
  show Go p e below _ (T2.setTop (mkF m 9 #[rv ts, rv a, .val .null, rv b, .unset] []))
  refine Go.pre (fun _ k => XS.aloadN X2.here hx rfl (hb hby d_jdk_42_method_150_9) rfl rfl k) ?_
  show Go p e below _ (T2.setTop (mkF m 10 #[rv ts, rv a, .val .null, rv b, .unset] [(.ref a)]))
  obtain ⟨cq3, kq3, q3a, q3b, q3c⟩ := isOf hZ eh2 tE
  obtain ⟨_, _, ⟨T3, L3, k3, n3⟩, -, X3, ⟨Lc3, hQ3, l3, y3, z3⟩, st3⟩ := X2.virtualBack hx (y := (⟨"java/lang/AbstractStringBuilder", "length", "()I"⟩ : MethodName)) (z := (⟨"java/lang/StringBuilder", "length", "()I"⟩ : MethodName)) hown (mvT hZ (hw _ (List.mem_of_getElem? (i := 156) rfl))) (mvT hZ (hw _ (List.mem_of_getElem? (i := 157) rfl))) (own_nf (y := (⟨"java/lang/AbstractStringBuilder", "length", "()I"⟩ : MethodName)) (notFace_of_selects (args := #[]) (y := (⟨"java/lang/AbstractStringBuilder", "getValue", "()[B"⟩ : MethodName)) (mvT hZ (hw _ (List.mem_of_getElem? (i := 154) rfl)))) rfl (Cond.code_named (args := #[]) (mvT hZ (hw _ (List.mem_of_getElem? (i := 155) rfl))))) (mvT hZ (hw _ (List.mem_of_getElem? (i := 159) rfl))) (mvT hZ (hw _ (List.mem_of_getElem? (i := 160) rfl))) (by decide) (backOf (W := 0) (rm_slen l Z a0 hw [] a b kb (Int32.ofNat ln) vs h0 n0 Z0 O ⟨tE, tC, tV, tN, tA⟩) hZ (hw _ (List.mem_of_getElem? (i := 161) rfl)) (hw _ (List.mem_of_getElem? (i := 45) rfl)) (by decide) (by decide)) q3a q3c (g := (mkF m 10 #[rv ts, rv a, .val .null, rv b, .unset] [(.ref a)])) rfl (by rw [hml]; rfl) (Steps.refl _) (argsL := []) (rest := []) (lenOf pd_1 rfl) rfl (by show 2 * 0 + _ ≤ _; exact Nat.le_of_eq rfl) (hb hby d_jdk_42_method_150_10) (fun _ _ => ⟨rfl, eh2, (by decide : 0 + 0 ≤ _), (by decide : 0 + 0 ≤ _)⟩)
  dsimp only [Pt.U, Pt.locs, Pt.cells, Pt.slots] at X3 l3 y3 z3 st3 hQ3
  subst l3 y3 z3
  refine Go.pre (own_cut st3) ?_
  obtain ⟨rfl, N3q, eh3⟩ := hQ3
  have N3 := Fr.app N2 N3q
  show Go p e below _ (T3.setTop (mkF m 13 #[rv ts, rv a, .val .null, rv b, .unset] [(.int (Int32.ofNat ln))]))
  refine Go.pre (fun _ k => XS.istore X3.here hx rfl (hb hby d_jdk_42_method_150_13) rfl (l' := #[rv ts, rv a, .val .null, rv b, iv (Int32.ofNat ln)]) rfl k) ?_
  show Go p e below _ (T3.setTop (mkF m 15 #[rv ts, rv a, .val .null, rv b, iv (Int32.ofNat ln)] []))
  refine Go.pre (fun _ k => XS.aloadN X3.here hx rfl (hb hby d_jdk_42_method_150_15) rfl rfl k) ?_
  show Go p e below _ (T3.setTop (mkF m 16 #[rv ts, rv a, .val .null, rv b, iv (Int32.ofNat ln)] [(.ref a)]))
  obtain ⟨cq4, kq4, q4a, q4b, q4c⟩ := isOf hZ eh3 tE
  obtain ⟨_, _, ⟨T4, L4, k4, n4⟩, -, X4, ⟨Lc4, hQ4, l4, y4, z4⟩, st4⟩ := X3.virtualBack hx (y := (⟨"java/lang/AbstractStringBuilder", "isLatin1", "()Z"⟩ : MethodName)) (z := (⟨"java/lang/AbstractStringBuilder", "isLatin1", "()Z"⟩ : MethodName)) hown (mvT hZ (hw _ (List.mem_of_getElem? (i := 164) rfl))) (mvT hZ (hw _ (List.mem_of_getElem? (i := 127) rfl))) (notFace_of_selects (args := #[]) (mvT hZ (hw _ (List.mem_of_getElem? (i := 129) rfl)))) (mvT hZ (hw _ (List.mem_of_getElem? (i := 129) rfl))) (mvT hZ (hw _ (List.mem_of_getElem? (i := 128) rfl))) (by decide) (backOf (W := 0) (rm_isl l Z a0 hw [] a b kb (Int32.ofNat ln) vs cs h0 n0 Z0 O SC hcs ⟨tE, tC, tV, tN, tA⟩) hZ (hw _ (List.mem_of_getElem? (i := 130) rfl)) (hw _ (List.mem_of_getElem? (i := 53) rfl)) (by decide) (by decide)) q4a q4c (g := (mkF m 16 #[rv ts, rv a, .val .null, rv b, iv (Int32.ofNat ln)] [(.ref a)])) rfl (by rw [hml]; rfl) (Steps.refl _) (argsL := []) (rest := []) (lenOf pd_8 rfl) rfl (by show 2 * 0 + _ ≤ _; exact Nat.le_of_eq rfl) (hb hby d_jdk_42_method_150_16) (fun _ _ => ⟨rfl, eh3, (by decide : 0 + 0 ≤ _), (by decide : 0 + 0 ≤ _)⟩)
  dsimp only [Pt.U, Pt.locs, Pt.cells, Pt.slots] at X4 l4 y4 z4 st4 hQ4
  subst l4 y4 z4
  refine Go.pre (own_cut st4) ?_
  obtain ⟨rfl, N4q, eh4⟩ := hQ4
  have N4 := Fr.app N3 N4q
  show Go p e below _ (T4.setTop (mkF m 19 #[rv ts, rv a, .val .null, rv b, iv (Int32.ofNat ln)] [(.int (1 : Int32))]))
  refine Go.pre (fun _ k => XS.ifNo X4.here hx rfl (hb hby d_jdk_42_method_150_19) rfl ((if0 _ _).trans (feq (by decide : ¬ ((1 : Int32) = (0 : Int32)))).1) k) ?_
  show Go p e below _ (T4.setTop (mkF m 22 #[rv ts, rv a, .val .null, rv b, iv (Int32.ofNat ln)] []))
  refine Go.pre (fun _ k => XS.aloadN X4.here hx rfl (hb hby d_jdk_42_method_150_22) rfl rfl k) ?_
  show Go p e below _ (T4.setTop (mkF m 23 #[rv ts, rv a, .val .null, rv b, iv (Int32.ofNat ln)] [(.ref ts)]))
  refine Go.pre (fun _ k => XS.iconst X4.here hx rfl (hb hby d_jdk_42_method_150_23) k) ?_
  show Go p e below _ (T4.setTop (mkF m 24 #[rv ts, rv a, .val .null, rv b, iv (Int32.ofNat ln)] [(.int (0 : Int32)), (.ref ts)]))
  obtain ⟨T5, h5, X5, e5, W5, st5⟩ := putFN X4 hx hZ hown (hw _ (List.mem_of_getElem? (i := 84) rfl)) Via.refl eh4 pC pE (Or.inr ⟨(hw _ (List.mem_of_getElem? (i := 11) rfl)), rfl, hnm⟩) (hw _ (List.mem_of_getElem? (i := 8) rfl)) (ty := .byte) (v' := (.int (0 : Int32))) (by decide) rfl rfl (g := (mkF m 24 #[rv ts, rv a, .val .null, rv b, iv (Int32.ofNat ln)] [(.int (0 : Int32)), (.ref ts)])) rfl rfl (hb hby d_jdk_42_method_150_24)
  have F5 := pC.same W5
  have N5 := Fr.snoc X5 N4 gt
  refine Go.pre st5 ?_
  have KC5 : Keep h0 h5 [ts] := (Keep.refl h0 [ts]).wr W5 (Or.inl (List.mem_of_getElem? (i := 0) rfl))
  show Go p e below _ (T5.setTop (mkF m 27 #[rv ts, rv a, .val .null, rv b, iv (Int32.ofNat ln)] []))
  refine Go.pre (fun _ k => XS.aloadN X5.here hx rfl (hb hby d_jdk_42_method_150_27) rfl rfl k) ?_
  show Go p e below _ (T5.setTop (mkF m 28 #[rv ts, rv a, .val .null, rv b, iv (Int32.ofNat ln)] [(.ref ts)]))
  refine Go.pre (fun _ k => XS.aloadN X5.here hx rfl (hb hby d_jdk_42_method_150_28) rfl rfl k) ?_
  show Go p e below _ (T5.setTop (mkF m 29 #[rv ts, rv a, .val .null, rv b, iv (Int32.ofNat ln)] [(.ref b), (.ref ts)]))
  refine Go.pre (fun _ k => XS.iconst X5.here hx rfl (hb hby d_jdk_42_method_150_29) k) ?_
  show Go p e below _ (T5.setTop (mkF m 30 #[rv ts, rv a, .val .null, rv b, iv (Int32.ofNat ln)] [(.int (0 : Int32)), (.ref b), (.ref ts)]))
  refine Go.pre (fun _ k => XS.iload X5.here hx rfl (hb hby d_jdk_42_method_150_30) rfl k) ?_
  show Go p e below _ (T5.setTop (mkF m 32 #[rv ts, rv a, .val .null, rv b, iv (Int32.ofNat ln)] [(.int (Int32.ofNat ln)), (.int (0 : Int32)), (.ref b), (.ref ts)]))
  obtain ⟨_, _, ⟨T6, L6, k6, n6⟩, -, X6, ⟨Lc6, hQ6, l6, y6, z6⟩, st6⟩ := Jvm.LawKit.callS X5 hx (y := (⟨"java/util/Arrays", "copyOfRange", "([BII)[B"⟩ : MethodName)) hown (mvT hZ (hw _ (List.mem_of_getElem? (i := 165) rfl))) (mvT hZ (hw _ (List.mem_of_getElem? (i := 166) rfl))) (mvT hZ (hw _ (List.mem_of_getElem? (i := 167) rfl))) (mvT hZ (hw _ (List.mem_of_getElem? (i := 168) rfl))) (by decide) (backOf (W := 1) (rm_cor l Z a0 hw [] b kb vs ln h5 n0 (Nat.le_trans Z0 (Keep.of_wr W5).1) (O.wr W5 gt) (tA.other W5 (Ne.symm netb)) hvs hln) hZ (hw _ (List.mem_of_getElem? (i := 168) rfl)) (hw _ (List.mem_of_getElem? (i := 167) rfl)) (by decide) (by decide)) (g := (mkF m 32 #[rv ts, rv a, .val .null, rv b, iv (Int32.ofNat ln)] [(.int (Int32.ofNat ln)), (.int (0 : Int32)), (.ref b), (.ref ts)])) rfl (by rw [hml]; rfl) (argsL := [(.ref b), (.int (0 : Int32)), (.int (Int32.ofNat ln))]) (rest := [(.ref ts)]) (lenOf pd_13 rfl) rfl (by show 2 * 0 + _ ≤ _; exact Nat.le_of_eq rfl) (hb hby d_jdk_42_method_150_32) (fun _ _ => ⟨rfl, e5, (by decide : 0 + 1 ≤ _), (by decide : 0 + 16 ≤ _)⟩)
  dsimp only [Pt.U, Pt.locs, Pt.cells, Pt.slots] at X6 l6 y6 z6 st6 hQ6
  subst l6 y6 z6
  refine Go.pre st6 ?_
  obtain ⟨r6, kr6, rfl, N6q, K6, z6', V6⟩ := hQ6
  have N6 := Fr.app N5 N6q
  have KC6 : Keep h0 T6.heap [ts] := KC5.trans K6 all0
  have g_r6 : n0 ≤ r6 := Nat.le_trans (Nat.le_trans Z0 (Keep.of_wr W5).1) z6'
  have sz_r6 : h0.size ≤ r6 := Nat.le_trans KC5.1 z6'
  have ne_a_r6 : a ≠ r6 := Nat.ne_of_lt (Nat.lt_of_lt_of_le (tE.wr W5).lt z6')
  have ne_b_r6 : b ≠ r6 := Nat.ne_of_lt (Nat.lt_of_lt_of_le (tA.other W5 (Ne.symm netb)).lt z6')
  have ne_ts_r6 : ts ≠ r6 := Nat.ne_of_lt (Nat.lt_of_lt_of_le (pE.wr W5).lt z6')
  show Go p e below _ (T6.setTop (mkF m 35 #[rv ts, rv a, .val .null, rv b, iv (Int32.ofNat ln)] [(.ref r6), (.ref ts)]))
  obtain ⟨T7, h7, X7, e7, W7, st7⟩ := putF X6 hx hZ hown (host := "") (Or.inl (hw _ (List.mem_of_getElem? (i := 77) rfl))) Via.refl rfl ((pV.other W5 (Or.inr (slot_ne (Or.inr (hw _ (List.mem_of_getElem? (i := 10) rfl))) (Or.inr (hw _ (List.mem_of_getElem? (i := 11) rfl))) (by decide) (t := (.array .byte)) (t' := .byte) (by decide) (by decide)))).keep K6 nin0) ((pE.wr W5).keep K6) (Or.inr ⟨(hw _ (List.mem_of_getElem? (i := 10) rfl)), rfl, hnm⟩) (hw _ (List.mem_of_getElem? (i := 8) rfl)) (ty := (.array .byte)) (by decide) rfl rfl (g := (mkF m 35 #[rv ts, rv a, .val .null, rv b, iv (Int32.ofNat ln)] [(.ref r6), (.ref ts)])) rfl rfl (hb hby d_jdk_42_method_150_35)
  have F7 := ((pV.other W5 (Or.inr (slot_ne (Or.inr (hw _ (List.mem_of_getElem? (i := 10) rfl))) (Or.inr (hw _ (List.mem_of_getElem? (i := 11) rfl))) (by decide) (t := (.array .byte)) (t' := .byte) (by decide) (by decide)))).keep K6 nin0).same W7
  have N7 := Fr.snoc X7 N6 gt
  refine Go.pre st7 ?_
  have KC7 : Keep h0 h7 [ts] := KC6.wr W7 (Or.inl (List.mem_of_getElem? (i := 0) rfl))
  show Go p e below _ (T7.setTop (mkF m 38 #[rv ts, rv a, .val .null, rv b, iv (Int32.ofNat ln)] []))
  refine Go.pre (fun _ k => XS.goto X7.here hx rfl (pc0 := 38) (pc' := 97) rfl (hb hby d_jdk_42_method_150_38) (by decide) (by decide) k) ?_
  show Go p e below _ (T7.setTop (mkF m 97 #[rv ts, rv a, .val .null, rv b, iv (Int32.ofNat ln)] []))
  obtain ⟨fs, hr, hrun, hended, hW, hsame⟩ := X7.leave (v := none) (fun _ => rfl)
  refine Go.fin (X7.returnOut hx Bd.returns (hb hby d_jdk_42_method_150_97) hr) ⟨hrun, hended, _, _, rfl, ?_, ⟨_, rfl⟩, hW, hsame.mono (by decide) (by decide)⟩
  show Q_siA Z ts a b kb vs ln cs h0 n0 _ T7.heap _
  rw [e7]
  exact ⟨rfl, N7, KC7, r6, kr6, ⟨(((pE.wr W5).keep K6).wr W7), ((F5.keep K6 nin0).other W7 (Or.inr (slot_ne (Or.inr (hw _ (List.mem_of_getElem? (i := 11) rfl))) (Or.inr (hw _ (List.mem_of_getElem? (i := 10) rfl))) (by decide) (t := .byte) (t' := (.array .byte)) (by decide) (by decide)))), F7, (V6.other W7 (Ne.symm ne_ts_r6))⟩⟩

theorem ef_siB (m : MethodId) (x0 : Addr) (x1 : Addr) : entryFrame m #[(.ref x0), (.ref x1)] 2 = mkF m 0 #[rv x0, rv x1] [] := by first | (simp [entryFrame, mkF, argsToLocals, Value.category]; done) | rfl
theorem pn_siB : plainName "java/lang/String" = true := by first | (simp [plainName, overriddenIn]; done) | decide +kernel
def Q_siB (Z : State) (ts : Addr) (a : Addr) (b : Addr) (kb : ClassId) (vs : List Value) (ln : Nat) (cs : Int32) (h0 : Heap) (n0 : Nat) (v : Option Value) (h : Heap) (L : List Loc) : Prop := v = none ∧ Fr n0 L ∧ Keep h0 h [ts] ∧ ∃ (r : Addr) (kr : ClassId), Str Z h ts r kr (Int32.ofNat ln) (vs.take ln)
set_option maxRecDepth 65536 in
set_option maxHeartbeats 40000000 in
theorem rm_siB (l : Launch) (Z : State) (a0 : Array Value) (hw : ∀ d ∈ tables_1, d.before a0 Z = true) (ws : List Jvm.Cond) (ts : Addr) (a : Addr) (b : Addr) (kb : ClassId) (vs : List Value) (ln : Nat) (cs : Int32) (h0 : Heap) (n0 : Nat) (Z0 : n0 ≤ h0.size) (O : Old Z n0 h0) (SC : Sta Z Z.heap "java/lang/String" "COMPACT_STRINGS" "Z" (.int cs)) (hcs : ¬ cs = (0 : Int32)) (pE : Exa Z h0 ts "java/lang/String") (pC : Fld Z h0 ts "java/lang/String" "coder" "B" (.int 0)) (pV : Fld Z h0 ts "java/lang/String" "value" "[B" .null) (gt : n0 ≤ ts) (BB : Bld Z h0 a b kb (Int32.ofNat ln) vs) (hvs : vs.length = 16) (hln : ln < 16) :
    MetFree l (⟨"java/lang/String", "<init>", "(Ljava/lang/StringBuilder;)V"⟩ : MethodName) (head1 (Jvm.Cond.code (⟨"java/lang/String", "<init>", "(Ljava/lang/StringBuilder;)V"⟩ : MethodName) jdk_42_method_53_code 2 none :: ws) ({ frames := 4, cells := 1, slots := 16, locals := 77 } : Room)) (fun as_ U => as_ = #[(.ref ts), (.ref a)] ∧ Z.Warmed39 U.vm ∧ U.heap = h0) (fun _ _ _ _ _ => True) (fun _ U o U' => ∃ v L, o = .returned v ∧ Q_siB Z ts a b kb vs ln cs h0 n0 v U'.heap L ∧ FrameEnd U o U' L ({ frames := 4, cells := 1, slots := 16, locals := 77 } : Room).cells ({ frames := 4, cells := 1, slots := 16, locals := 77 } : Room).slots) := by
  refine MetFree.of_bodySF (plainFor_of_name pn_siB) hisR ?_
  intro p e s m args below meth c s₁ Bd hml0 hP hK
  obtain ⟨rfl, hZ, hh⟩ := hP
  have hx := Bd.exec
  have hby := Bd.bytes
  have hml : c.maxLocals = 2 := hml0
  have hown : s.vm.findClass "java/lang/String" = some m.cls := findClass_of_methodNamed Bd.named
  have hnm := (name_of_methodNamed Bd.named Bd.method).1
  have X0 : Stand p l e ({ frames := 4, cells := 1, slots := 16, locals := 77 } : Room) s m #[(.ref ts), (.ref a)] below meth c s₁ [] 0 0 := Stand.of_body Bd
  have e0 : s₁.heap = h0 := by rw [← hh, Bd.state]; rfl
  have N0 := Fr.nil n0
  refine Go.out ?_
  refine Go.pre (fun t k => castTop (ef_siB m ts a) k) ?_
  obtain ⟨tE, tC, tV, tN, tA⟩ := BB
  have neab : a ≠ b := Exa.neArv tE tA (hw _ (List.mem_of_getElem? (i := 44) rfl))
  have neta : ts ≠ a := Exa.ne pE tE (by decide)
  have netb : ts ≠ b := Exa.neArv pE tA (hw _ (List.mem_of_getElem? (i := 8) rfl))
  show Go p e below _ (s₁.setTop (mkF m 0 #[rv ts, rv a] []))
  refine Go.pre (fun _ k => XS.aloadN X0.here hx rfl (hb hby d_jdk_42_method_53_0) rfl rfl k) ?_
  show Go p e below _ (s₁.setTop (mkF m 1 #[rv ts, rv a] [(.ref ts)]))
  refine Go.pre (fun _ k => XS.aloadN X0.here hx rfl (hb hby d_jdk_42_method_53_1) rfl rfl k) ?_
  show Go p e below _ (s₁.setTop (mkF m 2 #[rv ts, rv a] [(.ref a), (.ref ts)]))
  refine Go.pre (fun _ k => XS.aconstNull X0.here hx rfl (hb hby d_jdk_42_method_53_2) k) ?_
  show Go p e below _ (s₁.setTop (mkF m 3 #[rv ts, rv a] [.null, (.ref a), (.ref ts)]))
  obtain ⟨_, _, ⟨T1, L1, k1, n1⟩, -, X1, ⟨Lc1, hQ1, l1, y1, z1⟩, st1⟩ := X0.specialBack hx (y := (⟨"java/lang/String", "<init>", "(Ljava/lang/AbstractStringBuilder;Ljava/lang/Void;)V"⟩ : MethodName)) rfl hown (mvT hZ (hw _ (List.mem_of_getElem? (i := 147) rfl))) (mvT hZ (hw _ (List.mem_of_getElem? (i := 148) rfl))) (mvT hZ (hw _ (List.mem_of_getElem? (i := 149) rfl))) (by decide) (backOf (W := 0) (rm_siA l Z a0 hw [] ts a b kb vs ln cs h0 n0 Z0 O SC hcs pE pC pV gt ⟨tE, tC, tV, tN, tA⟩ hvs hln) hZ (hw _ (List.mem_of_getElem? (i := 149) rfl)) (hw _ (List.mem_of_getElem? (i := 7) rfl)) (by decide) (by decide)) (g := (mkF m 3 #[rv ts, rv a] [.null, (.ref a), (.ref ts)])) rfl (by rw [hml]; rfl) (Steps.refl _) (a := ts) (argsL := [(.ref a), .null]) (rest := []) (lenOf pd_15 rfl) rfl (by show 2 * 0 + _ ≤ _; exact Nat.le_of_eq rfl) (hb hby d_jdk_42_method_53_3) (fun _ _ => ⟨rfl, e0, (by decide : 0 + 1 ≤ _), (by decide : 0 + 16 ≤ _)⟩)
  dsimp only [Pt.U, Pt.locs, Pt.cells, Pt.slots] at X1 l1 y1 z1 st1 hQ1
  subst l1 y1 z1
  refine Go.pre (own_cut st1) ?_
  obtain ⟨rfl, N1q, K1, r1, kr1, S1⟩ := hQ1
  have N1 := Fr.app N0 N1q
  have KC1 : Keep h0 T1.heap [ts] := (Keep.refl h0 [ts]).trans K1 (allS (Or.inl (List.mem_of_getElem? (i := 0) rfl)) all0)
  obtain ⟨uE1, uC1, uV1, uA1⟩ := S1
  show Go p e below _ (T1.setTop (mkF m 6 #[rv ts, rv a] []))
  obtain ⟨fs, hr, hrun, hended, hW, hsame⟩ := X1.leave (v := none) (fun _ => rfl)
  refine Go.fin (X1.returnOut hx Bd.returns (hb hby d_jdk_42_method_53_6) hr) ⟨hrun, hended, _, _, rfl, ?_, ⟨_, rfl⟩, hW, hsame.mono (by decide) (by decide)⟩
  show Q_siB Z ts a b kb vs ln cs h0 n0 _ T1.heap _
  exact ⟨rfl, N1, KC1, r1, kr1, ⟨uE1, uC1, uV1, uA1⟩⟩

theorem ef_tos (m : MethodId) (x0 : Addr) : entryFrame m #[(.ref x0)] 1 = mkF m 0 #[rv x0] [] := by first | (simp [entryFrame, mkF, argsToLocals, Value.category]; done) | rfl
theorem pn_tos : plainName "java/lang/StringBuilder" = true := by first | (simp [plainName, overriddenIn]; done) | decide +kernel
def Q_tos (Z : State) (a : Addr) (b : Addr) (kb : ClassId) (vs : List Value) (ln : Nat) (cs : Int32) (h0 : Heap) (n0 : Nat) (v : Option Value) (h : Heap) (L : List Loc) : Prop := ∃ (ts r : Addr) (kr : ClassId), v = some (.ref ts) ∧ Fr n0 L ∧ Keep h0 h [] ∧ h0.size ≤ ts ∧ Str Z h ts r kr (Int32.ofNat ln) (vs.take ln)
set_option maxRecDepth 65536 in
set_option maxHeartbeats 40000000 in
theorem rm_tos (l : Launch) (Z : State) (a0 : Array Value) (hw : ∀ d ∈ tables_1, d.before a0 Z = true) (ws : List Jvm.Cond) (a : Addr) (b : Addr) (kb : ClassId) (vs : List Value) (ln : Nat) (cs : Int32) (h0 : Heap) (n0 : Nat) (Z0 : n0 ≤ h0.size) (O : Old Z n0 h0) (SC : Sta Z Z.heap "java/lang/String" "COMPACT_STRINGS" "Z" (.int cs)) (hcs : ¬ cs = (0 : Int32)) (BB : Bld Z h0 a b kb (Int32.ofNat ln) vs) (hvs : vs.length = 16) (hln : ln < 16) :
    MetFree l (⟨"java/lang/StringBuilder", "toString", "()Ljava/lang/String;"⟩ : MethodName) (head1 (Jvm.Cond.code (⟨"java/lang/StringBuilder", "toString", "()Ljava/lang/String;"⟩ : MethodName) jdk_67_method_42_code 1 (some (.object "java/lang/String")) :: ws) ({ frames := 5, cells := 2, slots := 20, locals := 91 } : Room)) (fun as_ U => as_ = #[(.ref a)] ∧ Z.Warmed39 U.vm ∧ U.heap = h0) (fun _ _ _ _ _ => True) (fun _ U o U' => ∃ v L, o = .returned v ∧ Q_tos Z a b kb vs ln cs h0 n0 v U'.heap L ∧ FrameEnd U o U' L ({ frames := 5, cells := 2, slots := 20, locals := 91 } : Room).cells ({ frames := 5, cells := 2, slots := 20, locals := 91 } : Room).slots) := by
  refine MetFree.of_bodySF (plainFor_of_name pn_tos) hisR ?_
  intro p e s m args below meth c s₁ Bd hml0 hP hK
  obtain ⟨rfl, hZ, hh⟩ := hP
  have hx := Bd.exec
  have hby := Bd.bytes
  have hml : c.maxLocals = 1 := hml0
  have hown : s.vm.findClass "java/lang/StringBuilder" = some m.cls := findClass_of_methodNamed Bd.named
  have hnm := (name_of_methodNamed Bd.named Bd.method).1
  have X0 : Stand p l e ({ frames := 5, cells := 2, slots := 20, locals := 91 } : Room) s m #[(.ref a)] below meth c s₁ [] 0 0 := Stand.of_body Bd
  have e0 : s₁.heap = h0 := by rw [← hh, Bd.state]; rfl
  have N0 := Fr.nil n0
  refine Go.out ?_
  refine Go.pre (fun t k => castTop (ef_tos m a) k) ?_
  obtain ⟨tE, tC, tV, tN, tA⟩ := BB
  have neab : a ≠ b := Exa.neArv tE tA (hw _ (List.mem_of_getElem? (i := 44) rfl))
  show Go p e below _ (s₁.setTop (mkF m 0 #[rv a] []))
  obtain ⟨T1, h1, X1, e1, E1, A1, D1, U1, st1⟩ := newO X0 hx hZ hown (hw _ (List.mem_of_getElem? (i := 142) rfl)) (hw _ (List.mem_of_getElem? (i := 8) rfl)) (hw _ (List.mem_of_getElem? (i := 7) rfl)) e0 (g := (mkF m 0 #[rv a] [])) rfl (hb hby d_jdk_67_method_42_0) (by decide) (by decide)
  obtain ⟨b1, q1⟩ : ∃ z, z = h0.size := ⟨_, rfl⟩
  rw [← q1] at A1 D1 st1
  have g_b1 : n0 ≤ b1 := Nat.le_trans Z0 (Nat.le_of_eq q1.symm)
  have sz_b1 : h0.size ≤ b1 := Nat.le_trans (Keep.refl h0 []).1 (Nat.le_of_eq q1.symm)
  have ne_a_b1 : a ≠ b1 := Nat.ne_of_lt (Nat.lt_of_lt_of_le tE.lt (Nat.le_of_eq q1.symm))
  have ne_b_b1 : b ≠ b1 := Nat.ne_of_lt (Nat.lt_of_lt_of_le tA.lt (Nat.le_of_eq q1.symm))
  refine Go.pre st1 ?_
  have KC1 : Keep h0 h1 [] := (Keep.refl h0 []).ext E1
  have F_value_b1 : Fld Z h1 b1 "java/lang/String" "value" "[B" .null := D1 (Or.inr (hw _ (List.mem_of_getElem? (i := 10) rfl))) (ty := (.array .byte)) (by decide)
  have F_coder_b1 : Fld Z h1 b1 "java/lang/String" "coder" "B" (.int (0 : Int32)) := D1 (Or.inr (hw _ (List.mem_of_getElem? (i := 11) rfl))) (ty := .byte) (by decide)
  show Go p e below _ (T1.setTop (mkF m 3 #[rv a] [(.ref b1)]))
  refine Go.pre (fun _ k => XS.dup X1.here hx rfl (hb hby d_jdk_67_method_42_3) rfl rfl k) ?_
  show Go p e below _ (T1.setTop (mkF m 4 #[rv a] [(.ref b1), (.ref b1)]))
  refine Go.pre (fun _ k => XS.aloadN X1.here hx rfl (hb hby d_jdk_67_method_42_4) rfl rfl k) ?_
  show Go p e below _ (T1.setTop (mkF m 5 #[rv a] [(.ref a), (.ref b1), (.ref b1)]))
  obtain ⟨_, _, ⟨T2, L2, k2, n2⟩, -, X2, ⟨Lc2, hQ2, l2, y2, z2⟩, st2⟩ := X1.specialBack hx (y := (⟨"java/lang/String", "<init>", "(Ljava/lang/StringBuilder;)V"⟩ : MethodName)) rfl hown (mvT hZ (hw _ (List.mem_of_getElem? (i := 143) rfl))) (mvT hZ (hw _ (List.mem_of_getElem? (i := 144) rfl))) (mvT hZ (hw _ (List.mem_of_getElem? (i := 146) rfl))) (by decide) (backOf (W := 1) (rm_siB l Z a0 hw [] b1 a b kb vs ln cs h1 n0 (Nat.le_trans Z0 E1.1) (O.ext E1) SC hcs A1 F_coder_b1 F_value_b1 g_b1 ⟨(tE.ext E1), (tC.ext E1), (tV.ext E1), (tN.ext E1), (tA.ext E1)⟩ hvs hln) hZ (hw _ (List.mem_of_getElem? (i := 146) rfl)) (hw _ (List.mem_of_getElem? (i := 7) rfl)) (by decide) (by decide)) (g := (mkF m 5 #[rv a] [(.ref a), (.ref b1), (.ref b1)])) rfl (by rw [hml]; rfl) (Steps.refl _) (a := b1) (argsL := [(.ref a)]) (rest := [(.ref b1)]) (lenOf pd_16 rfl) rfl (by show 2 * 0 + _ ≤ _; exact Nat.le_of_eq rfl) (hb hby d_jdk_67_method_42_5) (fun _ _ => ⟨rfl, e1, (by decide : 1 + 1 ≤ _), (by decide : 4 + 16 ≤ _)⟩)
  dsimp only [Pt.U, Pt.locs, Pt.cells, Pt.slots] at X2 l2 y2 z2 st2 hQ2
  subst l2 y2 z2
  refine Go.pre (own_cut st2) ?_
  obtain ⟨rfl, N2q, K2, r2, kr2, S2⟩ := hQ2
  have N2 := Fr.app N0 N2q
  have KC2 : Keep h0 T2.heap [] := KC1.trans K2 (allS (Or.inr sz_b1) all0)
  obtain ⟨uE2, uC2, uV2, uA2⟩ := S2
  show Go p e below _ (T2.setTop (mkF m 8 #[rv a] [(.ref b1)]))
  obtain ⟨fs, hr, hrun, hended, hW, hsame⟩ := X2.leave (v := some (.ref b1)) (fun h => by rw [Bd.returns] at h; cases h)
  refine Go.fin (retOut X2 hx Bd.returns rfl (Or.inr (Or.inr (Or.inr (Or.inr ⟨rfl, rfl, rfl⟩)))) (hb hby d_jdk_67_method_42_8) hr) ⟨hrun, hended, _, _, rfl, ?_, ⟨_, rfl⟩, hW, hsame.mono (by decide) (by decide)⟩
  show Q_tos Z a b kb vs ln cs h0 n0 _ T2.heap _
  exact ⟨b1, r2, kr2, rfl, N2, KC2, sz_b1, ⟨uE2, uC2, uV2, uA2⟩⟩

theorem ef_ai (m : MethodId) (x0 : Addr) (x1 : Int32) : entryFrame m #[(.ref x0), (.int x1)] 2 = mkF m 0 #[rv x0, iv x1] [] := by first | (simp [entryFrame, mkF, argsToLocals, Value.category]; done) | rfl
theorem pn_ai : plainName "java/lang/AbstractStringBuilder" = true := by first | (simp [plainName, overriddenIn]; done) | decide +kernel
def Q_ai (Z : State) (a : Addr) (cs : Int32) (h0 : Heap) (n0 : Nat) (v : Option Value) (h : Heap) (L : List Loc) : Prop := v = none ∧ Fr n0 L ∧ Keep h0 h [a] ∧ ∃ (b : Addr) (kb : ClassId), Bld Z h a b kb 0 own_z16 ∧ h0.size ≤ b
set_option maxRecDepth 65536 in
set_option maxHeartbeats 40000000 in
theorem rm_ai (l : Launch) (Z : State) (a0 : Array Value) (hw : ∀ d ∈ tables_1, d.before a0 Z = true) (ws : List Jvm.Cond) (a : Addr) (cs : Int32) (h0 : Heap) (n0 : Nat) (Z0 : n0 ≤ h0.size) (O : Old Z n0 h0) (SC : Sta Z Z.heap "java/lang/String" "COMPACT_STRINGS" "Z" (.int cs)) (hcs : ¬ cs = (0 : Int32)) (pE : Exa Z h0 a "java/lang/StringBuilder") (pC : Fld Z h0 a "java/lang/AbstractStringBuilder" "coder" "B" (.int 0)) (pV : Fld Z h0 a "java/lang/AbstractStringBuilder" "value" "[B" .null) (pN : Fld Z h0 a "java/lang/AbstractStringBuilder" "count" "I" (.int 0)) (ga : n0 ≤ a) :
    MetFree l (⟨"java/lang/AbstractStringBuilder", "<init>", "(I)V"⟩ : MethodName) (head1 (Jvm.Cond.code (⟨"java/lang/AbstractStringBuilder", "<init>", "(I)V"⟩ : MethodName) jdk_68_method_2_code 2 none :: ws) ({ frames := 1, cells := 1, slots := 16, locals := 12 } : Room)) (fun as_ U => as_ = #[(.ref a), (.int (16 : Int32))] ∧ Z.Warmed39 U.vm ∧ U.heap = h0) (fun _ _ _ _ _ => True) (fun _ U o U' => ∃ v L, o = .returned v ∧ Q_ai Z a cs h0 n0 v U'.heap L ∧ FrameEnd U o U' L ({ frames := 1, cells := 1, slots := 16, locals := 12 } : Room).cells ({ frames := 1, cells := 1, slots := 16, locals := 12 } : Room).slots) := by
  refine MetFree.of_bodySF (plainFor_of_name pn_ai) hisR ?_
  intro p e s m args below meth c s₁ Bd hml0 hP hK
  obtain ⟨rfl, hZ, hh⟩ := hP
  have hx := Bd.exec
  have hby := Bd.bytes
  have hml : c.maxLocals = 2 := hml0
  have hown : s.vm.findClass "java/lang/AbstractStringBuilder" = some m.cls := findClass_of_methodNamed Bd.named
  have hnm := (name_of_methodNamed Bd.named Bd.method).1
  have X0 : Stand p l e ({ frames := 1, cells := 1, slots := 16, locals := 12 } : Room) s m #[(.ref a), (.int (16 : Int32))] below meth c s₁ [] 0 0 := Stand.of_body Bd
  have e0 : s₁.heap = h0 := by rw [← hh, Bd.state]; rfl
  have N0 := Fr.nil n0
  refine Go.out ?_
  refine Go.pre (fun t k => castTop (ef_ai m a (16 : Int32)) k) ?_
  show Go p e below _ (s₁.setTop (mkF m 0 #[rv a, iv (16 : Int32)] []))
  refine Go.pre (fun _ k => XS.aloadN X0.here hx rfl (hb hby d_jdk_68_method_2_0) rfl rfl k) ?_
  show Go p e below _ (s₁.setTop (mkF m 1 #[rv a, iv (16 : Int32)] [(.ref a)]))
  obtain ⟨T1, X1, e1, st1⟩ := initO X0 hx hZ hown (hw _ (List.mem_of_getElem? (i := 55) rfl)) (hw _ (List.mem_of_getElem? (i := 18) rfl)) (hw _ (List.mem_of_getElem? (i := 19) rfl)) e0 (g := (mkF m 1 #[rv a, iv (16 : Int32)] [(.ref a)])) rfl (by rw [hml]; rfl) rfl (hb hby d_jdk_68_method_2_1) (by decide) (W := 0) (by show 2 * 0 + _ ≤ _; exact Nat.le_of_eq rfl) (by decide)
  refine Go.pre st1 ?_
  show Go p e below _ (T1.setTop (mkF m 4 #[rv a, iv (16 : Int32)] []))
  obtain ⟨T2, X2, e2, st2⟩ := getS2 X1 hx hZ hown (host := "") (Or.inl (hw _ (List.mem_of_getElem? (i := 56) rfl))) Via.refl e1 (SC.ext O.2) (g := (mkF m 4 #[rv a, iv (16 : Int32)] [])) rfl (hb hby d_jdk_68_method_2_4)
  refine Go.pre st2 ?_
  show Go p e below _ (T2.setTop (mkF m 7 #[rv a, iv (16 : Int32)] [(.int cs)]))
  refine Go.pre (fun _ k => XS.ifNo X2.here hx rfl (hb hby d_jdk_68_method_2_7) rfl ((if0 _ _).trans (feq hcs).1) k) ?_
  show Go p e below _ (T2.setTop (mkF m 10 #[rv a, iv (16 : Int32)] []))
  refine Go.pre (fun _ k => XS.aloadN X2.here hx rfl (hb hby d_jdk_68_method_2_10) rfl rfl k) ?_
  show Go p e below _ (T2.setTop (mkF m 11 #[rv a, iv (16 : Int32)] [(.ref a)]))
  refine Go.pre (fun _ k => XS.iloadN X2.here hx rfl (hb hby d_jdk_68_method_2_11) rfl k) ?_
  show Go p e below _ (T2.setTop (mkF m 12 #[rv a, iv (16 : Int32)] [(.int (16 : Int32)), (.ref a)]))
  obtain ⟨T3, h3, k3, X3, e3, E3, A3, st3⟩ := newP X2 hx hZ (hw _ (List.mem_of_getElem? (i := 9) rfl)) e2 (g := (mkF m 12 #[rv a, iv (16 : Int32)] [(.int (16 : Int32)), (.ref a)])) rfl (hb hby d_jdk_68_method_2_12) rfl (by decide) (cap := 16) (by decide) (by decide) (by decide) (by decide)
  obtain ⟨b3, q3⟩ : ∃ z, z = h0.size := ⟨_, rfl⟩
  rw [← q3] at A3 st3
  have g_b3 : n0 ≤ b3 := Nat.le_trans Z0 (Nat.le_of_eq q3.symm)
  have sz_b3 : h0.size ≤ b3 := Nat.le_trans (Keep.refl h0 [a]).1 (Nat.le_of_eq q3.symm)
  have ne_a_b3 : a ≠ b3 := Nat.ne_of_lt (Nat.lt_of_lt_of_le pE.lt (Nat.le_of_eq q3.symm))
  have V3 := Arv.new A3 (by decide)
  refine Go.pre st3 ?_
  have KC3 : Keep h0 h3 [a] := (Keep.refl h0 [a]).ext E3
  have VP : Arv Z h3 b3 k3 .byte 16 own_z16 (.int 0) := V3.pad (pad_rep [] (.int 0) 16)
  show Go p e below _ (T3.setTop (mkF m 14 #[rv a, iv (16 : Int32)] [(.ref b3), (.ref a)]))
  obtain ⟨T4, h4, X4, e4, W4, st4⟩ := putF X3 hx hZ hown (host := "") (Or.inl (hw _ (List.mem_of_getElem? (i := 57) rfl))) Via.refl e3 (pV.ext E3) (pE.ext E3) (Or.inl (hw _ (List.mem_of_getElem? (i := 58) rfl))) (hw _ (List.mem_of_getElem? (i := 44) rfl)) (ty := (.array .byte)) (by decide) rfl rfl (g := (mkF m 14 #[rv a, iv (16 : Int32)] [(.ref b3), (.ref a)])) rfl rfl (hb hby d_jdk_68_method_2_14)
  have F4 := (pV.ext E3).same W4
  have N4 := Fr.snoc X4 N0 ga
  refine Go.pre st4 ?_
  have KC4 : Keep h0 h4 [a] := KC3.wr W4 (Or.inl (List.mem_of_getElem? (i := 0) rfl))
  show Go p e below _ (T4.setTop (mkF m 17 #[rv a, iv (16 : Int32)] []))
  refine Go.pre (fun _ k => XS.aloadN X4.here hx rfl (hb hby d_jdk_68_method_2_17) rfl rfl k) ?_
  show Go p e below _ (T4.setTop (mkF m 18 #[rv a, iv (16 : Int32)] [(.ref a)]))
  refine Go.pre (fun _ k => XS.iconst X4.here hx rfl (hb hby d_jdk_68_method_2_18) k) ?_
  show Go p e below _ (T4.setTop (mkF m 19 #[rv a, iv (16 : Int32)] [(.int (0 : Int32)), (.ref a)]))
  obtain ⟨T5, h5, X5, e5, W5, st5⟩ := putFN X4 hx hZ hown (hw _ (List.mem_of_getElem? (i := 59) rfl)) Via.refl e4 ((pC.ext E3).other W4 (Or.inr (slot_ne (Or.inl (hw _ (List.mem_of_getElem? (i := 60) rfl))) (Or.inl (hw _ (List.mem_of_getElem? (i := 58) rfl))) (by decide) (t := .byte) (t' := (.array .byte)) (by decide) (by decide)))) ((pE.ext E3).wr W4) (Or.inl (hw _ (List.mem_of_getElem? (i := 60) rfl))) (hw _ (List.mem_of_getElem? (i := 44) rfl)) (ty := .byte) (v' := (.int (0 : Int32))) (by decide) rfl rfl (g := (mkF m 19 #[rv a, iv (16 : Int32)] [(.int (0 : Int32)), (.ref a)])) rfl rfl (hb hby d_jdk_68_method_2_19)
  have F5 := ((pC.ext E3).other W4 (Or.inr (slot_ne (Or.inl (hw _ (List.mem_of_getElem? (i := 60) rfl))) (Or.inl (hw _ (List.mem_of_getElem? (i := 58) rfl))) (by decide) (t := .byte) (t' := (.array .byte)) (by decide) (by decide)))).same W5
  have N5 := Fr.snoc X5 N4 ga
  refine Go.pre st5 ?_
  have KC5 : Keep h0 h5 [a] := KC4.wr W5 (Or.inl (List.mem_of_getElem? (i := 0) rfl))
  show Go p e below _ (T5.setTop (mkF m 22 #[rv a, iv (16 : Int32)] []))
  refine Go.pre (fun _ k => XS.goto X5.here hx rfl (pc0 := 22) (pc' := 38) rfl (hb hby d_jdk_68_method_2_22) (by decide) (by decide) k) ?_
  show Go p e below _ (T5.setTop (mkF m 38 #[rv a, iv (16 : Int32)] []))
  obtain ⟨fs, hr, hrun, hended, hW, hsame⟩ := X5.leave (v := none) (fun _ => rfl)
  refine Go.fin (X5.returnOut hx Bd.returns (hb hby d_jdk_68_method_2_38) hr) ⟨hrun, hended, _, _, rfl, ?_, ⟨_, rfl⟩, hW, hsame.mono (by decide) (by decide)⟩
  show Q_ai Z a cs h0 n0 _ T5.heap _
  rw [e5]
  exact ⟨rfl, N5, KC5, b3, k3, ⟨(((pE.ext E3).wr W4).wr W5), F5, (F4.other W5 (Or.inr (slot_ne (Or.inl (hw _ (List.mem_of_getElem? (i := 58) rfl))) (Or.inl (hw _ (List.mem_of_getElem? (i := 60) rfl))) (by decide) (t := (.array .byte)) (t' := .byte) (by decide) (by decide)))), (((pN.ext E3).other W4 (Or.inr (slot_ne (Or.inl (hw _ (List.mem_of_getElem? (i := 86) rfl))) (Or.inl (hw _ (List.mem_of_getElem? (i := 58) rfl))) (by decide) (t := .int) (t' := (.array .byte)) (by decide) (by decide)))).other W5 (Or.inr (slot_ne (Or.inl (hw _ (List.mem_of_getElem? (i := 86) rfl))) (Or.inl (hw _ (List.mem_of_getElem? (i := 60) rfl))) (by decide) (t := .int) (t' := .byte) (by decide) (by decide)))), ((VP.other W4 (Ne.symm ne_a_b3)).other W5 (Ne.symm ne_a_b3))⟩, sz_b3⟩

theorem ef_bi (m : MethodId) (x0 : Addr) : entryFrame m #[(.ref x0)] 1 = mkF m 0 #[rv x0] [] := by first | (simp [entryFrame, mkF, argsToLocals, Value.category]; done) | rfl
theorem pn_bi : plainName "java/lang/StringBuilder" = true := by first | (simp [plainName, overriddenIn]; done) | decide +kernel
def Q_bi (Z : State) (a : Addr) (cs : Int32) (h0 : Heap) (n0 : Nat) (v : Option Value) (h : Heap) (L : List Loc) : Prop := v = none ∧ Fr n0 L ∧ Keep h0 h [a] ∧ ∃ (b : Addr) (kb : ClassId), Bld Z h a b kb 0 own_z16 ∧ h0.size ≤ b
set_option maxRecDepth 65536 in
set_option maxHeartbeats 40000000 in
theorem rm_bi (l : Launch) (Z : State) (a0 : Array Value) (hw : ∀ d ∈ tables_1, d.before a0 Z = true) (ws : List Jvm.Cond) (a : Addr) (cs : Int32) (h0 : Heap) (n0 : Nat) (Z0 : n0 ≤ h0.size) (O : Old Z n0 h0) (SC : Sta Z Z.heap "java/lang/String" "COMPACT_STRINGS" "Z" (.int cs)) (hcs : ¬ cs = (0 : Int32)) (pE : Exa Z h0 a "java/lang/StringBuilder") (pC : Fld Z h0 a "java/lang/AbstractStringBuilder" "coder" "B" (.int 0)) (pV : Fld Z h0 a "java/lang/AbstractStringBuilder" "value" "[B" .null) (pN : Fld Z h0 a "java/lang/AbstractStringBuilder" "count" "I" (.int 0)) (ga : n0 ≤ a) :
    MetFree l (⟨"java/lang/StringBuilder", "<init>", "()V"⟩ : MethodName) (head1 (Jvm.Cond.code (⟨"java/lang/StringBuilder", "<init>", "()V"⟩ : MethodName) jdk_67_method_1_code 1 none :: ws) ({ frames := 2, cells := 1, slots := 16, locals := 25 } : Room)) (fun as_ U => as_ = #[(.ref a)] ∧ Z.Warmed39 U.vm ∧ U.heap = h0) (fun _ _ _ _ _ => True) (fun _ U o U' => ∃ v L, o = .returned v ∧ Q_bi Z a cs h0 n0 v U'.heap L ∧ FrameEnd U o U' L ({ frames := 2, cells := 1, slots := 16, locals := 25 } : Room).cells ({ frames := 2, cells := 1, slots := 16, locals := 25 } : Room).slots) := by
  refine MetFree.of_bodySF (plainFor_of_name pn_bi) hisR ?_
  intro p e s m args below meth c s₁ Bd hml0 hP hK
  obtain ⟨rfl, hZ, hh⟩ := hP
  have hx := Bd.exec
  have hby := Bd.bytes
  have hml : c.maxLocals = 1 := hml0
  have hown : s.vm.findClass "java/lang/StringBuilder" = some m.cls := findClass_of_methodNamed Bd.named
  have hnm := (name_of_methodNamed Bd.named Bd.method).1
  have X0 : Stand p l e ({ frames := 2, cells := 1, slots := 16, locals := 25 } : Room) s m #[(.ref a)] below meth c s₁ [] 0 0 := Stand.of_body Bd
  have e0 : s₁.heap = h0 := by rw [← hh, Bd.state]; rfl
  have N0 := Fr.nil n0
  refine Go.out ?_
  refine Go.pre (fun t k => castTop (ef_bi m a) k) ?_
  show Go p e below _ (s₁.setTop (mkF m 0 #[rv a] []))
  refine Go.pre (fun _ k => XS.aloadN X0.here hx rfl (hb hby d_jdk_67_method_1_0) rfl rfl k) ?_
  show Go p e below _ (s₁.setTop (mkF m 1 #[rv a] [(.ref a)]))
  refine Go.pre (fun _ k => XS.bipush X0.here hx rfl (hb hby d_jdk_67_method_1_1) k) ?_
  show Go p e below _ (s₁.setTop (mkF m 3 #[rv a] [(.int (16 : Int32)), (.ref a)]))
  obtain ⟨_, _, ⟨T1, L1, k1, n1⟩, -, X1, ⟨Lc1, hQ1, l1, y1, z1⟩, st1⟩ := X0.specialBack hx (y := (⟨"java/lang/AbstractStringBuilder", "<init>", "(I)V"⟩ : MethodName)) rfl hown (mvT hZ (hw _ (List.mem_of_getElem? (i := 49) rfl))) (mvT hZ (hw _ (List.mem_of_getElem? (i := 50) rfl))) (mvT hZ (hw _ (List.mem_of_getElem? (i := 54) rfl))) (by decide) (backOf (W := 0) (rm_ai l Z a0 hw [] a cs h0 n0 Z0 O SC hcs pE pC pV pN ga) hZ (hw _ (List.mem_of_getElem? (i := 54) rfl)) (hw _ (List.mem_of_getElem? (i := 53) rfl)) (by decide) (by decide)) (g := (mkF m 3 #[rv a] [(.int (16 : Int32)), (.ref a)])) rfl (by rw [hml]; rfl) (Steps.refl _) (a := a) (argsL := [(.int (16 : Int32))]) (rest := []) (lenOf pd_4 rfl) rfl (by show 2 * 0 + _ ≤ _; exact Nat.le_of_eq rfl) (hb hby d_jdk_67_method_1_3) (fun _ _ => ⟨rfl, e0, (by decide : 0 + 1 ≤ _), (by decide : 0 + 16 ≤ _)⟩)
  dsimp only [Pt.U, Pt.locs, Pt.cells, Pt.slots] at X1 l1 y1 z1 st1 hQ1
  subst l1 y1 z1
  refine Go.pre (own_cut st1) ?_
  obtain ⟨rfl, N1q, K1, b1v, kb1, B1, z1'⟩ := hQ1
  have N1 := Fr.app N0 N1q
  have KC1 : Keep h0 T1.heap [a] := (Keep.refl h0 [a]).trans K1 (allS (Or.inl (List.mem_of_getElem? (i := 0) rfl)) all0)
  obtain ⟨uE1, uC1, uV1, uN1, uA1⟩ := B1
  have g_b1v : n0 ≤ b1v := Nat.le_trans Z0 z1'
  have sz_b1v : h0.size ≤ b1v := Nat.le_trans (Keep.refl h0 [a]).1 z1'
  have ne_a_b1v : a ≠ b1v := Nat.ne_of_lt (Nat.lt_of_lt_of_le pE.lt z1')
  show Go p e below _ (T1.setTop (mkF m 6 #[rv a] []))
  obtain ⟨fs, hr, hrun, hended, hW, hsame⟩ := X1.leave (v := none) (fun _ => rfl)
  refine Go.fin (X1.returnOut hx Bd.returns (hb hby d_jdk_67_method_1_6) hr) ⟨hrun, hended, _, _, rfl, ?_, ⟨_, rfl⟩, hW, hsame.mono (by decide) (by decide)⟩
  show Q_bi Z a cs h0 n0 _ T1.heap _
  exact ⟨rfl, N1, KC1, b1v, kb1, ⟨uE1, uC1, uV1, uN1, uA1⟩, sz_b1v⟩

theorem ef_sil (m : MethodId) (x0 : Addr) : entryFrame m #[(.ref x0)] 1 = mkF m 0 #[rv x0] [] := by first | (simp [entryFrame, mkF, argsToLocals, Value.category]; done) | rfl
theorem pn_sil : plainName "java/lang/String" = true := by first | (simp [plainName, overriddenIn]; done) | decide +kernel
def Q_sil (Z : State) (a : Addr) (cs : Int32) (h0 : Heap) (n0 : Nat) (v : Option Value) (h : Heap) (L : List Loc) : Prop := v = some (.int 1) ∧ Fr n0 L ∧ h = h0
set_option maxRecDepth 65536 in
set_option maxHeartbeats 40000000 in
theorem rm_sil (l : Launch) (Z : State) (a0 : Array Value) (hw : ∀ d ∈ tables_1, d.before a0 Z = true) (ws : List Jvm.Cond) (a : Addr) (cs : Int32) (h0 : Heap) (n0 : Nat) (Z0 : n0 ≤ h0.size) (O : Old Z n0 h0) (SC : Sta Z Z.heap "java/lang/String" "COMPACT_STRINGS" "Z" (.int cs)) (hcs : ¬ cs = (0 : Int32)) (sC : Fld Z h0 a "java/lang/String" "coder" "B" (.int 0)) :
    MetFree l (⟨"java/lang/String", "isLatin1", "()Z"⟩ : MethodName) (head1 (Jvm.Cond.code (⟨"java/lang/String", "isLatin1", "()Z"⟩ : MethodName) jdk_42_method_154_code 1 (some .boolean) :: ws) ({ frames := 0, cells := 0, slots := 0, locals := 0 } : Room)) (fun as_ U => as_ = #[(.ref a)] ∧ Z.Warmed39 U.vm ∧ U.heap = h0) (fun _ _ _ _ _ => True) (fun _ U o U' => ∃ v L, o = .returned v ∧ Q_sil Z a cs h0 n0 v U'.heap L ∧ FrameEnd U o U' L ({ frames := 0, cells := 0, slots := 0, locals := 0 } : Room).cells ({ frames := 0, cells := 0, slots := 0, locals := 0 } : Room).slots) := by
  refine MetFree.of_bodySF (plainFor_of_name pn_sil) hisR ?_
  intro p e s m args below meth c s₁ Bd hml0 hP hK
  obtain ⟨rfl, hZ, hh⟩ := hP
  have hx := Bd.exec
  have hby := Bd.bytes
  have hml : c.maxLocals = 1 := hml0
  have hown : s.vm.findClass "java/lang/String" = some m.cls := findClass_of_methodNamed Bd.named
  have hnm := (name_of_methodNamed Bd.named Bd.method).1
  have X0 : Stand p l e ({ frames := 0, cells := 0, slots := 0, locals := 0 } : Room) s m #[(.ref a)] below meth c s₁ [] 0 0 := Stand.of_body Bd
  have e0 : s₁.heap = h0 := by rw [← hh, Bd.state]; rfl
  have N0 := Fr.nil n0
  refine Go.out ?_
  refine Go.pre (fun t k => castTop (ef_sil m a) k) ?_
  show Go p e below _ (s₁.setTop (mkF m 0 #[rv a] []))
  obtain ⟨T1, X1, e1, st1⟩ := getS2 X0 hx hZ hown (host := "") (Or.inl (hw _ (List.mem_of_getElem? (i := 83) rfl))) Via.refl e0 (SC.ext O.2) (g := (mkF m 0 #[rv a] [])) rfl (hb hby d_jdk_42_method_154_0)
  refine Go.pre st1 ?_
  show Go p e below _ (T1.setTop (mkF m 3 #[rv a] [(.int cs)]))
  refine Go.pre (fun _ k => XS.ifNo X1.here hx rfl (hb hby d_jdk_42_method_154_3) rfl ((if0 _ _).trans (feq hcs).1) k) ?_
  show Go p e below _ (T1.setTop (mkF m 6 #[rv a] []))
  refine Go.pre (fun _ k => XS.aloadN X1.here hx rfl (hb hby d_jdk_42_method_154_6) rfl rfl k) ?_
  show Go p e below _ (T1.setTop (mkF m 7 #[rv a] [(.ref a)]))
  obtain ⟨T2, X2, e2, st2⟩ := getF X1 hx hZ hown (host := "") (Or.inl (hw _ (List.mem_of_getElem? (i := 84) rfl))) Via.refl e1 sC (g := (mkF m 7 #[rv a] [(.ref a)])) rfl rfl (hb hby d_jdk_42_method_154_7)
  refine Go.pre st2 ?_
  show Go p e below _ (T2.setTop (mkF m 10 #[rv a] [(.int (0 : Int32))]))
  refine Go.pre (fun _ k => XS.ifNo X2.here hx rfl (hb hby d_jdk_42_method_154_10) rfl ((if0 _ _).trans (teq (by decide : (0 : Int32) = (0 : Int32))).2) k) ?_
  show Go p e below _ (T2.setTop (mkF m 13 #[rv a] []))
  refine Go.pre (fun _ k => XS.iconst X2.here hx rfl (hb hby d_jdk_42_method_154_13) k) ?_
  show Go p e below _ (T2.setTop (mkF m 14 #[rv a] [(.int (1 : Int32))]))
  refine Go.pre (fun _ k => XS.goto X2.here hx rfl (pc0 := 14) (pc' := 18) rfl (hb hby d_jdk_42_method_154_14) (by decide) (by decide) k) ?_
  show Go p e below _ (T2.setTop (mkF m 18 #[rv a] [(.int (1 : Int32))]))
  obtain ⟨fs, hr, hrun, hended, hW, hsame⟩ := X2.leave (v := some (.int (1 : Int32))) (fun h => by rw [Bd.returns] at h; cases h)
  refine Go.fin (retN X2 hx (t := .boolean) Bd.returns (by simp) (hb hby d_jdk_42_method_154_18) hr) ⟨hrun, hended, _, _, rfl, ?_, ⟨_, rfl⟩, hW, hsame.mono (by decide) (by decide)⟩
  show Q_sil Z a cs h0 n0 _ T2.heap _
  rw [e2]
  exact ⟨rfl, N0, rfl⟩

theorem ef_pciN (m : MethodId) (x0 : Int32) (x1 : Int32) : entryFrame m #[(.int x0), (.int x1), .null] 3 = mkF m 0 #[iv x0, iv x1, .val .null] [] := by first | (simp [entryFrame, mkF, argsToLocals, Value.category]; done) | rfl
theorem pn_pciN : plainName "jdk/internal/util/Preconditions" = true := by first | (simp [plainName, overriddenIn]; done) | decide +kernel
def Q_pciN (Z : State) (iu : Nat) (ln : Nat) (h0 : Heap) (n0 : Nat) (v : Option Value) (h : Heap) (L : List Loc) : Prop := v = some (.int (Int32.ofNat iu)) ∧ Fr n0 L ∧ h = h0
set_option maxRecDepth 65536 in
set_option maxHeartbeats 40000000 in
theorem rm_pciN (l : Launch) (Z : State) (a0 : Array Value) (hw : ∀ d ∈ tables_1, d.before a0 Z = true) (ws : List Jvm.Cond) (iu : Nat) (ln : Nat) (h0 : Heap) (n0 : Nat) (Z0 : n0 ≤ h0.size) (hi : iu < ln) (hln : ln < 16) :
    MetFree l (⟨"jdk/internal/util/Preconditions", "checkIndex", "(IILjava/util/function/BiFunction;)I"⟩ : MethodName) (head1 (Jvm.Cond.code (⟨"jdk/internal/util/Preconditions", "checkIndex", "(IILjava/util/function/BiFunction;)I"⟩ : MethodName) jdk_41_method_11_code 3 (some .int) :: ws) ({ frames := 0, cells := 0, slots := 0, locals := 0 } : Room)) (fun as_ U => as_ = #[(.int (Int32.ofNat iu)), (.int (Int32.ofNat ln)), .null] ∧ Z.Warmed39 U.vm ∧ U.heap = h0) (fun _ _ _ _ _ => True) (fun _ U o U' => ∃ v L, o = .returned v ∧ Q_pciN Z iu ln h0 n0 v U'.heap L ∧ FrameEnd U o U' L ({ frames := 0, cells := 0, slots := 0, locals := 0 } : Room).cells ({ frames := 0, cells := 0, slots := 0, locals := 0 } : Room).slots) := by
  refine MetFree.of_bodySF (plainFor_of_name pn_pciN) hisR ?_
  intro p e s m args below meth c s₁ Bd hml0 hP hK
  obtain ⟨rfl, hZ, hh⟩ := hP
  have hx := Bd.exec
  have hby := Bd.bytes
  have hml : c.maxLocals = 3 := hml0
  have hown : s.vm.findClass "jdk/internal/util/Preconditions" = some m.cls := findClass_of_methodNamed Bd.named
  have hnm := (name_of_methodNamed Bd.named Bd.method).1
  have X0 : Stand p l e ({ frames := 0, cells := 0, slots := 0, locals := 0 } : Room) s m #[(.int (Int32.ofNat iu)), (.int (Int32.ofNat ln)), .null] below meth c s₁ [] 0 0 := Stand.of_body Bd
  have e0 : s₁.heap = h0 := by rw [← hh, Bd.state]; rfl
  have N0 := Fr.nil n0
  refine Go.out ?_
  refine Go.pre (fun t k => castTop (ef_pciN m (Int32.ofNat iu) (Int32.ofNat ln)) k) ?_
  show Go p e below _ (s₁.setTop (mkF m 0 #[iv (Int32.ofNat iu), iv (Int32.ofNat ln), .val .null] []))
  refine Go.pre (fun _ k => XS.iloadN X0.here hx rfl (hb hby d_jdk_41_method_11_0) rfl k) ?_
  show Go p e below _ (s₁.setTop (mkF m 1 #[iv (Int32.ofNat iu), iv (Int32.ofNat ln), .val .null] [(.int (Int32.ofNat iu))]))
  refine Go.pre (fun _ k => XS.ifNo X0.here hx rfl (hb hby d_jdk_41_method_11_1) rfl ((if0 _ _).trans (flt (own_nn (by omega))).1) k) ?_
  show Go p e below _ (s₁.setTop (mkF m 4 #[iv (Int32.ofNat iu), iv (Int32.ofNat ln), .val .null] []))
  refine Go.pre (fun _ k => XS.iloadN X0.here hx rfl (hb hby d_jdk_41_method_11_4) rfl k) ?_
  show Go p e below _ (s₁.setTop (mkF m 5 #[iv (Int32.ofNat iu), iv (Int32.ofNat ln), .val .null] [(.int (Int32.ofNat iu))]))
  refine Go.pre (fun _ k => XS.iloadN X0.here hx rfl (hb hby d_jdk_41_method_11_5) rfl k) ?_
  show Go p e below _ (s₁.setTop (mkF m 6 #[iv (Int32.ofNat iu), iv (Int32.ofNat ln), .val .null] [(.int (Int32.ofNat ln)), (.int (Int32.ofNat iu))]))
  refine Go.pre (fun _ k => XS.icmpYes X0.here hx rfl (pc0 := 6) (pc' := 16) rfl (hb hby d_jdk_41_method_11_6) rfl (tlt ((own_ol (a := iu) (b := ln) (by omega) (by omega)).mpr hi)).1 (by decide) (by decide) k) ?_
  show Go p e below _ (s₁.setTop (mkF m 16 #[iv (Int32.ofNat iu), iv (Int32.ofNat ln), .val .null] []))
  refine Go.pre (fun _ k => XS.iloadN X0.here hx rfl (hb hby d_jdk_41_method_11_16) rfl k) ?_
  show Go p e below _ (s₁.setTop (mkF m 17 #[iv (Int32.ofNat iu), iv (Int32.ofNat ln), .val .null] [(.int (Int32.ofNat iu))]))
  obtain ⟨fs, hr, hrun, hended, hW, hsame⟩ := X0.leave (v := some (.int (Int32.ofNat iu))) (fun h => by rw [Bd.returns] at h; cases h)
  refine Go.fin (retI X0 hx Bd.returns (hb hby d_jdk_41_method_11_17) hr) ⟨hrun, hended, _, _, rfl, ?_, ⟨_, rfl⟩, hW, hsame.mono (by decide) (by decide)⟩
  show Q_pciN Z iu ln h0 n0 _ s₁.heap _
  rw [e0]
  exact ⟨rfl, N0, rfl⟩

theorem ef_pciR (m : MethodId) (x0 : Int32) (x1 : Int32) (x2 : Addr) : entryFrame m #[(.int x0), (.int x1), (.ref x2)] 3 = mkF m 0 #[iv x0, iv x1, rv x2] [] := by first | (simp [entryFrame, mkF, argsToLocals, Value.category]; done) | rfl
theorem pn_pciR : plainName "jdk/internal/util/Preconditions" = true := by first | (simp [plainName, overriddenIn]; done) | decide +kernel
def Q_pciR (Z : State) (iu : Nat) (ln : Nat) (fa : Addr) (h0 : Heap) (n0 : Nat) (v : Option Value) (h : Heap) (L : List Loc) : Prop := v = some (.int (Int32.ofNat iu)) ∧ Fr n0 L ∧ h = h0
set_option maxRecDepth 65536 in
set_option maxHeartbeats 40000000 in
theorem rm_pciR (l : Launch) (Z : State) (a0 : Array Value) (hw : ∀ d ∈ tables_1, d.before a0 Z = true) (ws : List Jvm.Cond) (iu : Nat) (ln : Nat) (fa : Addr) (h0 : Heap) (n0 : Nat) (Z0 : n0 ≤ h0.size) (hi : iu < ln) (hln : ln < 16) :
    MetFree l (⟨"jdk/internal/util/Preconditions", "checkIndex", "(IILjava/util/function/BiFunction;)I"⟩ : MethodName) (head1 (Jvm.Cond.code (⟨"jdk/internal/util/Preconditions", "checkIndex", "(IILjava/util/function/BiFunction;)I"⟩ : MethodName) jdk_41_method_11_code 3 (some .int) :: ws) ({ frames := 0, cells := 0, slots := 0, locals := 0 } : Room)) (fun as_ U => as_ = #[(.int (Int32.ofNat iu)), (.int (Int32.ofNat ln)), (.ref fa)] ∧ Z.Warmed39 U.vm ∧ U.heap = h0) (fun _ _ _ _ _ => True) (fun _ U o U' => ∃ v L, o = .returned v ∧ Q_pciR Z iu ln fa h0 n0 v U'.heap L ∧ FrameEnd U o U' L ({ frames := 0, cells := 0, slots := 0, locals := 0 } : Room).cells ({ frames := 0, cells := 0, slots := 0, locals := 0 } : Room).slots) := by
  refine MetFree.of_bodySF (plainFor_of_name pn_pciR) hisR ?_
  intro p e s m args below meth c s₁ Bd hml0 hP hK
  obtain ⟨rfl, hZ, hh⟩ := hP
  have hx := Bd.exec
  have hby := Bd.bytes
  have hml : c.maxLocals = 3 := hml0
  have hown : s.vm.findClass "jdk/internal/util/Preconditions" = some m.cls := findClass_of_methodNamed Bd.named
  have hnm := (name_of_methodNamed Bd.named Bd.method).1
  have X0 : Stand p l e ({ frames := 0, cells := 0, slots := 0, locals := 0 } : Room) s m #[(.int (Int32.ofNat iu)), (.int (Int32.ofNat ln)), (.ref fa)] below meth c s₁ [] 0 0 := Stand.of_body Bd
  have e0 : s₁.heap = h0 := by rw [← hh, Bd.state]; rfl
  have N0 := Fr.nil n0
  refine Go.out ?_
  refine Go.pre (fun t k => castTop (ef_pciR m (Int32.ofNat iu) (Int32.ofNat ln) fa) k) ?_
  show Go p e below _ (s₁.setTop (mkF m 0 #[iv (Int32.ofNat iu), iv (Int32.ofNat ln), rv fa] []))
  refine Go.pre (fun _ k => XS.iloadN X0.here hx rfl (hb hby d_jdk_41_method_11_0) rfl k) ?_
  show Go p e below _ (s₁.setTop (mkF m 1 #[iv (Int32.ofNat iu), iv (Int32.ofNat ln), rv fa] [(.int (Int32.ofNat iu))]))
  refine Go.pre (fun _ k => XS.ifNo X0.here hx rfl (hb hby d_jdk_41_method_11_1) rfl ((if0 _ _).trans (flt (own_nn (by omega))).1) k) ?_
  show Go p e below _ (s₁.setTop (mkF m 4 #[iv (Int32.ofNat iu), iv (Int32.ofNat ln), rv fa] []))
  refine Go.pre (fun _ k => XS.iloadN X0.here hx rfl (hb hby d_jdk_41_method_11_4) rfl k) ?_
  show Go p e below _ (s₁.setTop (mkF m 5 #[iv (Int32.ofNat iu), iv (Int32.ofNat ln), rv fa] [(.int (Int32.ofNat iu))]))
  refine Go.pre (fun _ k => XS.iloadN X0.here hx rfl (hb hby d_jdk_41_method_11_5) rfl k) ?_
  show Go p e below _ (s₁.setTop (mkF m 6 #[iv (Int32.ofNat iu), iv (Int32.ofNat ln), rv fa] [(.int (Int32.ofNat ln)), (.int (Int32.ofNat iu))]))
  refine Go.pre (fun _ k => XS.icmpYes X0.here hx rfl (pc0 := 6) (pc' := 16) rfl (hb hby d_jdk_41_method_11_6) rfl (tlt ((own_ol (a := iu) (b := ln) (by omega) (by omega)).mpr hi)).1 (by decide) (by decide) k) ?_
  show Go p e below _ (s₁.setTop (mkF m 16 #[iv (Int32.ofNat iu), iv (Int32.ofNat ln), rv fa] []))
  refine Go.pre (fun _ k => XS.iloadN X0.here hx rfl (hb hby d_jdk_41_method_11_16) rfl k) ?_
  show Go p e below _ (s₁.setTop (mkF m 17 #[iv (Int32.ofNat iu), iv (Int32.ofNat ln), rv fa] [(.int (Int32.ofNat iu))]))
  obtain ⟨fs, hr, hrun, hended, hW, hsame⟩ := X0.leave (v := some (.int (Int32.ofNat iu))) (fun h => by rw [Bd.returns] at h; cases h)
  refine Go.fin (retI X0 hx Bd.returns (hb hby d_jdk_41_method_11_17) hr) ⟨hrun, hended, _, _, rfl, ?_, ⟨_, rfl⟩, hW, hsame.mono (by decide) (by decide)⟩
  show Q_pciR Z iu ln fa h0 n0 _ s₁.heap _
  rw [e0]
  exact ⟨rfl, N0, rfl⟩

theorem ef_sci (m : MethodId) (x0 : Int32) (x1 : Int32) : entryFrame m #[(.int x0), (.int x1)] 2 = mkF m 0 #[iv x0, iv x1] [] := by first | (simp [entryFrame, mkF, argsToLocals, Value.category]; done) | rfl
theorem pn_sci : plainName "java/lang/String" = true := by first | (simp [plainName, overriddenIn]; done) | decide +kernel
def Q_sci (Z : State) (iu : Nat) (ln : Nat) (fm : Value) (h0 : Heap) (n0 : Nat) (v : Option Value) (h : Heap) (L : List Loc) : Prop := v = none ∧ Fr n0 L ∧ h = h0
set_option maxRecDepth 65536 in
set_option maxHeartbeats 40000000 in
theorem rm_sci (l : Launch) (Z : State) (a0 : Array Value) (hw : ∀ d ∈ tables_1, d.before a0 Z = true) (ws : List Jvm.Cond) (iu : Nat) (ln : Nat) (fm : Value) (h0 : Heap) (n0 : Nat) (Z0 : n0 ≤ h0.size) (O : Old Z n0 h0) (SF : Sta Z Z.heap "jdk/internal/util/Preconditions" "SIOOBE_FORMATTER" "Ljava/util/function/BiFunction;" fm) (hfm : fm.isRef = true) (hi : iu < ln) (hln : ln < 16) :
    MetFree l (⟨"java/lang/String", "checkIndex", "(II)V"⟩ : MethodName) (head1 (Jvm.Cond.code (⟨"java/lang/String", "checkIndex", "(II)V"⟩ : MethodName) jdk_42_method_155_code 2 none :: ws) ({ frames := 1, cells := 0, slots := 0, locals := 14 } : Room)) (fun as_ U => as_ = #[(.int (Int32.ofNat iu)), (.int (Int32.ofNat ln))] ∧ Z.Warmed39 U.vm ∧ U.heap = h0) (fun _ _ _ _ _ => True) (fun _ U o U' => ∃ v L, o = .returned v ∧ Q_sci Z iu ln fm h0 n0 v U'.heap L ∧ FrameEnd U o U' L ({ frames := 1, cells := 0, slots := 0, locals := 14 } : Room).cells ({ frames := 1, cells := 0, slots := 0, locals := 14 } : Room).slots) := by
  refine MetFree.of_bodySF (plainFor_of_name pn_sci) hisR ?_
  intro p e s m args below meth c s₁ Bd hml0 hP hK
  obtain ⟨rfl, hZ, hh⟩ := hP
  have hx := Bd.exec
  have hby := Bd.bytes
  have hml : c.maxLocals = 2 := hml0
  have hown : s.vm.findClass "java/lang/String" = some m.cls := findClass_of_methodNamed Bd.named
  have hnm := (name_of_methodNamed Bd.named Bd.method).1
  have X0 : Stand p l e ({ frames := 1, cells := 0, slots := 0, locals := 14 } : Room) s m #[(.int (Int32.ofNat iu)), (.int (Int32.ofNat ln))] below meth c s₁ [] 0 0 := Stand.of_body Bd
  have e0 : s₁.heap = h0 := by rw [← hh, Bd.state]; rfl
  have N0 := Fr.nil n0
  refine Go.out ?_
  refine Go.pre (fun t k => castTop (ef_sci m (Int32.ofNat iu) (Int32.ofNat ln)) k) ?_
  rcases ref_cases hfm with rfl | ⟨fa, rfl⟩
  · skip
    show Go p e below _ (s₁.setTop (mkF m 0 #[iv (Int32.ofNat iu), iv (Int32.ofNat ln)] []))
    refine Go.pre (fun _ k => XS.iloadN X0.here hx rfl (hb hby d_jdk_42_method_155_0) rfl k) ?_
    show Go p e below _ (s₁.setTop (mkF m 1 #[iv (Int32.ofNat iu), iv (Int32.ofNat ln)] [(.int (Int32.ofNat iu))]))
    refine Go.pre (fun _ k => XS.iloadN X0.here hx rfl (hb hby d_jdk_42_method_155_1) rfl k) ?_
    show Go p e below _ (s₁.setTop (mkF m 2 #[iv (Int32.ofNat iu), iv (Int32.ofNat ln)] [(.int (Int32.ofNat ln)), (.int (Int32.ofNat iu))]))
    obtain ⟨T1, X1, e1, st1⟩ := getS2 X0 hx hZ hown (host := "") (Or.inl (hw _ (List.mem_of_getElem? (i := 198) rfl))) Via.refl e0 (SF.ext O.2) (g := (mkF m 2 #[iv (Int32.ofNat iu), iv (Int32.ofNat ln)] [(.int (Int32.ofNat ln)), (.int (Int32.ofNat iu))])) rfl (hb hby d_jdk_42_method_155_2)
    refine Go.pre st1 ?_
    show Go p e below _ (T1.setTop (mkF m 5 #[iv (Int32.ofNat iu), iv (Int32.ofNat ln)] [.null, (.int (Int32.ofNat ln)), (.int (Int32.ofNat iu))]))
    obtain ⟨_, _, ⟨T2, L2, k2, n2⟩, -, X2, ⟨Lc2, hQ2, l2, y2, z2⟩, st2⟩ := Jvm.LawKit.callS X1 hx (y := (⟨"jdk/internal/util/Preconditions", "checkIndex", "(IILjava/util/function/BiFunction;)I"⟩ : MethodName)) hown (mvT hZ (hw _ (List.mem_of_getElem? (i := 200) rfl))) (mvT hZ (hw _ (List.mem_of_getElem? (i := 201) rfl))) (mvT hZ (hw _ (List.mem_of_getElem? (i := 199) rfl))) (mvT hZ (hw _ (List.mem_of_getElem? (i := 202) rfl))) (by decide) (backOf (W := 0) (rm_pciN l Z a0 hw [] iu ln h0 n0 Z0 hi hln) hZ (hw _ (List.mem_of_getElem? (i := 202) rfl)) (hw _ (List.mem_of_getElem? (i := 199) rfl)) (by decide) (by decide)) (g := (mkF m 5 #[iv (Int32.ofNat iu), iv (Int32.ofNat ln)] [.null, (.int (Int32.ofNat ln)), (.int (Int32.ofNat iu))])) rfl (by rw [hml]; rfl) (argsL := [(.int (Int32.ofNat iu)), (.int (Int32.ofNat ln)), .null]) (rest := []) (lenOf pd_17 rfl) rfl (by show 2 * 0 + _ ≤ _; exact Nat.le_of_eq rfl) (hb hby d_jdk_42_method_155_5) (fun _ _ => ⟨rfl, e1, (by decide : 0 + 0 ≤ _), (by decide : 0 + 0 ≤ _)⟩)
    dsimp only [Pt.U, Pt.locs, Pt.cells, Pt.slots] at X2 l2 y2 z2 st2 hQ2
    subst l2 y2 z2
    refine Go.pre st2 ?_
    obtain ⟨rfl, N2q, eh2⟩ := hQ2
    have N2 := Fr.app N0 N2q
    show Go p e below _ (T2.setTop (mkF m 8 #[iv (Int32.ofNat iu), iv (Int32.ofNat ln)] [(.int (Int32.ofNat iu))]))
    refine Go.pre (fun _ k => XS.pop X2.here hx rfl (hb hby d_jdk_42_method_155_8) rfl rfl k) ?_
    show Go p e below _ (T2.setTop (mkF m 9 #[iv (Int32.ofNat iu), iv (Int32.ofNat ln)] []))
    obtain ⟨fs, hr, hrun, hended, hW, hsame⟩ := X2.leave (v := none) (fun _ => rfl)
    refine Go.fin (X2.returnOut hx Bd.returns (hb hby d_jdk_42_method_155_9) hr) ⟨hrun, hended, _, _, rfl, ?_, ⟨_, rfl⟩, hW, hsame.mono (by decide) (by decide)⟩
    show Q_sci Z iu ln .null h0 n0 _ T2.heap _
    rw [eh2]
    exact ⟨rfl, N2, rfl⟩
  · skip
    show Go p e below _ (s₁.setTop (mkF m 0 #[iv (Int32.ofNat iu), iv (Int32.ofNat ln)] []))
    refine Go.pre (fun _ k => XS.iloadN X0.here hx rfl (hb hby d_jdk_42_method_155_0) rfl k) ?_
    show Go p e below _ (s₁.setTop (mkF m 1 #[iv (Int32.ofNat iu), iv (Int32.ofNat ln)] [(.int (Int32.ofNat iu))]))
    refine Go.pre (fun _ k => XS.iloadN X0.here hx rfl (hb hby d_jdk_42_method_155_1) rfl k) ?_
    show Go p e below _ (s₁.setTop (mkF m 2 #[iv (Int32.ofNat iu), iv (Int32.ofNat ln)] [(.int (Int32.ofNat ln)), (.int (Int32.ofNat iu))]))
    obtain ⟨T3, X3, e3, st3⟩ := getS2 X0 hx hZ hown (host := "") (Or.inl (hw _ (List.mem_of_getElem? (i := 198) rfl))) Via.refl e0 (SF.ext O.2) (g := (mkF m 2 #[iv (Int32.ofNat iu), iv (Int32.ofNat ln)] [(.int (Int32.ofNat ln)), (.int (Int32.ofNat iu))])) rfl (hb hby d_jdk_42_method_155_2)
    refine Go.pre st3 ?_
    show Go p e below _ (T3.setTop (mkF m 5 #[iv (Int32.ofNat iu), iv (Int32.ofNat ln)] [(.ref fa), (.int (Int32.ofNat ln)), (.int (Int32.ofNat iu))]))
    obtain ⟨_, _, ⟨T4, L4, k4, n4⟩, -, X4, ⟨Lc4, hQ4, l4, y4, z4⟩, st4⟩ := Jvm.LawKit.callS X3 hx (y := (⟨"jdk/internal/util/Preconditions", "checkIndex", "(IILjava/util/function/BiFunction;)I"⟩ : MethodName)) hown (mvT hZ (hw _ (List.mem_of_getElem? (i := 200) rfl))) (mvT hZ (hw _ (List.mem_of_getElem? (i := 201) rfl))) (mvT hZ (hw _ (List.mem_of_getElem? (i := 199) rfl))) (mvT hZ (hw _ (List.mem_of_getElem? (i := 202) rfl))) (by decide) (backOf (W := 0) (rm_pciR l Z a0 hw [] iu ln fa h0 n0 Z0 hi hln) hZ (hw _ (List.mem_of_getElem? (i := 202) rfl)) (hw _ (List.mem_of_getElem? (i := 199) rfl)) (by decide) (by decide)) (g := (mkF m 5 #[iv (Int32.ofNat iu), iv (Int32.ofNat ln)] [(.ref fa), (.int (Int32.ofNat ln)), (.int (Int32.ofNat iu))])) rfl (by rw [hml]; rfl) (argsL := [(.int (Int32.ofNat iu)), (.int (Int32.ofNat ln)), (.ref fa)]) (rest := []) (lenOf pd_17 rfl) rfl (by show 2 * 0 + _ ≤ _; exact Nat.le_of_eq rfl) (hb hby d_jdk_42_method_155_5) (fun _ _ => ⟨rfl, e3, (by decide : 0 + 0 ≤ _), (by decide : 0 + 0 ≤ _)⟩)
    dsimp only [Pt.U, Pt.locs, Pt.cells, Pt.slots] at X4 l4 y4 z4 st4 hQ4
    subst l4 y4 z4
    refine Go.pre st4 ?_
    obtain ⟨rfl, N4q, eh4⟩ := hQ4
    have N4 := Fr.app N0 N4q
    show Go p e below _ (T4.setTop (mkF m 8 #[iv (Int32.ofNat iu), iv (Int32.ofNat ln)] [(.int (Int32.ofNat iu))]))
    refine Go.pre (fun _ k => XS.pop X4.here hx rfl (hb hby d_jdk_42_method_155_8) rfl rfl k) ?_
    show Go p e below _ (T4.setTop (mkF m 9 #[iv (Int32.ofNat iu), iv (Int32.ofNat ln)] []))
    obtain ⟨fs, hr, hrun, hended, hW, hsame⟩ := X4.leave (v := none) (fun _ => rfl)
    refine Go.fin (X4.returnOut hx Bd.returns (hb hby d_jdk_42_method_155_9) hr) ⟨hrun, hended, _, _, rfl, ?_, ⟨_, rfl⟩, hW, hsame.mono (by decide) (by decide)⟩
    show Q_sci Z iu ln (.ref fa) h0 n0 _ T4.heap _
    rw [eh4]
    exact ⟨rfl, N4, rfl⟩

theorem ef_l1c (m : MethodId) (x0 : Addr) (x1 : Int32) : entryFrame m #[(.ref x0), (.int x1)] 2 = mkF m 0 #[rv x0, iv x1] [] := by first | (simp [entryFrame, mkF, argsToLocals, Value.category]; done) | rfl
theorem pn_l1c : plainName "java/lang/StringLatin1" = true := by first | (simp [plainName, overriddenIn]; done) | decide +kernel
def Q_l1c (Z : State) (bs : Addr) (ks : ClassId) (us : List Value) (iu : Nat) (ln : Nat) (ch : Nat) (fm : Value) (h0 : Heap) (n0 : Nat) (v : Option Value) (h : Heap) (L : List Loc) : Prop := v = some (.int (Int32.ofNat ch)) ∧ Fr n0 L ∧ h = h0
set_option maxRecDepth 65536 in
set_option maxHeartbeats 40000000 in
theorem rm_l1c (l : Launch) (Z : State) (a0 : Array Value) (hw : ∀ d ∈ tables_1, d.before a0 Z = true) (ws : List Jvm.Cond) (bs : Addr) (ks : ClassId) (us : List Value) (iu : Nat) (ln : Nat) (ch : Nat) (fm : Value) (h0 : Heap) (n0 : Nat) (Z0 : n0 ≤ h0.size) (O : Old Z n0 h0) (SF : Sta Z Z.heap "jdk/internal/util/Preconditions" "SIOOBE_FORMATTER" "Ljava/util/function/BiFunction;" fm) (hfm : fm.isRef = true) (hi : iu < ln) (hln : ln < 16) (hch : us.getD iu (.int 0) = .int (Int32.ofNat ch)) (hc : ch < 128) (sA : Arv Z h0 bs ks .byte (Int32.ofNat ln) us (.int 0)) :
    MetFree l (⟨"java/lang/StringLatin1", "charAt", "([BI)C"⟩ : MethodName) (head1 (Jvm.Cond.code (⟨"java/lang/StringLatin1", "charAt", "([BI)C"⟩ : MethodName) jdk_43_method_2_code 2 (some .char) :: ws) ({ frames := 2, cells := 0, slots := 0, locals := 27 } : Room)) (fun as_ U => as_ = #[(.ref bs), (.int (Int32.ofNat iu))] ∧ Z.Warmed39 U.vm ∧ U.heap = h0) (fun _ _ _ _ _ => True) (fun _ U o U' => ∃ v L, o = .returned v ∧ Q_l1c Z bs ks us iu ln ch fm h0 n0 v U'.heap L ∧ FrameEnd U o U' L ({ frames := 2, cells := 0, slots := 0, locals := 27 } : Room).cells ({ frames := 2, cells := 0, slots := 0, locals := 27 } : Room).slots) := by
  refine MetFree.of_bodySF (plainFor_of_name pn_l1c) hisR ?_
  intro p e s m args below meth c s₁ Bd hml0 hP hK
  obtain ⟨rfl, hZ, hh⟩ := hP
  have hx := Bd.exec
  have hby := Bd.bytes
  have hml : c.maxLocals = 2 := hml0
  have hown : s.vm.findClass "java/lang/StringLatin1" = some m.cls := findClass_of_methodNamed Bd.named
  have hnm := (name_of_methodNamed Bd.named Bd.method).1
  have X0 : Stand p l e ({ frames := 2, cells := 0, slots := 0, locals := 27 } : Room) s m #[(.ref bs), (.int (Int32.ofNat iu))] below meth c s₁ [] 0 0 := Stand.of_body Bd
  have e0 : s₁.heap = h0 := by rw [← hh, Bd.state]; rfl
  have N0 := Fr.nil n0
  refine Go.out ?_
  refine Go.pre (fun t k => castTop (ef_l1c m bs (Int32.ofNat iu)) k) ?_
  show Go p e below _ (s₁.setTop (mkF m 0 #[rv bs, iv (Int32.ofNat iu)] []))
  refine Go.pre (fun _ k => XS.iloadN X0.here hx rfl (hb hby d_jdk_43_method_2_0) rfl k) ?_
  show Go p e below _ (s₁.setTop (mkF m 1 #[rv bs, iv (Int32.ofNat iu)] [(.int (Int32.ofNat iu))]))
  refine Go.pre (fun _ k => XS.aloadN X0.here hx rfl (hb hby d_jdk_43_method_2_1) rfl rfl k) ?_
  show Go p e below _ (s₁.setTop (mkF m 2 #[rv bs, iv (Int32.ofNat iu)] [(.ref bs), (.int (Int32.ofNat iu))]))
  obtain ⟨cl1, Ar1, -, S1, N1z, -, -⟩ := id sA
  refine Go.pre (X0.arraylength hx (by rw [e0]; exact Ar1.1) (State.isArrayOf_alike hZ.alike Ar1.2.1) (g := (mkF m 2 #[rv bs, iv (Int32.ofNat iu)] [(.ref bs), (.int (Int32.ofNat iu))])) rfl rfl (hb hby d_jdk_43_method_2_2)) ?_
  rw [len_of S1 N1z]
  show Go p e below _ (s₁.setTop (mkF m 3 #[rv bs, iv (Int32.ofNat iu)] [(.int (Int32.ofNat ln)), (.int (Int32.ofNat iu))]))
  obtain ⟨_, _, ⟨T2, L2, k2, n2⟩, -, X2, ⟨Lc2, hQ2, l2, y2, z2⟩, st2⟩ := Jvm.LawKit.callS X0 hx (y := (⟨"java/lang/String", "checkIndex", "(II)V"⟩ : MethodName)) hown (mvT hZ (hw _ (List.mem_of_getElem? (i := 195) rfl))) (mvT hZ (hw _ (List.mem_of_getElem? (i := 196) rfl))) (mvT hZ (hw _ (List.mem_of_getElem? (i := 7) rfl))) (mvT hZ (hw _ (List.mem_of_getElem? (i := 197) rfl))) (by decide) (backOf (W := 0) (rm_sci l Z a0 hw [] iu ln fm h0 n0 Z0 O SF hfm hi hln) hZ (hw _ (List.mem_of_getElem? (i := 197) rfl)) (hw _ (List.mem_of_getElem? (i := 7) rfl)) (by decide) (by decide)) (g := (mkF m 3 #[rv bs, iv (Int32.ofNat iu)] [(.int (Int32.ofNat ln)), (.int (Int32.ofNat iu))])) rfl (by rw [hml]; rfl) (argsL := [(.int (Int32.ofNat iu)), (.int (Int32.ofNat ln))]) (rest := []) (lenOf pd_11 rfl) rfl (by show 2 * 0 + _ ≤ _; exact Nat.le_of_eq rfl) (hb hby d_jdk_43_method_2_3) (fun _ _ => ⟨rfl, e0, (by decide : 0 + 0 ≤ _), (by decide : 0 + 0 ≤ _)⟩)
  dsimp only [Pt.U, Pt.locs, Pt.cells, Pt.slots] at X2 l2 y2 z2 st2 hQ2
  subst l2 y2 z2
  refine Go.pre st2 ?_
  obtain ⟨rfl, N2q, eh2⟩ := hQ2
  have N2 := Fr.app N0 N2q
  show Go p e below _ (T2.setTop (mkF m 6 #[rv bs, iv (Int32.ofNat iu)] []))
  refine Go.pre (fun _ k => XS.aloadN X2.here hx rfl (hb hby d_jdk_43_method_2_6) rfl rfl k) ?_
  show Go p e below _ (T2.setTop (mkF m 7 #[rv bs, iv (Int32.ofNat iu)] [(.ref bs)]))
  refine Go.pre (fun _ k => XS.iloadN X2.here hx rfl (hb hby d_jdk_43_method_2_7) rfl k) ?_
  show Go p e below _ (T2.setTop (mkF m 8 #[rv bs, iv (Int32.ofNat iu)] [(.int (Int32.ofNat iu)), (.ref bs)]))
  obtain ⟨cl3, Ar3, -, S3, -, H3, -⟩ := id sA
  have hin3 := inb_of S3 ⟨own_nn (i := iu) (by omega), (own_ol (a := iu) (b := ln) (by omega) (by omega)).mpr hi⟩
  have hat3 := H3.at (j := Int32.ofNat iu) (v := .int (Int32.ofNat ch)) hin3 (by rw [own_clamp (by omega)]; exact hch)
  refine Go.pre (X2.baloadBytes hx (j := (Int32.ofNat iu)) (v := .int (Int32.ofNat ch)) (by rw [eh2]; exact Ar3.1) (State.isArrayOf_alike hZ.alike Ar3.2.1) Ar3.2.2 hin3 hat3 (g := (mkF m 8 #[rv bs, iv (Int32.ofNat iu)] [(.int (Int32.ofNat iu)), (.ref bs)])) rfl rfl (hb hby d_jdk_43_method_2_8)) ?_
  show Go p e below _ (T2.setTop (mkF m 9 #[rv bs, iv (Int32.ofNat iu)] [(.int (Int32.ofNat ch))]))
  refine Go.pre (fun _ k => XS.sipush X2.here hx rfl (hb hby d_jdk_43_method_2_9) k) ?_
  show Go p e below _ (T2.setTop (mkF m 12 #[rv bs, iv (Int32.ofNat iu)] [(.int (255 : Int32)), (.int (Int32.ofNat ch))]))
  refine Go.pre (fun _ k => XS.iand X2.here hx rfl (hb hby d_jdk_43_method_2_12) rfl k) ?_
  show Go p e below _ (T2.setTop (mkF m 13 #[rv bs, iv (Int32.ofNat iu)] [(.int ((Int32.ofNat ch) &&& (255 : Int32)))]))
  rw [own_a255 hc]
  show Go p e below _ (T2.setTop (mkF m 13 #[rv bs, iv (Int32.ofNat iu)] [(.int (Int32.ofNat ch))]))
  refine Go.pre (fun _ k => XS.i2c X2.here hx rfl (hb hby d_jdk_43_method_2_13) rfl k) ?_
  show Go p e below _ (T2.setTop (mkF m 14 #[rv bs, iv (Int32.ofNat iu)] [(.int ((Int32.ofNat ch).toUInt32.toUInt16.toUInt32.toInt32))]))
  rw [own_i2c hc]
  show Go p e below _ (T2.setTop (mkF m 14 #[rv bs, iv (Int32.ofNat iu)] [(.int (Int32.ofNat ch))]))
  obtain ⟨fs, hr, hrun, hended, hW, hsame⟩ := X2.leave (v := some (.int (nar .char (Int32.ofNat ch)))) (fun h => by rw [Bd.returns] at h; cases h)
  refine Go.fin (retN X2 hx (t := .char) Bd.returns (by simp) (hb hby d_jdk_43_method_2_14) hr) ⟨hrun, hended, _, _, rfl, ?_, ⟨_, rfl⟩, hW, hsame.mono (by decide) (by decide)⟩
  show Q_l1c Z bs ks us iu ln ch fm h0 n0 _ T2.heap _
  rw [eh2]
  exact ⟨congrArg (fun z => some (Value.int z)) (own_i2c hc), N2, rfl⟩

theorem ef_cha (m : MethodId) (x0 : Addr) (x1 : Int32) : entryFrame m #[(.ref x0), (.int x1)] 2 = mkF m 0 #[rv x0, iv x1] [] := by first | (simp [entryFrame, mkF, argsToLocals, Value.category]; done) | rfl
theorem pn_cha : plainName "java/lang/String" = true := by first | (simp [plainName, overriddenIn]; done) | decide +kernel
def Q_cha (Z : State) (a : Addr) (bs : Addr) (ks : ClassId) (us : List Value) (iu : Nat) (ln : Nat) (ch : Nat) (fm : Value) (cs : Int32) (h0 : Heap) (n0 : Nat) (v : Option Value) (h : Heap) (L : List Loc) : Prop := v = some (.int (Int32.ofNat ch)) ∧ Fr n0 L ∧ h = h0
set_option maxRecDepth 65536 in
set_option maxHeartbeats 40000000 in
theorem rm_cha (l : Launch) (Z : State) (a0 : Array Value) (hw : ∀ d ∈ tables_1, d.before a0 Z = true) (ws : List Jvm.Cond) (a : Addr) (bs : Addr) (ks : ClassId) (us : List Value) (iu : Nat) (ln : Nat) (ch : Nat) (fm : Value) (cs : Int32) (h0 : Heap) (n0 : Nat) (Z0 : n0 ≤ h0.size) (O : Old Z n0 h0) (SC : Sta Z Z.heap "java/lang/String" "COMPACT_STRINGS" "Z" (.int cs)) (hcs : ¬ cs = (0 : Int32)) (SF : Sta Z Z.heap "jdk/internal/util/Preconditions" "SIOOBE_FORMATTER" "Ljava/util/function/BiFunction;" fm) (hfm : fm.isRef = true) (hi : iu < ln) (hln : ln < 16) (hch : us.getD iu (.int 0) = .int (Int32.ofNat ch)) (hc : ch < 128) (SS : Str Z h0 a bs ks (Int32.ofNat ln) us) :
    MetFree l (⟨"java/lang/String", "charAt", "(I)C"⟩ : MethodName) (head1 (Jvm.Cond.code (⟨"java/lang/String", "charAt", "(I)C"⟩ : MethodName) jdk_42_method_56_code 2 (some .char) :: ws) ({ frames := 3, cells := 0, slots := 0, locals := 41 } : Room)) (fun as_ U => as_ = #[(.ref a), (.int (Int32.ofNat iu))] ∧ Z.Warmed39 U.vm ∧ U.heap = h0) (fun _ _ _ _ _ => True) (fun _ U o U' => ∃ v L, o = .returned v ∧ Q_cha Z a bs ks us iu ln ch fm cs h0 n0 v U'.heap L ∧ FrameEnd U o U' L ({ frames := 3, cells := 0, slots := 0, locals := 41 } : Room).cells ({ frames := 3, cells := 0, slots := 0, locals := 41 } : Room).slots) := by
  refine MetFree.of_bodySF (plainFor_of_name pn_cha) hisR ?_
  intro p e s m args below meth c s₁ Bd hml0 hP hK
  obtain ⟨rfl, hZ, hh⟩ := hP
  have hx := Bd.exec
  have hby := Bd.bytes
  have hml : c.maxLocals = 2 := hml0
  have hown : s.vm.findClass "java/lang/String" = some m.cls := findClass_of_methodNamed Bd.named
  have hnm := (name_of_methodNamed Bd.named Bd.method).1
  have X0 : Stand p l e ({ frames := 3, cells := 0, slots := 0, locals := 41 } : Room) s m #[(.ref a), (.int (Int32.ofNat iu))] below meth c s₁ [] 0 0 := Stand.of_body Bd
  have e0 : s₁.heap = h0 := by rw [← hh, Bd.state]; rfl
  have N0 := Fr.nil n0
  refine Go.out ?_
  refine Go.pre (fun t k => castTop (ef_cha m a (Int32.ofNat iu)) k) ?_
  obtain ⟨sE, sC, sV, sA⟩ := SS
  show Go p e below _ (s₁.setTop (mkF m 0 #[rv a, iv (Int32.ofNat iu)] []))
  refine Go.pre (fun _ k => XS.aloadN X0.here hx rfl (hb hby d_jdk_42_method_56_0) rfl rfl k) ?_
  show Go p e below _ (s₁.setTop (mkF m 1 #[rv a, iv (Int32.ofNat iu)] [(.ref a)]))
  obtain ⟨cq1, kq1, q1a, q1b, q1c⟩ := isOf hZ e0 sE
  obtain ⟨_, _, ⟨T1, L1, k1, n1⟩, -, X1, ⟨Lc1, hQ1, l1, y1, z1⟩, st1⟩ := X0.virtualBack hx (y := (⟨"java/lang/String", "isLatin1", "()Z"⟩ : MethodName)) (z := (⟨"java/lang/String", "isLatin1", "()Z"⟩ : MethodName)) hown (mvT hZ (hw _ (List.mem_of_getElem? (i := 186) rfl))) (mvT hZ (hw _ (List.mem_of_getElem? (i := 187) rfl))) (notFace_of_selects (args := #[]) (mvT hZ (hw _ (List.mem_of_getElem? (i := 189) rfl)))) (mvT hZ (hw _ (List.mem_of_getElem? (i := 189) rfl))) (mvT hZ (hw _ (List.mem_of_getElem? (i := 188) rfl))) (by decide) (backOf (W := 0) (rm_sil l Z a0 hw [] a cs h0 n0 Z0 O SC hcs sC) hZ (hw _ (List.mem_of_getElem? (i := 190) rfl)) (hw _ (List.mem_of_getElem? (i := 7) rfl)) (by decide) (by decide)) q1a q1c (g := (mkF m 1 #[rv a, iv (Int32.ofNat iu)] [(.ref a)])) rfl (by rw [hml]; rfl) (Steps.refl _) (argsL := []) (rest := []) (lenOf pd_8 rfl) rfl (by show 2 * 0 + _ ≤ _; exact Nat.le_of_eq rfl) (hb hby d_jdk_42_method_56_1) (fun _ _ => ⟨rfl, e0, (by decide : 0 + 0 ≤ _), (by decide : 0 + 0 ≤ _)⟩)
  dsimp only [Pt.U, Pt.locs, Pt.cells, Pt.slots] at X1 l1 y1 z1 st1 hQ1
  subst l1 y1 z1
  refine Go.pre (own_cut st1) ?_
  obtain ⟨rfl, N1q, eh1⟩ := hQ1
  have N1 := Fr.app N0 N1q
  show Go p e below _ (T1.setTop (mkF m 4 #[rv a, iv (Int32.ofNat iu)] [(.int (1 : Int32))]))
  refine Go.pre (fun _ k => XS.ifNo X1.here hx rfl (hb hby d_jdk_42_method_56_4) rfl ((if0 _ _).trans (feq (by decide : ¬ ((1 : Int32) = (0 : Int32)))).1) k) ?_
  show Go p e below _ (T1.setTop (mkF m 7 #[rv a, iv (Int32.ofNat iu)] []))
  refine Go.pre (fun _ k => XS.aloadN X1.here hx rfl (hb hby d_jdk_42_method_56_7) rfl rfl k) ?_
  show Go p e below _ (T1.setTop (mkF m 8 #[rv a, iv (Int32.ofNat iu)] [(.ref a)]))
  obtain ⟨T2, X2, e2, st2⟩ := getF X1 hx hZ hown (host := "") (Or.inl (hw _ (List.mem_of_getElem? (i := 77) rfl))) Via.refl eh1 sV (g := (mkF m 8 #[rv a, iv (Int32.ofNat iu)] [(.ref a)])) rfl rfl (hb hby d_jdk_42_method_56_8)
  refine Go.pre st2 ?_
  show Go p e below _ (T2.setTop (mkF m 11 #[rv a, iv (Int32.ofNat iu)] [(.ref bs)]))
  refine Go.pre (fun _ k => XS.iloadN X2.here hx rfl (hb hby d_jdk_42_method_56_11) rfl k) ?_
  show Go p e below _ (T2.setTop (mkF m 12 #[rv a, iv (Int32.ofNat iu)] [(.int (Int32.ofNat iu)), (.ref bs)]))
  obtain ⟨_, _, ⟨T3, L3, k3, n3⟩, -, X3, ⟨Lc3, hQ3, l3, y3, z3⟩, st3⟩ := Jvm.LawKit.callS X2 hx (y := (⟨"java/lang/StringLatin1", "charAt", "([BI)C"⟩ : MethodName)) hown (mvT hZ (hw _ (List.mem_of_getElem? (i := 191) rfl))) (mvT hZ (hw _ (List.mem_of_getElem? (i := 192) rfl))) (mvT hZ (hw _ (List.mem_of_getElem? (i := 193) rfl))) (mvT hZ (hw _ (List.mem_of_getElem? (i := 194) rfl))) (by decide) (backOf (W := 0) (rm_l1c l Z a0 hw [] bs ks us iu ln ch fm h0 n0 Z0 O SF hfm hi hln hch hc sA) hZ (hw _ (List.mem_of_getElem? (i := 194) rfl)) (hw _ (List.mem_of_getElem? (i := 193) rfl)) (by decide) (by decide)) (g := (mkF m 12 #[rv a, iv (Int32.ofNat iu)] [(.int (Int32.ofNat iu)), (.ref bs)])) rfl (by rw [hml]; rfl) (argsL := [(.ref bs), (.int (Int32.ofNat iu))]) (rest := []) (lenOf pd_18 rfl) rfl (by show 2 * 0 + _ ≤ _; exact Nat.le_of_eq rfl) (hb hby d_jdk_42_method_56_12) (fun _ _ => ⟨rfl, e2, (by decide : 0 + 0 ≤ _), (by decide : 0 + 0 ≤ _)⟩)
  dsimp only [Pt.U, Pt.locs, Pt.cells, Pt.slots] at X3 l3 y3 z3 st3 hQ3
  subst l3 y3 z3
  refine Go.pre st3 ?_
  obtain ⟨rfl, N3q, eh3⟩ := hQ3
  have N3 := Fr.app N1 N3q
  show Go p e below _ (T3.setTop (mkF m 15 #[rv a, iv (Int32.ofNat iu)] [(.int (Int32.ofNat ch))]))
  obtain ⟨fs, hr, hrun, hended, hW, hsame⟩ := X3.leave (v := some (.int (nar .char (Int32.ofNat ch)))) (fun h => by rw [Bd.returns] at h; cases h)
  refine Go.fin (retN X3 hx (t := .char) Bd.returns (by simp) (hb hby d_jdk_42_method_56_15) hr) ⟨hrun, hended, _, _, rfl, ?_, ⟨_, rfl⟩, hW, hsame.mono (by decide) (by decide)⟩
  show Q_cha Z a bs ks us iu ln ch fm cs h0 n0 _ T3.heap _
  rw [eh3]
  exact ⟨congrArg (fun z => some (Value.int z)) (own_i2c hc), N3, rfl⟩

theorem ef_stp (m : MethodId) (x0 : Addr) (x1 : Int32) (x2 : Int64) : entryFrame m #[(.ref x0), (.int x1), (.long x2)] 5 = mkF m 0 #[rv x0, iv x1, .val (.long x2), .second, .unset] [] := by first | (simp [entryFrame, mkF, argsToLocals, Value.category]; done) | rfl
theorem pn_stp : plainName "com/example/inferred_grant/inferredgrant/benchmark/SettingRequestUserPinLaw" = true := by first | (simp [plainName, overriddenIn]; done) | decide +kernel
def Q_stp (Z : State) (a : Addr) (bs : Addr) (ks : ClassId) (us : List Value) (iu : Nat) (ln : Nat) (fd : Nat → Nat) (vn : Nat) (fm : Value) (cs : Int32) (h0 : Heap) (n0 : Nat) (v : Option Value) (h : Heap) (L : List Loc) : Prop := v = some (.long (Int64.ofNat (if iu < ln then vn * 10 + fd iu else vn))) ∧ Fr n0 L ∧ h = h0
set_option maxRecDepth 65536 in
set_option maxHeartbeats 40000000 in
theorem rm_stp (l : Launch) (Z : State) (a0 : Array Value) (hw : ∀ d ∈ tables_1, d.before a0 Z = true) (ws : List Jvm.Cond) (a : Addr) (bs : Addr) (ks : ClassId) (us : List Value) (iu : Nat) (ln : Nat) (fd : Nat → Nat) (vn : Nat) (fm : Value) (cs : Int32) (h0 : Heap) (n0 : Nat) (Z0 : n0 ≤ h0.size) (O : Old Z n0 h0) (SC : Sta Z Z.heap "java/lang/String" "COMPACT_STRINGS" "Z" (.int cs)) (hcs : ¬ cs = (0 : Int32)) (SF : Sta Z Z.heap "jdk/internal/util/Preconditions" "SIOOBE_FORMATTER" "Ljava/util/function/BiFunction;" fm) (hfm : fm.isRef = true) (hln : ln < 16) (hi1 : 1 ≤ iu) (hi2 : iu ≤ 8) (hvn : vn < 100000000) (hus : ∀ j, 1 ≤ j → j < ln → us.getD j (.int 0) = .int (Int32.ofNat (48 + fd j)) ∧ fd j < 10) (SS : Str Z h0 a bs ks (Int32.ofNat ln) us) :
    MetFree l (⟨"com/example/inferred_grant/inferredgrant/benchmark/SettingRequestUserPinLaw", "step", "(Ljava/lang/String;IJ)J"⟩ : MethodName) (head1 (Jvm.Cond.code (⟨"com/example/inferred_grant/inferredgrant/benchmark/SettingRequestUserPinLaw", "step", "(Ljava/lang/String;IJ)J"⟩ : MethodName) method_3_code 5 (some .long) :: ws) ({ frames := 4, cells := 0, slots := 0, locals := 55 } : Room)) (fun as_ U => as_ = #[(.ref a), (.int (Int32.ofNat iu)), (.long (Int64.ofNat vn))] ∧ Z.Warmed39 U.vm ∧ U.heap = h0) (fun _ _ _ _ _ => True) (fun _ U o U' => ∃ v L, o = .returned v ∧ Q_stp Z a bs ks us iu ln fd vn fm cs h0 n0 v U'.heap L ∧ FrameEnd U o U' L ({ frames := 4, cells := 0, slots := 0, locals := 55 } : Room).cells ({ frames := 4, cells := 0, slots := 0, locals := 55 } : Room).slots) := by
  refine MetFree.of_bodySF (plainFor_of_name pn_stp) hisR ?_
  intro p e s m args below meth c s₁ Bd hml0 hP hK
  obtain ⟨rfl, hZ, hh⟩ := hP
  have hx := Bd.exec
  have hby := Bd.bytes
  have hml : c.maxLocals = 5 := hml0
  have hown : s.vm.findClass "com/example/inferred_grant/inferredgrant/benchmark/SettingRequestUserPinLaw" = some m.cls := findClass_of_methodNamed Bd.named
  have hnm := (name_of_methodNamed Bd.named Bd.method).1
  have X0 : Stand p l e ({ frames := 4, cells := 0, slots := 0, locals := 55 } : Room) s m #[(.ref a), (.int (Int32.ofNat iu)), (.long (Int64.ofNat vn))] below meth c s₁ [] 0 0 := Stand.of_body Bd
  have e0 : s₁.heap = h0 := by rw [← hh, Bd.state]; rfl
  have N0 := Fr.nil n0
  refine Go.out ?_
  refine Go.pre (fun t k => castTop (ef_stp m a (Int32.ofNat iu) (Int64.ofNat vn)) k) ?_
  obtain ⟨sE, sC, sV, sA⟩ := SS
  show Go p e below _ (s₁.setTop (mkF m 0 #[rv a, iv (Int32.ofNat iu), .val (.long (Int64.ofNat vn)), .second, .unset] []))
  refine Go.pre (fun _ k => XS.lloadN X0.here hx rfl (hb hby d_method_3_0) rfl k) ?_
  show Go p e below _ (s₁.setTop (mkF m 1 #[rv a, iv (Int32.ofNat iu), .val (.long (Int64.ofNat vn)), .second, .unset] [(.long (Int64.ofNat vn))]))
  refine Go.pre (fun _ k => XS.lconst X0.here hx rfl (hb hby d_method_3_1) k) ?_
  show Go p e below _ (s₁.setTop (mkF m 2 #[rv a, iv (Int32.ofNat iu), .val (.long (Int64.ofNat vn)), .second, .unset] [(.long (0 : Int64)), (.long (Int64.ofNat vn))]))
  refine Go.pre (fun _ k => XS.lcmp X0.here hx rfl (hb hby d_method_3_2) rfl k) ?_
  show Go p e below _ (s₁.setTop (mkF m 3 #[rv a, iv (Int32.ofNat iu), .val (.long (Int64.ofNat vn)), .second, .unset] [(.int (lcmpW (Int64.ofNat vn) (0 : Int64)))]))
  refine Go.pre (fun _ k => XS.ifYes X0.here hx rfl (pc0 := 3) (pc' := 10) rfl (hb hby d_method_3_3) rfl ((if0 _ _).trans (flt (own_ltF (own_nlneg (by omega)))).2.1) (by decide) (by decide) k) ?_
  show Go p e below _ (s₁.setTop (mkF m 10 #[rv a, iv (Int32.ofNat iu), .val (.long (Int64.ofNat vn)), .second, .unset] []))
  refine Go.pre (fun _ k => XS.iloadN X0.here hx rfl (hb hby d_method_3_10) rfl k) ?_
  show Go p e below _ (s₁.setTop (mkF m 11 #[rv a, iv (Int32.ofNat iu), .val (.long (Int64.ofNat vn)), .second, .unset] [(.int (Int32.ofNat iu))]))
  refine Go.pre (fun _ k => XS.aloadN X0.here hx rfl (hb hby d_method_3_11) rfl rfl k) ?_
  show Go p e below _ (s₁.setTop (mkF m 12 #[rv a, iv (Int32.ofNat iu), .val (.long (Int64.ofNat vn)), .second, .unset] [(.ref a), (.int (Int32.ofNat iu))]))
  obtain ⟨cq1, kq1, q1a, q1b, q1c⟩ := isOf hZ e0 sE
  obtain ⟨_, _, ⟨T1, L1, k1, n1⟩, -, X1, ⟨Lc1, hQ1, l1, y1, z1⟩, st1⟩ := X0.virtualBack hx (y := (⟨"java/lang/String", "length", "()I"⟩ : MethodName)) (z := (⟨"java/lang/String", "length", "()I"⟩ : MethodName)) hown (mvT hZ (hw _ (List.mem_of_getElem? (i := 180) rfl))) (mvT hZ (hw _ (List.mem_of_getElem? (i := 73) rfl))) (notFace_of_selects (args := #[]) (mvT hZ (hw _ (List.mem_of_getElem? (i := 75) rfl)))) (mvT hZ (hw _ (List.mem_of_getElem? (i := 75) rfl))) (mvT hZ (hw _ (List.mem_of_getElem? (i := 74) rfl))) (by decide) (backOf (W := 1) (rm_length l Z a0 hw [] a bs ks (Int32.ofNat ln) us cs h0 n0 Z0 O SC hcs ⟨sE, sC, sV, sA⟩) hZ (hw _ (List.mem_of_getElem? (i := 76) rfl)) (hw _ (List.mem_of_getElem? (i := 7) rfl)) (by decide) (by decide)) q1a q1c (g := (mkF m 12 #[rv a, iv (Int32.ofNat iu), .val (.long (Int64.ofNat vn)), .second, .unset] [(.ref a), (.int (Int32.ofNat iu))])) rfl (by rw [hml]; rfl) (Steps.refl _) (argsL := []) (rest := [(.int (Int32.ofNat iu))]) (lenOf pd_1 rfl) rfl (by show 2 * 0 + _ ≤ _; exact Nat.le_of_eq rfl) (hb hby d_method_3_12) (fun _ _ => ⟨rfl, e0, (by decide : 0 + 0 ≤ _), (by decide : 0 + 0 ≤ _)⟩)
  dsimp only [Pt.U, Pt.locs, Pt.cells, Pt.slots] at X1 l1 y1 z1 st1 hQ1
  subst l1 y1 z1
  refine Go.pre (own_cut st1) ?_
  obtain ⟨rfl, N1q, eh1⟩ := hQ1
  have N1 := Fr.app N0 N1q
  show Go p e below _ (T1.setTop (mkF m 15 #[rv a, iv (Int32.ofNat iu), .val (.long (Int64.ofNat vn)), .second, .unset] [(.int (Int32.ofNat ln)), (.int (Int32.ofNat iu))]))
  by_cases hc15_2 : iu < ln
  · skip
    refine Go.pre (fun _ k => XS.icmpYes X1.here hx rfl (pc0 := 15) (pc' := 20) rfl (hb hby d_method_3_15) rfl (tlt ((own_ol (a := iu) (b := ln) (by omega) (by omega)).mpr hc15_2)).1 (by decide) (by decide) k) ?_
    obtain ⟨hch, hfd⟩ := hus iu hi1 hc15_2
    show Go p e below _ (T1.setTop (mkF m 20 #[rv a, iv (Int32.ofNat iu), .val (.long (Int64.ofNat vn)), .second, .unset] []))
    refine Go.pre (fun _ k => XS.aloadN X1.here hx rfl (hb hby d_method_3_20) rfl rfl k) ?_
    show Go p e below _ (T1.setTop (mkF m 21 #[rv a, iv (Int32.ofNat iu), .val (.long (Int64.ofNat vn)), .second, .unset] [(.ref a)]))
    refine Go.pre (fun _ k => XS.iloadN X1.here hx rfl (hb hby d_method_3_21) rfl k) ?_
    show Go p e below _ (T1.setTop (mkF m 22 #[rv a, iv (Int32.ofNat iu), .val (.long (Int64.ofNat vn)), .second, .unset] [(.int (Int32.ofNat iu)), (.ref a)]))
    obtain ⟨cq3, kq3, q3a, q3b, q3c⟩ := isOf hZ eh1 sE
    obtain ⟨_, _, ⟨T3, L3, k3, n3⟩, -, X3, ⟨Lc3, hQ3, l3, y3, z3⟩, st3⟩ := X1.virtualBack hx (y := (⟨"java/lang/String", "charAt", "(I)C"⟩ : MethodName)) (z := (⟨"java/lang/String", "charAt", "(I)C"⟩ : MethodName)) hown (mvT hZ (hw _ (List.mem_of_getElem? (i := 181) rfl))) (mvT hZ (hw _ (List.mem_of_getElem? (i := 182) rfl))) (notFace_of_selects (args := #[]) (mvT hZ (hw _ (List.mem_of_getElem? (i := 184) rfl)))) (mvT hZ (hw _ (List.mem_of_getElem? (i := 184) rfl))) (mvT hZ (hw _ (List.mem_of_getElem? (i := 183) rfl))) (by decide) (backOf (W := 0) (rm_cha l Z a0 hw [] a bs ks us iu ln (48 + fd iu) fm cs h0 n0 Z0 O SC hcs SF hfm hc15_2 hln hch (by omega) ⟨sE, sC, sV, sA⟩) hZ (hw _ (List.mem_of_getElem? (i := 185) rfl)) (hw _ (List.mem_of_getElem? (i := 7) rfl)) (by decide) (by decide)) q3a q3c (g := (mkF m 22 #[rv a, iv (Int32.ofNat iu), .val (.long (Int64.ofNat vn)), .second, .unset] [(.int (Int32.ofNat iu)), (.ref a)])) rfl (by rw [hml]; rfl) (Steps.refl _) (argsL := [(.int (Int32.ofNat iu))]) (rest := []) (lenOf pd_19 rfl) rfl (by show 2 * 0 + _ ≤ _; exact Nat.le_of_eq rfl) (hb hby d_method_3_22) (fun _ _ => ⟨rfl, eh1, (by decide : 0 + 0 ≤ _), (by decide : 0 + 0 ≤ _)⟩)
    dsimp only [Pt.U, Pt.locs, Pt.cells, Pt.slots] at X3 l3 y3 z3 st3 hQ3
    subst l3 y3 z3
    refine Go.pre (own_cut st3) ?_
    obtain ⟨rfl, N3q, eh3⟩ := hQ3
    have N3 := Fr.app N1 N3q
    show Go p e below _ (T3.setTop (mkF m 25 #[rv a, iv (Int32.ofNat iu), .val (.long (Int64.ofNat vn)), .second, .unset] [(.int (Int32.ofNat (48 + fd iu)))]))
    refine Go.pre (fun _ k => XS.istore X3.here hx rfl (hb hby d_method_3_25) rfl (l' := #[rv a, iv (Int32.ofNat iu), .val (.long (Int64.ofNat vn)), .second, iv (Int32.ofNat (48 + fd iu))]) rfl k) ?_
    show Go p e below _ (T3.setTop (mkF m 27 #[rv a, iv (Int32.ofNat iu), .val (.long (Int64.ofNat vn)), .second, iv (Int32.ofNat (48 + fd iu))] []))
    refine Go.pre (fun _ k => XS.iload X3.here hx rfl (hb hby d_method_3_27) rfl k) ?_
    show Go p e below _ (T3.setTop (mkF m 29 #[rv a, iv (Int32.ofNat iu), .val (.long (Int64.ofNat vn)), .second, iv (Int32.ofNat (48 + fd iu))] [(.int (Int32.ofNat (48 + fd iu)))]))
    refine Go.pre (fun _ k => XS.bipush X3.here hx rfl (hb hby d_method_3_29) k) ?_
    show Go p e below _ (T3.setTop (mkF m 31 #[rv a, iv (Int32.ofNat iu), .val (.long (Int64.ofNat vn)), .second, iv (Int32.ofNat (48 + fd iu))] [(.int (48 : Int32)), (.int (Int32.ofNat (48 + fd iu)))]))
    refine Go.pre (fun _ k => XS.icmpNo X3.here hx rfl (hb hby d_method_3_31) rfl (flt (fun q => absurd ((own_ol (a := 48 + fd iu) (b := 48) (by omega) (by omega)).mp q) (by omega))).1 k) ?_
    show Go p e below _ (T3.setTop (mkF m 34 #[rv a, iv (Int32.ofNat iu), .val (.long (Int64.ofNat vn)), .second, iv (Int32.ofNat (48 + fd iu))] []))
    refine Go.pre (fun _ k => XS.iload X3.here hx rfl (hb hby d_method_3_34) rfl k) ?_
    show Go p e below _ (T3.setTop (mkF m 36 #[rv a, iv (Int32.ofNat iu), .val (.long (Int64.ofNat vn)), .second, iv (Int32.ofNat (48 + fd iu))] [(.int (Int32.ofNat (48 + fd iu)))]))
    refine Go.pre (fun _ k => XS.bipush X3.here hx rfl (hb hby d_method_3_36) k) ?_
    show Go p e below _ (T3.setTop (mkF m 38 #[rv a, iv (Int32.ofNat iu), .val (.long (Int64.ofNat vn)), .second, iv (Int32.ofNat (48 + fd iu))] [(.int (57 : Int32)), (.int (Int32.ofNat (48 + fd iu)))]))
    refine Go.pre (fun _ k => XS.icmpYes X3.here hx rfl (pc0 := 38) (pc' := 45) rfl (hb hby d_method_3_38) rfl (flt (fun q => absurd ((own_ol (a := 57) (b := 48 + fd iu) (by omega) (by omega)).mp q) (by omega))).2.2.2 (by decide) (by decide) k) ?_
    show Go p e below _ (T3.setTop (mkF m 45 #[rv a, iv (Int32.ofNat iu), .val (.long (Int64.ofNat vn)), .second, iv (Int32.ofNat (48 + fd iu))] []))
    refine Go.pre (fun _ k => XS.lloadN X3.here hx rfl (hb hby d_method_3_45) rfl k) ?_
    show Go p e below _ (T3.setTop (mkF m 46 #[rv a, iv (Int32.ofNat iu), .val (.long (Int64.ofNat vn)), .second, iv (Int32.ofNat (48 + fd iu))] [(.long (Int64.ofNat vn))]))
    refine Go.pre (X3.ldc2Long hx hown (mvT hZ (hw _ (List.mem_of_getElem? (i := 207) rfl))) (g := (mkF m 46 #[rv a, iv (Int32.ofNat iu), .val (.long (Int64.ofNat vn)), .second, iv (Int32.ofNat (48 + fd iu))] [(.long (Int64.ofNat vn))])) rfl (hb hby d_method_3_46)) ?_
    show Go p e below _ (T3.setTop (mkF m 49 #[rv a, iv (Int32.ofNat iu), .val (.long (Int64.ofNat vn)), .second, iv (Int32.ofNat (48 + fd iu))] [(.long (10 : Int64)), (.long (Int64.ofNat vn))]))
    refine Go.pre (fun _ k => XS.lmul X3.here hx rfl (hb hby d_method_3_49) rfl k) ?_
    show Go p e below _ (T3.setTop (mkF m 50 #[rv a, iv (Int32.ofNat iu), .val (.long (Int64.ofNat vn)), .second, iv (Int32.ofNat (48 + fd iu))] [(.long ((Int64.ofNat vn) * (Int64.ofNat 10)))]))
    rw [own_lmul vn 10]
    show Go p e below _ (T3.setTop (mkF m 50 #[rv a, iv (Int32.ofNat iu), .val (.long (Int64.ofNat vn)), .second, iv (Int32.ofNat (48 + fd iu))] [(.long (Int64.ofNat (vn * 10)))]))
    refine Go.pre (fun _ k => XS.iload X3.here hx rfl (hb hby d_method_3_50) rfl k) ?_
    show Go p e below _ (T3.setTop (mkF m 52 #[rv a, iv (Int32.ofNat iu), .val (.long (Int64.ofNat vn)), .second, iv (Int32.ofNat (48 + fd iu))] [(.int (Int32.ofNat (48 + fd iu))), (.long (Int64.ofNat (vn * 10)))]))
    refine Go.pre (fun _ k => XS.bipush X3.here hx rfl (hb hby d_method_3_52) k) ?_
    show Go p e below _ (T3.setTop (mkF m 54 #[rv a, iv (Int32.ofNat iu), .val (.long (Int64.ofNat vn)), .second, iv (Int32.ofNat (48 + fd iu))] [(.int (48 : Int32)), (.int (Int32.ofNat (48 + fd iu))), (.long (Int64.ofNat (vn * 10)))]))
    refine Go.pre (fun _ k => XS.isub X3.here hx rfl (hb hby d_method_3_54) rfl k) ?_
    show Go p e below _ (T3.setTop (mkF m 55 #[rv a, iv (Int32.ofNat iu), .val (.long (Int64.ofNat vn)), .second, iv (Int32.ofNat (48 + fd iu))] [(.int ((Int32.ofNat (48 + fd iu)) - (Int32.ofNat 48))), (.long (Int64.ofNat (vn * 10)))]))
    rw [own_osub (a := 48 + fd iu) (b := 48) (by omega)]
    show Go p e below _ (T3.setTop (mkF m 55 #[rv a, iv (Int32.ofNat iu), .val (.long (Int64.ofNat vn)), .second, iv (Int32.ofNat (48 + fd iu))] [(.int (Int32.ofNat (48 + fd iu - 48))), (.long (Int64.ofNat (vn * 10)))]))
    refine Go.pre (fun _ k => XS.i2l X3.here hx rfl (hb hby d_method_3_55) rfl k) ?_
    show Go p e below _ (T3.setTop (mkF m 56 #[rv a, iv (Int32.ofNat iu), .val (.long (Int64.ofNat vn)), .second, iv (Int32.ofNat (48 + fd iu))] [(.long ((Int32.ofNat (48 + fd iu - 48)).toInt64)), (.long (Int64.ofNat (vn * 10)))]))
    rw [own_i2l (by omega)]
    show Go p e below _ (T3.setTop (mkF m 56 #[rv a, iv (Int32.ofNat iu), .val (.long (Int64.ofNat vn)), .second, iv (Int32.ofNat (48 + fd iu))] [(.long (Int64.ofNat (48 + fd iu - 48))), (.long (Int64.ofNat (vn * 10)))]))
    refine Go.pre (fun _ k => XS.ladd X3.here hx rfl (hb hby d_method_3_56) rfl k) ?_
    show Go p e below _ (T3.setTop (mkF m 57 #[rv a, iv (Int32.ofNat iu), .val (.long (Int64.ofNat vn)), .second, iv (Int32.ofNat (48 + fd iu))] [(.long ((Int64.ofNat (vn * 10)) + (Int64.ofNat (48 + fd iu - 48))))]))
    rw [own_ladd]
    show Go p e below _ (T3.setTop (mkF m 57 #[rv a, iv (Int32.ofNat iu), .val (.long (Int64.ofNat vn)), .second, iv (Int32.ofNat (48 + fd iu))] [(.long (Int64.ofNat (vn * 10 + (48 + fd iu - 48))))]))
    obtain ⟨fs, hr, hrun, hended, hW, hsame⟩ := X3.leave (v := some (.long (Int64.ofNat (vn * 10 + (48 + fd iu - 48))))) (fun h => by rw [Bd.returns] at h; cases h)
    refine Go.fin (retOut X3 hx Bd.returns rfl (Or.inr (Or.inl ⟨rfl, rfl, _, rfl⟩)) (hb hby d_method_3_57) hr) ⟨hrun, hended, _, _, rfl, ?_, ⟨_, rfl⟩, hW, hsame.mono (by decide) (by decide)⟩
    show Q_stp Z a bs ks us iu ln fd vn fm cs h0 n0 _ T3.heap _
    rw [eh3]
    exact ⟨by rw [if_pos hc15_2]; exact congrArg (fun z => some (Value.long (Int64.ofNat z))) (by omega), N3, rfl⟩
  · skip
    refine Go.pre (fun _ k => XS.icmpNo X1.here hx rfl (hb hby d_method_3_15) rfl (flt (fun q => hc15_2 ((own_ol (a := iu) (b := ln) (by omega) (by omega)).mp q))).1 k) ?_
    show Go p e below _ (T1.setTop (mkF m 18 #[rv a, iv (Int32.ofNat iu), .val (.long (Int64.ofNat vn)), .second, .unset] []))
    refine Go.pre (fun _ k => XS.lloadN X1.here hx rfl (hb hby d_method_3_18) rfl k) ?_
    show Go p e below _ (T1.setTop (mkF m 19 #[rv a, iv (Int32.ofNat iu), .val (.long (Int64.ofNat vn)), .second, .unset] [(.long (Int64.ofNat vn))]))
    obtain ⟨fs, hr, hrun, hended, hW, hsame⟩ := X1.leave (v := some (.long (Int64.ofNat vn))) (fun h => by rw [Bd.returns] at h; cases h)
    refine Go.fin (retOut X1 hx Bd.returns rfl (Or.inr (Or.inl ⟨rfl, rfl, _, rfl⟩)) (hb hby d_method_3_19) hr) ⟨hrun, hended, _, _, rfl, ?_, ⟨_, rfl⟩, hW, hsame.mono (by decide) (by decide)⟩
    show Q_stp Z a bs ks us iu ln fd vn fm cs h0 n0 _ T1.heap _
    rw [eh1]
    exact ⟨by rw [if_neg hc15_2], N1, rfl⟩

abbrev EL : List (String × Nat) := [("com/example/inferred_grant/inferredgrant/benchmark/Setting", 129)]
theorem own_sat : ∀ d ∈ Bundle.stringAtoms, d ∈ tables_1 := by decide +kernel
theorem own_lnz {u : Nat} (h : 0 < u) (h2 : u < 2 ^ 63) : Int64.ofNat u ≠ 0 := fun q => by
  have e := congrArg Int64.toInt q
  rw [own_lo h2, show (0 : Int64).toInt = 0 from rfl] at e
  omega
theorem ef_user (m : MethodId) (x0 : Int64) : entryFrame m #[(.long x0)] 2 = mkF m 0 #[.val (.long x0), .second] [] := by first | (simp [entryFrame, mkF, argsToLocals, Value.category]; done) | rfl
theorem pn_user : plainName "com/example/inferred_grant/inferredgrant/benchmark/Setting" = true := by first | (simp [plainName, overriddenIn]; done) | decide +kernel
def Q_user (Z : State) (nu : Nat) (d1a : Addr) (d10a : Addr) (cs : Int32) (h0 : Heap) (n0 : Nat) (v : Option Value) (h : Heap) (L : List Loc) : Prop := ∃ (ts r : Addr) (kr : ClassId), v = some (.ref ts) ∧ Fr n0 L ∧ Keep h0 h [] ∧ h0.size ≤ ts ∧ Str Z h ts r kr (Int32.ofNat (1 + own_len nu)) (((own_gc 5 nu (1 + own_len nu) own_v0).map Value.int).take (1 + own_len nu))
set_option maxRecDepth 65536 in
set_option maxHeartbeats 40000000 in
theorem rm_user (l : Launch) (Z : State) (a0 : Array Value) (hw : ∀ d ∈ tables_1, d.before a0 Z = true) (ws : List Jvm.Cond) (nu : Nat) (d1a : Addr) (d10a : Addr) (cs : Int32) (h0 : Heap) (n0 : Nat) (Z0 : n0 ≤ h0.size) (O : Old Z n0 h0) (SC : Sta Z Z.heap "java/lang/String" "COMPACT_STRINGS" "Z" (.int cs)) (hcs : ¬ cs = (0 : Int32)) (SD1 : Sta Z Z.heap "java/lang/Integer" "DigitOnes" "[B" (.ref d1a)) (G1 : Dgt Z d1a own_d1) (SD10 : Sta Z Z.heap "java/lang/Integer" "DigitTens" "[B" (.ref d10a)) (G10 : Dgt Z d10a own_d10) (hn : nu < 100000000) (hEL : EW Z a0 EL) :
    MetFree l (⟨"com/example/inferred_grant/inferredgrant/benchmark/Setting", "user", "(J)Ljava/lang/String;"⟩ : MethodName) (head1 (Jvm.Cond.code (⟨"com/example/inferred_grant/inferredgrant/benchmark/Setting", "user", "(J)Ljava/lang/String;"⟩ : MethodName) prog_6_method_10_code 2 (some (.object "java/lang/String")) :: ws) ({ frames := 6, cells := 6, slots := 48, locals := 103 } : Room)) (fun as_ U => as_ = #[(.long (Int64.ofNat nu))] ∧ Z.Warmed39 U.vm ∧ U.heap = h0 ∧ CHv Z EL U.vm h0) (fun _ _ _ _ _ => True) (fun _ U o U' => ∃ v L, o = .returned v ∧ Q_user Z nu d1a d10a cs h0 n0 v U'.heap L ∧ CHr Z EL U.vm U.heap U'.vm U'.heap ∧ ReturnedEndW U o U' L ({ frames := 6, cells := 6, slots := 48, locals := 103 } : Room).cells ({ frames := 6, cells := 6, slots := 48, locals := 103 } : Room).slots) := by
  refine MetFree.of_bodySF (plainFor_of_name pn_user) hisR ?_
  intro p e s m args below meth c s₁ Bd hml0 hP hK
  obtain ⟨rfl, hZ, hh, CH0⟩ := hP
  have hx := Bd.exec
  have hby := Bd.bytes
  have hml : c.maxLocals = 2 := hml0
  have hown : s.vm.findClass "com/example/inferred_grant/inferredgrant/benchmark/Setting" = some m.cls := findClass_of_methodNamed Bd.named
  have hnm := (name_of_methodNamed Bd.named Bd.method).1
  have X0 : Stand p l e ({ frames := 6, cells := 6, slots := 48, locals := 103 } : Room) s m #[(.long (Int64.ofNat nu))] below meth c s₁ [] 0 0 := Stand.of_body Bd
  have e0 : s₁.heap = h0 := by rw [← hh, Bd.state]; rfl
  have N0 := Fr.nil n0
  refine Go.out ?_
  refine Go.pre (fun t k => castTop (ef_user m (Int64.ofNat nu)) k) ?_
  have X0 : Stand p l e ({ frames := 6, cells := 6, slots := 48, locals := 103 } : Room) (s.setVm s.vm) m #[(.long (Int64.ofNat nu))] below meth c s₁ [] 0 0 := X0
  have CR0 := CHr.refl CH0
  have hlen := own_len_le nu
  show Go p e below _ (s₁.setTop (mkF m 0 #[.val (.long (Int64.ofNat nu)), .second] []))
  obtain ⟨T1, h1, X1, e1, E1, A1, D1, U1, st1⟩ := newO X0 hx hZ hown (hw _ (List.mem_of_getElem? (i := 43) rfl)) (hw _ (List.mem_of_getElem? (i := 44) rfl)) (hw _ (List.mem_of_getElem? (i := 45) rfl)) e0 (g := (mkF m 0 #[.val (.long (Int64.ofNat nu)), .second] [])) rfl (hb hby d_prog_6_method_10_0) (by decide) (by decide)
  obtain ⟨b1, q1⟩ : ∃ z, z = h0.size := ⟨_, rfl⟩
  rw [← q1] at A1 D1 st1
  have g_b1 : n0 ≤ b1 := Nat.le_trans Z0 (Nat.le_of_eq q1.symm)
  have sz_b1 : h0.size ≤ b1 := Nat.le_trans (Keep.refl h0 []).1 (Nat.le_of_eq q1.symm)
  refine Go.pre st1 ?_
  have KC1 : Keep h0 h1 [] := (Keep.refl h0 []).ext E1
  have CR1 := CR0.trans (CHr.ext E1 CR0.1)
  have F_value_b1 : Fld Z h1 b1 "java/lang/AbstractStringBuilder" "value" "[B" .null := D1 (Or.inl (hw _ (List.mem_of_getElem? (i := 58) rfl))) (ty := (.array .byte)) (by decide)
  have F_coder_b1 : Fld Z h1 b1 "java/lang/AbstractStringBuilder" "coder" "B" (.int (0 : Int32)) := D1 (Or.inl (hw _ (List.mem_of_getElem? (i := 60) rfl))) (ty := .byte) (by decide)
  have F_count_b1 : Fld Z h1 b1 "java/lang/AbstractStringBuilder" "count" "I" (.int (0 : Int32)) := D1 (Or.inl (hw _ (List.mem_of_getElem? (i := 86) rfl))) (ty := .int) (by decide)
  have sf_b1 := Safe.exa (EL := EL) hZ.alike A1 (by decide) (by decide)
  show Go p e below _ (T1.setTop (mkF m 3 #[.val (.long (Int64.ofNat nu)), .second] [(.ref b1)]))
  refine Go.pre (fun _ k => XS.dup X1.here hx rfl (hb hby d_prog_6_method_10_3) rfl rfl k) ?_
  show Go p e below _ (T1.setTop (mkF m 4 #[.val (.long (Int64.ofNat nu)), .second] [(.ref b1), (.ref b1)]))
  obtain ⟨_, _, ⟨T2, L2, k2, n2⟩, -, X2, ⟨Lc2, hQ2, l2, y2, z2⟩, st2⟩ := X1.specialBack hx (y := (⟨"java/lang/StringBuilder", "<init>", "()V"⟩ : MethodName)) rfl hown (mvT hZ (hw _ (List.mem_of_getElem? (i := 46) rfl))) (mvT hZ (hw _ (List.mem_of_getElem? (i := 47) rfl))) (mvT hZ (hw _ (List.mem_of_getElem? (i := 48) rfl))) (by decide) (backOf (W := 1) (rm_bi l Z a0 hw [] b1 cs h1 n0 (Nat.le_trans Z0 E1.1) (O.ext E1) SC hcs A1 F_coder_b1 F_value_b1 F_count_b1 g_b1) hZ (hw _ (List.mem_of_getElem? (i := 48) rfl)) (hw _ (List.mem_of_getElem? (i := 45) rfl)) (by decide) (by decide)) (g := (mkF m 4 #[.val (.long (Int64.ofNat nu)), .second] [(.ref b1), (.ref b1)])) rfl (by rw [hml]; rfl) (Steps.refl _) (a := b1) (argsL := []) (rest := [(.ref b1)]) (lenOf pd_20 rfl) rfl (by show 2 * 0 + _ ≤ _; exact Nat.le_of_eq rfl) (hb hby d_prog_6_method_10_4) (fun _ _ => ⟨rfl, e1, (by decide : 1 + 1 ≤ _), (by decide : 4 + 16 ≤ _)⟩)
  dsimp only [Pt.U, Pt.locs, Pt.cells, Pt.slots] at X2 l2 y2 z2 st2 hQ2
  subst l2 y2 z2
  refine Go.pre (own_cut st2) ?_
  obtain ⟨rfl, N2q, K2, b2v, kb2, B2, z2'⟩ := hQ2
  have N2 := Fr.app N0 N2q
  have KC2 : Keep h0 T2.heap [] := KC1.trans K2 (allS (Or.inr sz_b1) all0)
  have hs2 := ((sfS sf_b1 sf0) : ∀ x ∈ [b1], Safe Z EL _ _ x)
  have CR2 := CR1.trans (CHr.keep K2 hs2 CR1.1)
  have sf_b1_2 := Safe.keep K2 hs2 CR1.1 sf_b1
  obtain ⟨uE2, uC2, uV2, uN2, uA2⟩ := B2
  have g_b2v : n0 ≤ b2v := Nat.le_trans (Nat.le_trans Z0 E1.1) z2'
  have sz_b2v : h0.size ≤ b2v := Nat.le_trans KC1.1 z2'
  have ne_b1_b2v : b1 ≠ b2v := Nat.ne_of_lt (Nat.lt_of_lt_of_le A1.lt z2')
  have sf_b2v := Safe.keep K2 hs2 CR1.1 (Safe.new z2')
  show Go p e below _ (T2.setTop (mkF m 7 #[.val (.long (Int64.ofNat nu)), .second] [(.ref b1)]))
  obtain ⟨sa3, T3, h3, k3', bs3, ks3, X3, e3, E3, hS3, hk3, hZ3, hown3, sE3, sC3, sV3, sA3, -, -, C3, -, hne3, st3⟩ := ldcCH (s := s) (vm0 := s.vm) X2 hx hZ hown (hw _ (List.mem_of_getElem? (i := 61) rfl)) (fun d hd => hw d (own_sat d hd)) rfl (k0 := 0) ((State.WarmedH.refl s).since 0) (Nat.zero_le _) hEL (List.mem_cons_self ..) CR2.1 (vs := [.int 117]) (z := 1) ⟨by decide, by decide⟩ (by decide) (by decide) (g := (mkF m 7 #[.val (.long (Int64.ofNat nu)), .second] [(.ref b1)])) rfl (hb hby d_prog_6_method_10_7) (n := 4) (by decide) (by decide) (by decide) (by decide)
  refine Go.pre st3 ?_
  have KC3 : Keep h0 h3 [] := KC2.ext E3
  have CR3 := CR2.trans C3
  have sf_b1_3 := C3.safe uE2.lt sf_b1_2
  have sf_b2v_3 := C3.safe uA2.lt sf_b2v
  have ne_b1_sa3 := (hne3 b1 sf_b1_3).1
  have ne_b1_bs3 := (hne3 b1 sf_b1_3).2
  have ne_b2v_sa3 := (hne3 b2v sf_b2v_3).1
  have ne_b2v_bs3 := (hne3 b2v sf_b2v_3).2
  show Go p e below _ (T3.setTop (mkF m 9 #[.val (.long (Int64.ofNat nu)), .second] [(.ref sa3), (.ref b1)]))
  obtain ⟨cq4, kq4, q4a, q4b, q4c⟩ := isOf hZ3 e3 (uE2.ext E3)
  obtain ⟨_, _, ⟨T4, L4, k4, n4⟩, -, X4, ⟨Lc4, hQ4, l4, y4, z4⟩, st4⟩ := X3.virtualBack hx (y := (⟨"java/lang/StringBuilder", "append", "(Ljava/lang/String;)Ljava/lang/StringBuilder;"⟩ : MethodName)) (z := (⟨"java/lang/StringBuilder", "append", "(Ljava/lang/String;)Ljava/lang/StringBuilder;"⟩ : MethodName)) hown3 (mvT hZ3 (hw _ (List.mem_of_getElem? (i := 62) rfl))) (mvT hZ3 (hw _ (List.mem_of_getElem? (i := 63) rfl))) (notFace_of_selects (args := #[]) (mvT hZ3 (hw _ (List.mem_of_getElem? (i := 65) rfl)))) (mvT hZ3 (hw _ (List.mem_of_getElem? (i := 65) rfl))) (mvT hZ3 (hw _ (List.mem_of_getElem? (i := 64) rfl))) (by decide) (backOf (W := 0) (rm_sbS l Z a0 hw [] b1 b2v kb2 sa3 bs3 ks3 cs h3 n0 (Nat.le_trans (Nat.le_trans (Nat.le_trans Z0 E1.1) K2.1) E3.1) (((O.ext E1).keep K2 (allS g_b1 all0)).ext E3) SC hcs ⟨(uE2.ext E3), (uC2.ext E3), (uV2.ext E3), (uN2.ext E3), (uA2.ext E3)⟩ ⟨sE3, sC3, sV3, sA3⟩ g_b1 g_b2v (Ne.symm ne_b2v_bs3)) hZ3 (hw _ (List.mem_of_getElem? (i := 66) rfl)) (hw _ (List.mem_of_getElem? (i := 45) rfl)) (by decide) (by decide)) q4a q4c (g := (mkF m 9 #[.val (.long (Int64.ofNat nu)), .second] [(.ref sa3), (.ref b1)])) rfl (by rw [hml]; rfl) (Steps.refl _) (argsL := [(.ref sa3)]) (rest := []) (lenOf pd_21 rfl) rfl (by show 2 * 0 + _ ≤ _; exact Nat.le_of_eq rfl) (hb hby d_prog_6_method_10_9) (fun _ _ => ⟨rfl, e3, (by decide : 4 + 0 ≤ _), (by decide : 28 + 0 ≤ _)⟩)
  dsimp only [Pt.U, Pt.locs, Pt.cells, Pt.slots] at X4 l4 y4 z4 st4 hQ4
  subst l4 y4 z4
  refine Go.pre (own_cut st4) ?_
  obtain ⟨rfl, N4q, K4, B4⟩ := hQ4
  have N4 := Fr.app N2 N4q
  have KC4 : Keep h0 T4.heap [] := KC3.trans K4 (allS (Or.inr sz_b1) (allS (Or.inr sz_b2v) all0))
  have hs4 := ((sfS sf_b1_3 (sfS sf_b2v_3 sf0)) : ∀ x ∈ [b1, b2v], Safe Z EL _ _ x)
  have CR4 := CR3.trans (CHr.keep K4 hs4 CR3.1)
  have sf_b1_4 := Safe.keep K4 hs4 CR3.1 sf_b1_3
  have sf_b2v_4 := Safe.keep K4 hs4 CR3.1 sf_b2v_3
  obtain ⟨uE4, uC4, uV4, uN4, uA4⟩ := B4
  show Go p e below _ (T4.setTop (mkF m 12 #[.val (.long (Int64.ofNat nu)), .second] [(.ref b1)]))
  refine Go.pre (fun _ k => XS.lloadN X4.here hx rfl (hb hby d_prog_6_method_10_12) rfl k) ?_
  show Go p e below _ (T4.setTop (mkF m 13 #[.val (.long (Int64.ofNat nu)), .second] [(.long (Int64.ofNat nu)), (.ref b1)]))
  obtain ⟨cq5, kq5, q5a, q5b, q5c⟩ := isOf hZ3 rfl uE4
  obtain ⟨_, _, ⟨T5, L5, k5, n5⟩, -, X5, ⟨Lc5, hQ5, l5, y5, z5⟩, st5⟩ := X4.virtualBack hx (y := (⟨"java/lang/StringBuilder", "append", "(J)Ljava/lang/StringBuilder;"⟩ : MethodName)) (z := (⟨"java/lang/StringBuilder", "append", "(J)Ljava/lang/StringBuilder;"⟩ : MethodName)) hown3 (mvT hZ3 (hw _ (List.mem_of_getElem? (i := 112) rfl))) (mvT hZ3 (hw _ (List.mem_of_getElem? (i := 113) rfl))) (notFace_of_selects (args := #[]) (mvT hZ3 (hw _ (List.mem_of_getElem? (i := 115) rfl)))) (mvT hZ3 (hw _ (List.mem_of_getElem? (i := 115) rfl))) (mvT hZ3 (hw _ (List.mem_of_getElem? (i := 114) rfl))) (by decide) (backOf (W := 0) (rm_sbJ l Z a0 hw [] b1 b2v kb2 nu d1a d10a cs T4.heap n0 (Nat.le_trans (Nat.le_trans (Nat.le_trans (Nat.le_trans Z0 E1.1) K2.1) E3.1) K4.1) ((((O.ext E1).keep K2 (allS g_b1 all0)).ext E3).keep K4 (allS g_b1 (allS g_b2v all0))) SC hcs SD1 G1 SD10 G10 ⟨uE4, uC4, uV4, uN4, uA4⟩ g_b1 g_b2v hn) hZ3 (hw _ (List.mem_of_getElem? (i := 116) rfl)) (hw _ (List.mem_of_getElem? (i := 45) rfl)) (by decide) (by decide)) q5a q5c (g := (mkF m 13 #[.val (.long (Int64.ofNat nu)), .second] [(.long (Int64.ofNat nu)), (.ref b1)])) rfl (by rw [hml]; rfl) (Steps.refl _) (argsL := [(.long (Int64.ofNat nu))]) (rest := []) (lenOf pd_22 rfl) rfl (by show 2 * 0 + _ ≤ _; exact Nat.le_of_eq rfl) (hb hby d_prog_6_method_10_13) (fun _ _ => ⟨rfl, rfl, (by decide : 4 + 0 ≤ _), (by decide : 28 + 0 ≤ _)⟩)
  dsimp only [Pt.U, Pt.locs, Pt.cells, Pt.slots] at X5 l5 y5 z5 st5 hQ5
  subst l5 y5 z5
  refine Go.pre (own_cut st5) ?_
  obtain ⟨rfl, N5q, K5, B5⟩ := hQ5
  have N5 := Fr.app N4 N5q
  have KC5 : Keep h0 T5.heap [] := KC4.trans K5 (allS (Or.inr sz_b1) (allS (Or.inr sz_b2v) all0))
  have hs5 := ((sfS sf_b1_4 (sfS sf_b2v_4 sf0)) : ∀ x ∈ [b1, b2v], Safe Z EL _ _ x)
  have CR5 := CR4.trans (CHr.keep K5 hs5 CR4.1)
  have sf_b1_5 := Safe.keep K5 hs5 CR4.1 sf_b1_4
  have sf_b2v_5 := Safe.keep K5 hs5 CR4.1 sf_b2v_4
  obtain ⟨uE5, uC5, uV5, uN5, uA5⟩ := B5
  show Go p e below _ (T5.setTop (mkF m 16 #[.val (.long (Int64.ofNat nu)), .second] [(.ref b1)]))
  obtain ⟨cq6, kq6, q6a, q6b, q6c⟩ := isOf hZ3 rfl uE5
  obtain ⟨_, _, ⟨T6, L6, k6, n6⟩, -, X6, ⟨Lc6, hQ6, l6, y6, z6⟩, st6⟩ := X5.virtualBack hx (y := (⟨"java/lang/StringBuilder", "toString", "()Ljava/lang/String;"⟩ : MethodName)) (z := (⟨"java/lang/StringBuilder", "toString", "()Ljava/lang/String;"⟩ : MethodName)) hown3 (mvT hZ3 (hw _ (List.mem_of_getElem? (i := 137) rfl))) (mvT hZ3 (hw _ (List.mem_of_getElem? (i := 138) rfl))) (notFace_of_selects (args := #[]) (mvT hZ3 (hw _ (List.mem_of_getElem? (i := 140) rfl)))) (mvT hZ3 (hw _ (List.mem_of_getElem? (i := 140) rfl))) (mvT hZ3 (hw _ (List.mem_of_getElem? (i := 139) rfl))) (by decide) (backOf (W := 0) (rm_tos l Z a0 hw [] b1 b2v kb2 ((own_gc 5 nu (1 + own_len nu) own_v0).map Value.int) (1 + own_len nu) cs T5.heap n0 (Nat.le_trans (Nat.le_trans (Nat.le_trans (Nat.le_trans (Nat.le_trans Z0 E1.1) K2.1) E3.1) K4.1) K5.1) (((((O.ext E1).keep K2 (allS g_b1 all0)).ext E3).keep K4 (allS g_b1 (allS g_b2v all0))).keep K5 (allS g_b1 (allS g_b2v all0))) SC hcs ⟨uE5, uC5, uV5, uN5, uA5⟩ (by rw [List.length_map, own_gc_len]; rfl) (by omega)) hZ3 (hw _ (List.mem_of_getElem? (i := 141) rfl)) (hw _ (List.mem_of_getElem? (i := 45) rfl)) (by decide) (by decide)) q6a q6c (g := (mkF m 16 #[.val (.long (Int64.ofNat nu)), .second] [(.ref b1)])) rfl (by rw [hml]; rfl) (Steps.refl _) (argsL := []) (rest := []) (lenOf pd_23 rfl) rfl (by show 2 * 0 + _ ≤ _; exact Nat.le_of_eq rfl) (hb hby d_prog_6_method_10_16) (fun _ _ => ⟨rfl, rfl, (by decide : 4 + 2 ≤ _), (by decide : 28 + 20 ≤ _)⟩)
  dsimp only [Pt.U, Pt.locs, Pt.cells, Pt.slots] at X6 l6 y6 z6 st6 hQ6
  subst l6 y6 z6
  refine Go.pre (own_cut st6) ?_
  obtain ⟨ts6, r6, kr6, rfl, N6q, K6, z6', S6⟩ := hQ6
  have N6 := Fr.app N5 N6q
  have KC6 : Keep h0 T6.heap [] := KC5.trans K6 all0
  have CR6 := CR5.trans (CHr.keep K6 sf0 CR5.1)
  have sf_b1_6 := Safe.keep K6 sf0 CR5.1 sf_b1_5
  have sf_b2v_6 := Safe.keep K6 sf0 CR5.1 sf_b2v_5
  obtain ⟨uE6, uC6, uV6, uA6⟩ := S6
  have g_ts6 : n0 ≤ ts6 := Nat.le_trans (Nat.le_trans (Nat.le_trans (Nat.le_trans (Nat.le_trans (Nat.le_trans Z0 E1.1) K2.1) E3.1) K4.1) K5.1) z6'
  have sz_ts6 : h0.size ≤ ts6 := Nat.le_trans KC5.1 z6'
  show Go p e below _ (T6.setTop (mkF m 19 #[.val (.long (Int64.ofNat nu)), .second] [(.ref ts6)]))
  have hkf : k3' ≤ T6.heap.size := by rw [show T6.heap = T6.heap from rfl]; exact (Nat.le_trans (Nat.le_trans (Nat.le_trans hk3 K4.1) K5.1) K6.1)
  obtain ⟨fs, hr, hrun, hended, hRE⟩ := Stand.leaveW (s := s) (vm₁ := T3.vm) X6 hS3 hkf (v := some (.ref ts6)) (fun h => by rw [Bd.returns] at h; cases h)
  have CRf := CR6.trans (CHv.at (s := s) (vm0 := T3.vm) X6 hZ3 hEL CR6.1)
  refine Go.fin (retOut X6 hx Bd.returns rfl (Or.inr (Or.inr (Or.inr (Or.inr ⟨rfl, rfl, rfl⟩)))) (hb hby d_prog_6_method_10_19) hr) ⟨hrun, hended, _, _, rfl, ?_, ?_, hRE.1, hRE.2.1, hRE.2.2.1, hRE.2.2.2.mono (by decide) (by decide)⟩
  · skip
    show Q_user Z nu d1a d10a cs h0 n0 _ T6.heap _
    exact ⟨ts6, r6, kr6, rfl, N6, KC6, sz_ts6, ⟨uE6, uC6, uV6, uA6⟩⟩
  · rw [hh]
    show CHr Z EL s.vm h0 T6.vm T6.heap
    exact CRf

/-- what the law's eight steps make of the text -/
def own_acc (fd : Nat → Nat) (ln : Nat) : Nat → Nat
  | 0 => 0
  | j + 1 => if j + 1 < ln then own_acc fd ln j * 10 + fd (j + 1) else own_acc fd ln j
theorem own_acc_lt {fd : Nat → Nat} {ln : Nat} (h : ∀ j, fd j < 10) : ∀ j, own_acc fd ln j < 10 ^ j
  | 0 => Nat.zero_lt_one
  | j + 1 => by
    have ih := own_acc_lt (ln := ln) h j
    have q := h (j + 1)
    have e : 10 ^ (j + 1) = 10 ^ j * 10 := Nat.pow_succ 10 j
    show (if j + 1 < ln then own_acc fd ln j * 10 + fd (j + 1) else own_acc fd ln j) < 10 ^ (j + 1)
    split <;> omega
def own_fdn (n j : Nat) : Nat := n / 10 ^ (own_len n - j) % 10
def own_Cont (n : Nat) : Prop := (((own_gc 5 n (1 + own_len n) own_v0).map Value.int).take (1 + own_len n)).getD 0 (.int 0) = .int (Int32.ofNat 117) ∧ (∀ j, 1 ≤ j → j < 1 + own_len n → (((own_gc 5 n (1 + own_len n) own_v0).map Value.int).take (1 + own_len n)).getD j (.int 0) = .int (Int32.ofNat (48 + own_fdn n j))) ∧ (2 < 1 + own_len n → 0 < own_fdn n 1) ∧ own_acc (own_fdn n) (1 + own_len n) 8 = n
theorem own_cont {n : Nat} (hn : n < 100000000) : own_Cont n := by
  have key : ∀ L : Nat, own_len n = L → ∀ xs : List Value, ((own_gc 5 n (1 + L) own_v0).map Value.int).take (1 + L) = xs → xs.getD 0 (.int 0) = .int (Int32.ofNat 117) → (∀ j, 1 ≤ j → j < 1 + L → xs.getD j (.int 0) = .int (Int32.ofNat (48 + n / 10 ^ (L - j) % 10))) → (2 < 1 + L → 0 < n / 10 ^ (L - 1) % 10) → own_acc (fun j => n / 10 ^ (L - j) % 10) (1 + L) 8 = n → own_Cont n := by
    intro L eL xs ex h1 h2 h3 h4
    subst eL
    unfold own_Cont
    rw [ex]
    exact ⟨h1, h2, h3, h4⟩
  by_cases h1 : n < 10
  · skip
    refine key 1 (own_len1 h1) [.int 117, .int (Int32.ofNat (48 + n / 1 % 10))] (by rw [← List.map_take, show 1 + 1 = 2 from rfl, own_gc1 h1]; rfl) rfl ?_ ?_ ?_
    · intro j a b
      have c : j = 1 := by omega
      rcases c with rfl <;> rfl
    · intro q; exact absurd q (by omega)
    · show (0 * 10 + n / 1 % 10) = n
      omega
  by_cases h2 : n < 100
  · skip
    refine key 2 (own_len2 (by omega) h2) [.int 117, .int (Int32.ofNat (48 + n / 10 % 10)), .int (Int32.ofNat (48 + n / 1 % 10))] (by rw [← List.map_take, show 1 + 2 = 3 from rfl, own_gc2 (by omega) h2]; rfl) rfl ?_ ?_ ?_
    · intro j a b
      have c : j = 1 ∨ j = 2 := by omega
      rcases c with rfl | rfl <;> rfl
    · intro _
      show 0 < n / 10 % 10
      omega
    · show ((0 * 10 + n / 10 % 10) * 10 + n / 1 % 10) = n
      omega
  by_cases h3 : n < 1000
  · skip
    refine key 3 (own_len3 (by omega) h3) [.int 117, .int (Int32.ofNat (48 + n / 100 % 10)), .int (Int32.ofNat (48 + n / 10 % 10)), .int (Int32.ofNat (48 + n / 1 % 10))] (by rw [← List.map_take, show 1 + 3 = 4 from rfl, own_gc3 (by omega) h3]; rfl) rfl ?_ ?_ ?_
    · intro j a b
      have c : j = 1 ∨ j = 2 ∨ j = 3 := by omega
      rcases c with rfl | rfl | rfl <;> rfl
    · intro _
      show 0 < n / 100 % 10
      omega
    · show (((0 * 10 + n / 100 % 10) * 10 + n / 10 % 10) * 10 + n / 1 % 10) = n
      omega
  by_cases h4 : n < 10000
  · skip
    refine key 4 (own_len4 (by omega) h4) [.int 117, .int (Int32.ofNat (48 + n / 1000 % 10)), .int (Int32.ofNat (48 + n / 100 % 10)), .int (Int32.ofNat (48 + n / 10 % 10)), .int (Int32.ofNat (48 + n / 1 % 10))] (by rw [← List.map_take, show 1 + 4 = 5 from rfl, own_gc4 (by omega) h4]; rfl) rfl ?_ ?_ ?_
    · intro j a b
      have c : j = 1 ∨ j = 2 ∨ j = 3 ∨ j = 4 := by omega
      rcases c with rfl | rfl | rfl | rfl <;> rfl
    · intro _
      show 0 < n / 1000 % 10
      omega
    · show ((((0 * 10 + n / 1000 % 10) * 10 + n / 100 % 10) * 10 + n / 10 % 10) * 10 + n / 1 % 10) = n
      omega
  by_cases h5 : n < 100000
  · skip
    refine key 5 (own_len5 (by omega) h5) [.int 117, .int (Int32.ofNat (48 + n / 10000 % 10)), .int (Int32.ofNat (48 + n / 1000 % 10)), .int (Int32.ofNat (48 + n / 100 % 10)), .int (Int32.ofNat (48 + n / 10 % 10)), .int (Int32.ofNat (48 + n / 1 % 10))] (by rw [← List.map_take, show 1 + 5 = 6 from rfl, own_gc5 (by omega) h5]; rfl) rfl ?_ ?_ ?_
    · intro j a b
      have c : j = 1 ∨ j = 2 ∨ j = 3 ∨ j = 4 ∨ j = 5 := by omega
      rcases c with rfl | rfl | rfl | rfl | rfl <;> rfl
    · intro _
      show 0 < n / 10000 % 10
      omega
    · show (((((0 * 10 + n / 10000 % 10) * 10 + n / 1000 % 10) * 10 + n / 100 % 10) * 10 + n / 10 % 10) * 10 + n / 1 % 10) = n
      omega
  by_cases h6 : n < 1000000
  · skip
    refine key 6 (own_len6 (by omega) h6) [.int 117, .int (Int32.ofNat (48 + n / 100000 % 10)), .int (Int32.ofNat (48 + n / 10000 % 10)), .int (Int32.ofNat (48 + n / 1000 % 10)), .int (Int32.ofNat (48 + n / 100 % 10)), .int (Int32.ofNat (48 + n / 10 % 10)), .int (Int32.ofNat (48 + n / 1 % 10))] (by rw [← List.map_take, show 1 + 6 = 7 from rfl, own_gc6 (by omega) h6]; rfl) rfl ?_ ?_ ?_
    · intro j a b
      have c : j = 1 ∨ j = 2 ∨ j = 3 ∨ j = 4 ∨ j = 5 ∨ j = 6 := by omega
      rcases c with rfl | rfl | rfl | rfl | rfl | rfl <;> rfl
    · intro _
      show 0 < n / 100000 % 10
      omega
    · show ((((((0 * 10 + n / 100000 % 10) * 10 + n / 10000 % 10) * 10 + n / 1000 % 10) * 10 + n / 100 % 10) * 10 + n / 10 % 10) * 10 + n / 1 % 10) = n
      omega
  by_cases h7 : n < 10000000
  · skip
    refine key 7 (own_len7 (by omega) h7) [.int 117, .int (Int32.ofNat (48 + n / 1000000 % 10)), .int (Int32.ofNat (48 + n / 100000 % 10)), .int (Int32.ofNat (48 + n / 10000 % 10)), .int (Int32.ofNat (48 + n / 1000 % 10)), .int (Int32.ofNat (48 + n / 100 % 10)), .int (Int32.ofNat (48 + n / 10 % 10)), .int (Int32.ofNat (48 + n / 1 % 10))] (by rw [← List.map_take, show 1 + 7 = 8 from rfl, own_gc7 (by omega) h7]; rfl) rfl ?_ ?_ ?_
    · intro j a b
      have c : j = 1 ∨ j = 2 ∨ j = 3 ∨ j = 4 ∨ j = 5 ∨ j = 6 ∨ j = 7 := by omega
      rcases c with rfl | rfl | rfl | rfl | rfl | rfl | rfl <;> rfl
    · intro _
      show 0 < n / 1000000 % 10
      omega
    · show (((((((0 * 10 + n / 1000000 % 10) * 10 + n / 100000 % 10) * 10 + n / 10000 % 10) * 10 + n / 1000 % 10) * 10 + n / 100 % 10) * 10 + n / 10 % 10) * 10 + n / 1 % 10) = n
      omega
  refine key 8 (own_len8 (by omega) hn) [.int 117, .int (Int32.ofNat (48 + n / 10000000 % 10)), .int (Int32.ofNat (48 + n / 1000000 % 10)), .int (Int32.ofNat (48 + n / 100000 % 10)), .int (Int32.ofNat (48 + n / 10000 % 10)), .int (Int32.ofNat (48 + n / 1000 % 10)), .int (Int32.ofNat (48 + n / 100 % 10)), .int (Int32.ofNat (48 + n / 10 % 10)), .int (Int32.ofNat (48 + n / 1 % 10))] (by rw [← List.map_take, show 1 + 8 = 9 from rfl, own_gc8 (by omega) hn]; rfl) rfl ?_ ?_ ?_
  · intro j a b
    have c : j = 1 ∨ j = 2 ∨ j = 3 ∨ j = 4 ∨ j = 5 ∨ j = 6 ∨ j = 7 ∨ j = 8 := by omega
    rcases c with rfl | rfl | rfl | rfl | rfl | rfl | rfl | rfl <;> rfl
  · intro _
    show 0 < n / 10000000 % 10
    omega
  · show ((((((((0 * 10 + n / 10000000 % 10) * 10 + n / 1000000 % 10) * 10 + n / 100000 % 10) * 10 + n / 10000 % 10) * 10 + n / 1000 % 10) * 10 + n / 100 % 10) * 10 + n / 10 % 10) * 10 + n / 1 % 10) = n
    omega
theorem own_read {Z : State} {h : Heap} {ts r : Addr} {kr : ClassId} {nu : Nat} (hn : nu < 100000000) (S : Str Z h ts r kr (Int32.ofNat (1 + own_len nu)) (((own_gc 5 nu (1 + own_len nu) own_v0).map Value.int).take (1 + own_len nu))) :
    ∃ (ln : Nat) (fd : Nat → Nat) (us : List Value), Str Z h ts r kr (Int32.ofNat ln) us ∧ 2 ≤ ln ∧ ln ≤ 9 ∧ us.getD 0 (.int 0) = .int (Int32.ofNat 117) ∧ (∀ j, 1 ≤ j → j < ln → us.getD j (.int 0) = .int (Int32.ofNat (48 + fd j)) ∧ fd j < 10) ∧ (∀ j, fd j < 10) ∧ (2 < ln → 0 < fd 1) ∧ own_acc fd ln 8 = nu := by
  obtain ⟨h1, h2, h3, h4⟩ := own_cont hn
  have hl := own_len_le nu
  have hf : ∀ j, own_fdn nu j < 10 := fun j => Nat.mod_lt _ (by decide)
  exact ⟨_, own_fdn nu, _, S, by omega, by omega, h1, fun j a b => ⟨h2 j a b, hf j⟩, hf, h3, h4⟩

theorem ef_rus (m : MethodId) (x0 : Addr) (x1 : Int64) : entryFrame m #[(.ref x0), (.long x1)] 3 = mkF m 0 #[rv x0, .val (.long x1), .second] [] := by first | (simp [entryFrame, mkF, argsToLocals, Value.category]; done) | rfl
theorem pn_rus : plainName "com/example/inferred_grant/inferredgrant/benchmark/Setting" = true := by first | (simp [plainName, overriddenIn]; done) | decide +kernel
def Q_rus (Z : State) (a : Addr) (qn : Nat) (uu : Nat) (nu : Nat) (d1a : Addr) (d10a : Addr) (cs : Int32) (h0 : Heap) (n0 : Nat) (v : Option Value) (h : Heap) (L : List Loc) : Prop := ∃ (ts r : Addr) (kr : ClassId), v = some (.ref ts) ∧ Fr n0 L ∧ Keep h0 h [] ∧ h0.size ≤ ts ∧ Str Z h ts r kr (Int32.ofNat (1 + own_len nu)) (((own_gc 5 nu (1 + own_len nu) own_v0).map Value.int).take (1 + own_len nu))
set_option maxRecDepth 65536 in
set_option maxHeartbeats 40000000 in
theorem rm_rus (l : Launch) (Z : State) (a0 : Array Value) (hw : ∀ d ∈ tables_1, d.before a0 Z = true) (ws : List Jvm.Cond) (a : Addr) (qn : Nat) (uu : Nat) (nu : Nat) (d1a : Addr) (d10a : Addr) (cs : Int32) (h0 : Heap) (n0 : Nat) (Z0 : n0 ≤ h0.size) (O : Old Z n0 h0) (SC : Sta Z Z.heap "java/lang/String" "COMPACT_STRINGS" "Z" (.int cs)) (hcs : ¬ cs = (0 : Int32)) (SD1 : Sta Z Z.heap "java/lang/Integer" "DigitOnes" "[B" (.ref d1a)) (G1 : Dgt Z d1a own_d1) (SD10 : Sta Z Z.heap "java/lang/Integer" "DigitTens" "[B" (.ref d10a)) (G10 : Dgt Z d10a own_d10) (hEL : EW Z a0 EL) (hq : qn < 2000) (hu0 : 0 < uu) (hu1 : uu < 2 ^ 63) (hnu : nu = 7919 * qn % uu) (tE : Exa Z h0 a "com/example/inferred_grant/inferredgrant/benchmark/Setting") (tU : Fld Z h0 a "com/example/inferred_grant/inferredgrant/benchmark/Setting" "users" "J" (.long (Int64.ofNat uu))) :
    MetFree l (⟨"com/example/inferred_grant/inferredgrant/benchmark/Setting", "requestUser", "(J)Ljava/lang/String;"⟩ : MethodName) (head1 (Jvm.Cond.code (⟨"com/example/inferred_grant/inferredgrant/benchmark/Setting", "requestUser", "(J)Ljava/lang/String;"⟩ : MethodName) prog_6_method_5_code 3 (some (.object "java/lang/String")) :: ws) ({ frames := 7, cells := 6, slots := 48, locals := 130 } : Room)) (fun as_ U => as_ = #[(.ref a), (.long (Int64.ofNat qn))] ∧ Z.Warmed39 U.vm ∧ U.heap = h0 ∧ CHv Z EL U.vm h0) (fun _ _ _ _ _ => True) (fun _ U o U' => ∃ v L, o = .returned v ∧ Q_rus Z a qn uu nu d1a d10a cs h0 n0 v U'.heap L ∧ CHr Z EL U.vm U.heap U'.vm U'.heap ∧ ReturnedEndW U o U' L ({ frames := 7, cells := 6, slots := 48, locals := 130 } : Room).cells ({ frames := 7, cells := 6, slots := 48, locals := 130 } : Room).slots) := by
  refine MetFree.of_bodySF (plainFor_of_name pn_rus) hisR ?_
  intro p e s m args below meth c s₁ Bd hml0 hP hK
  obtain ⟨rfl, hZ, hh, CH0⟩ := hP
  have hx := Bd.exec
  have hby := Bd.bytes
  have hml : c.maxLocals = 3 := hml0
  have hown : s.vm.findClass "com/example/inferred_grant/inferredgrant/benchmark/Setting" = some m.cls := findClass_of_methodNamed Bd.named
  have hnm := (name_of_methodNamed Bd.named Bd.method).1
  have X0 : Stand p l e ({ frames := 7, cells := 6, slots := 48, locals := 130 } : Room) s m #[(.ref a), (.long (Int64.ofNat qn))] below meth c s₁ [] 0 0 := Stand.of_body Bd
  have e0 : s₁.heap = h0 := by rw [← hh, Bd.state]; rfl
  have N0 := Fr.nil n0
  refine Go.out ?_
  refine Go.pre (fun t k => castTop (ef_rus m a (Int64.ofNat qn)) k) ?_
  have X0 : Stand p l e ({ frames := 7, cells := 6, slots := 48, locals := 130 } : Room) (s.setVm s.vm) m #[(.ref a), (.long (Int64.ofNat qn))] below meth c s₁ [] 0 0 := X0
  have CR0 := CHr.refl CH0
  have hlen := own_len_le nu
  have hn : nu < 100000000 := by have := Nat.mod_le (7919 * qn) uu; omega
  show Go p e below _ (s₁.setTop (mkF m 0 #[rv a, .val (.long (Int64.ofNat qn)), .second] []))
  refine Go.pre (X0.ldc2Long hx hown (mvT hZ (hw _ (List.mem_of_getElem? (i := 39) rfl))) (g := (mkF m 0 #[rv a, .val (.long (Int64.ofNat qn)), .second] [])) rfl (hb hby d_prog_6_method_5_0)) ?_
  show Go p e below _ (s₁.setTop (mkF m 3 #[rv a, .val (.long (Int64.ofNat qn)), .second] [(.long (7919 : Int64))]))
  refine Go.pre (fun _ k => XS.lloadN X0.here hx rfl (hb hby d_prog_6_method_5_3) rfl k) ?_
  show Go p e below _ (s₁.setTop (mkF m 4 #[rv a, .val (.long (Int64.ofNat qn)), .second] [(.long (Int64.ofNat qn)), (.long (7919 : Int64))]))
  refine Go.pre (fun _ k => XS.lmul X0.here hx rfl (hb hby d_prog_6_method_5_4) rfl k) ?_
  show Go p e below _ (s₁.setTop (mkF m 5 #[rv a, .val (.long (Int64.ofNat qn)), .second] [(.long ((Int64.ofNat 7919) * (Int64.ofNat qn)))]))
  rw [own_lmul]
  show Go p e below _ (s₁.setTop (mkF m 5 #[rv a, .val (.long (Int64.ofNat qn)), .second] [(.long (Int64.ofNat (7919 * qn)))]))
  refine Go.pre (fun _ k => XS.aloadN X0.here hx rfl (hb hby d_prog_6_method_5_5) rfl rfl k) ?_
  show Go p e below _ (s₁.setTop (mkF m 6 #[rv a, .val (.long (Int64.ofNat qn)), .second] [(.ref a), (.long (Int64.ofNat (7919 * qn)))]))
  obtain ⟨T1, X1, e1, st1⟩ := getF X0 hx hZ hown (host := "") (Or.inl (hw _ (List.mem_of_getElem? (i := 26) rfl))) Via.refl e0 tU (g := (mkF m 6 #[rv a, .val (.long (Int64.ofNat qn)), .second] [(.ref a), (.long (Int64.ofNat (7919 * qn)))])) rfl rfl (hb hby d_prog_6_method_5_6)
  refine Go.pre st1 ?_
  show Go p e below _ (T1.setTop (mkF m 9 #[rv a, .val (.long (Int64.ofNat qn)), .second] [(.long (Int64.ofNat uu)), (.long (Int64.ofNat (7919 * qn)))]))
  refine Go.pre (fun _ k => XS.lrem X1.here hx rfl (hb hby d_prog_6_method_5_9) rfl (own_lnz hu0 hu1) k) ?_
  show Go p e below _ (T1.setTop (mkF m 10 #[rv a, .val (.long (Int64.ofNat qn)), .second] [(.long ((Int64.ofNat (7919 * qn)) - (Int64.ofNat (7919 * qn)) / (Int64.ofNat uu) * (Int64.ofNat uu)))]))
  rw [own_lrem (by omega) hu1, ← hnu]
  show Go p e below _ (T1.setTop (mkF m 10 #[rv a, .val (.long (Int64.ofNat qn)), .second] [(.long (Int64.ofNat nu))]))
  have hkb2 : 0 ≤ T1.heap.size := by rw [show T1.heap = h0 from e1]; exact (Nat.zero_le _)
  obtain ⟨_, _, ⟨T2, L2, k2, n2⟩, -, Xa2, hSa2, hle2, ⟨Lc2, hQ2, l2, y2, z2, C2⟩, st2⟩ := callSS X1 hx (y := (⟨"com/example/inferred_grant/inferredgrant/benchmark/Setting", "user", "(J)Ljava/lang/String;"⟩ : MethodName)) hown (mvT hZ (hw _ (List.mem_of_getElem? (i := 40) rfl))) (mvT hZ (hw _ (List.mem_of_getElem? (i := 41) rfl))) (mvT hZ (hw _ (List.mem_of_getElem? (i := 5) rfl))) (mvT hZ (hw _ (List.mem_of_getElem? (i := 42) rfl))) (by decide) (backOfSH (s := s) (vm0 := s.vm) (W := 0) (rm_user l Z a0 hw [] nu d1a d10a cs h0 n0 Z0 O SC hcs SD1 G1 SD10 G10 hn hEL) hZ (hw _ (List.mem_of_getElem? (i := 42) rfl)) (hw _ (List.mem_of_getElem? (i := 5) rfl)) (by decide) (by decide) hEL CR0.1) (g := (mkF m 10 #[rv a, .val (.long (Int64.ofNat qn)), .second] [(.long (Int64.ofNat nu))])) rfl (by rw [hml]; rfl) (argsL := [(.long (Int64.ofNat nu))]) (rest := []) (lenOf pd_24 rfl) rfl (by show 2 * 0 + _ ≤ _; exact Nat.le_of_eq rfl) (hb hby d_prog_6_method_5_10) (fun _ _ => ⟨rfl, e1, (by decide : 0 + 6 ≤ _), (by decide : 0 + 48 ≤ _)⟩)
  dsimp only [Pt.U, Pt.locs, Pt.cells, Pt.slots] at Xa2 hSa2 hle2 l2 y2 z2 st2 hQ2 C2
  subst l2 y2 z2
  obtain ⟨X2, hS2, hZ2, hown2⟩ := rebS (s := s) (vm0 := s.vm) ((State.WarmedH.refl s).since 0) hkb2 Xa2 hSa2 hle2 hZ hown
  refine Go.pre (own_cut st2) ?_
  obtain ⟨ts2, r2, kr2, rfl, N2q, K2, z2', S2⟩ := hQ2
  have N2 := Fr.app N0 N2q
  have KC2 : Keep h0 T2.heap [] := (Keep.refl h0 []).trans K2 all0
  have CR2 := CR0.trans C2
  obtain ⟨uE2, uC2, uV2, uA2⟩ := S2
  have g_ts2 : n0 ≤ ts2 := Nat.le_trans Z0 z2'
  have sz_ts2 : h0.size ≤ ts2 := Nat.le_trans (Keep.refl h0 []).1 z2'
  show Go p e below _ (T2.setTop (mkF m 13 #[rv a, .val (.long (Int64.ofNat qn)), .second] [(.ref ts2)]))
  have hkf : T2.heap.size ≤ T2.heap.size := by rw [show T2.heap = T2.heap from rfl]; exact (Nat.le_refl T2.heap.size)
  obtain ⟨fs, hr, hrun, hended, hRE⟩ := Stand.leaveW (s := s) (vm₁ := T2.vm) X2 hS2 hkf (v := some (.ref ts2)) (fun h => by rw [Bd.returns] at h; cases h)
  have CRf := CR2.trans (CHv.at (s := s) (vm0 := T2.vm) X2 hZ2 hEL CR2.1)
  refine Go.fin (retOut X2 hx Bd.returns rfl (Or.inr (Or.inr (Or.inr (Or.inr ⟨rfl, rfl, rfl⟩)))) (hb hby d_prog_6_method_5_13) hr) ⟨hrun, hended, _, _, rfl, ?_, ?_, hRE.1, hRE.2.1, hRE.2.2.1, hRE.2.2.2.mono (by decide) (by decide)⟩
  · skip
    show Q_rus Z a qn uu nu d1a d10a cs h0 n0 _ T2.heap _
    exact ⟨ts2, r2, kr2, rfl, N2, KC2, sz_ts2, ⟨uE2, uC2, uV2, uA2⟩⟩
  · rw [hh]
    show CHr Z EL s.vm h0 T2.vm T2.heap
    exact CRf

theorem ef_sin (m : MethodId) (x0 : Addr) (x1 : Addr) (x2 : Int64) (x3 : Int64) (x4 : Int64) (x5 : Int64) (x6 : Int64) (x7 : Int32) : entryFrame m #[(.ref x0), (.ref x1), (.long x2), (.long x3), (.long x4), (.long x5), (.long x6), (.int x7)] 13 = mkF m 0 #[rv x0, rv x1, .val (.long x2), .second, .val (.long x3), .second, .val (.long x4), .second, .val (.long x5), .second, .val (.long x6), .second, iv x7] [] := by first | (simp [entryFrame, mkF, argsToLocals, Value.category]; done) | rfl
theorem pn_sin : plainName "com/example/inferred_grant/inferredgrant/benchmark/Setting" = true := by first | (simp [plainName, overriddenIn]; done) | decide +kernel
def Q_sin (Z : State) (a : Addr) (na : Addr) (uu : Nat) (h0 : Heap) (n0 : Nat) (v : Option Value) (h : Heap) (L : List Loc) : Prop := v = none ∧ Fr n0 L ∧ Keep h0 h [a] ∧ Exa Z h a "com/example/inferred_grant/inferredgrant/benchmark/Setting" ∧ Fld Z h a "com/example/inferred_grant/inferredgrant/benchmark/Setting" "users" "J" (.long (Int64.ofNat uu))
set_option maxRecDepth 65536 in
set_option maxHeartbeats 40000000 in
theorem rm_sin (l : Launch) (Z : State) (a0 : Array Value) (hw : ∀ d ∈ tables_1, d.before a0 Z = true) (ws : List Jvm.Cond) (a : Addr) (na : Addr) (uu : Nat) (h0 : Heap) (n0 : Nat) (Z0 : n0 ≤ h0.size) (O : Old Z n0 h0) (tE : Exa Z h0 a "com/example/inferred_grant/inferredgrant/benchmark/Setting") (t_name : Fld Z h0 a "com/example/inferred_grant/inferredgrant/benchmark/Setting" "name" "Ljava/lang/String;" .null) (t_roles : Fld Z h0 a "com/example/inferred_grant/inferredgrant/benchmark/Setting" "roles" "J" (.long (0 : Int64))) (t_classes : Fld Z h0 a "com/example/inferred_grant/inferredgrant/benchmark/Setting" "classes" "J" (.long (0 : Int64))) (t_users : Fld Z h0 a "com/example/inferred_grant/inferredgrant/benchmark/Setting" "users" "J" (.long (0 : Int64))) (t_objects : Fld Z h0 a "com/example/inferred_grant/inferredgrant/benchmark/Setting" "objects" "J" (.long (0 : Int64))) (t_grants : Fld Z h0 a "com/example/inferred_grant/inferredgrant/benchmark/Setting" "grants" "J" (.long (0 : Int64))) (t_permits : Fld Z h0 a "com/example/inferred_grant/inferredgrant/benchmark/Setting" "permits" "I" (.int (0 : Int32))) (ga : n0 ≤ a) :
    MetFree l (⟨"com/example/inferred_grant/inferredgrant/benchmark/Setting", "<init>", "(Ljava/lang/String;JJJJJI)V"⟩ : MethodName) (head1 (Jvm.Cond.code (⟨"com/example/inferred_grant/inferredgrant/benchmark/Setting", "<init>", "(Ljava/lang/String;JJJJJI)V"⟩ : MethodName) prog_6_method_1_code 13 none :: ws) ({ frames := 1, cells := 0, slots := 0, locals := 30 } : Room)) (fun as_ U => as_ = #[(.ref a), (.ref na), (.long (1 : Int64)), (.long (1 : Int64)), (.long (Int64.ofNat uu)), (.long (1 : Int64)), (.long (1 : Int64)), (.int (0 : Int32))] ∧ Z.Warmed39 U.vm ∧ U.heap = h0) (fun _ _ _ _ _ => True) (fun _ U o U' => ∃ v L, o = .returned v ∧ Q_sin Z a na uu h0 n0 v U'.heap L ∧ FrameEnd U o U' L ({ frames := 1, cells := 0, slots := 0, locals := 30 } : Room).cells ({ frames := 1, cells := 0, slots := 0, locals := 30 } : Room).slots) := by
  refine MetFree.of_bodySF (plainFor_of_name pn_sin) hisR ?_
  intro p e s m args below meth c s₁ Bd hml0 hP hK
  obtain ⟨rfl, hZ, hh⟩ := hP
  have hx := Bd.exec
  have hby := Bd.bytes
  have hml : c.maxLocals = 13 := hml0
  have hown : s.vm.findClass "com/example/inferred_grant/inferredgrant/benchmark/Setting" = some m.cls := findClass_of_methodNamed Bd.named
  have hnm := (name_of_methodNamed Bd.named Bd.method).1
  have X0 : Stand p l e ({ frames := 1, cells := 0, slots := 0, locals := 30 } : Room) s m #[(.ref a), (.ref na), (.long (1 : Int64)), (.long (1 : Int64)), (.long (Int64.ofNat uu)), (.long (1 : Int64)), (.long (1 : Int64)), (.int (0 : Int32))] below meth c s₁ [] 0 0 := Stand.of_body Bd
  have e0 : s₁.heap = h0 := by rw [← hh, Bd.state]; rfl
  have N0 := Fr.nil n0
  refine Go.out ?_
  refine Go.pre (fun t k => castTop (ef_sin m a na (1 : Int64) (1 : Int64) (Int64.ofNat uu) (1 : Int64) (1 : Int64) (0 : Int32)) k) ?_
  show Go p e below _ (s₁.setTop (mkF m 0 #[rv a, rv na, .val (.long (1 : Int64)), .second, .val (.long (1 : Int64)), .second, .val (.long (Int64.ofNat uu)), .second, .val (.long (1 : Int64)), .second, .val (.long (1 : Int64)), .second, iv (0 : Int32)] []))
  refine Go.pre (fun _ k => XS.aloadN X0.here hx rfl (hb hby d_prog_6_method_1_0) rfl rfl k) ?_
  show Go p e below _ (s₁.setTop (mkF m 1 #[rv a, rv na, .val (.long (1 : Int64)), .second, .val (.long (1 : Int64)), .second, .val (.long (Int64.ofNat uu)), .second, .val (.long (1 : Int64)), .second, .val (.long (1 : Int64)), .second, iv (0 : Int32)] [(.ref a)]))
  obtain ⟨T1, X1, e1, st1⟩ := initO X0 hx hZ hown (hw _ (List.mem_of_getElem? (i := 17) rfl)) (hw _ (List.mem_of_getElem? (i := 18) rfl)) (hw _ (List.mem_of_getElem? (i := 19) rfl)) e0 (g := (mkF m 1 #[rv a, rv na, .val (.long (1 : Int64)), .second, .val (.long (1 : Int64)), .second, .val (.long (Int64.ofNat uu)), .second, .val (.long (1 : Int64)), .second, .val (.long (1 : Int64)), .second, iv (0 : Int32)] [(.ref a)])) rfl (by rw [hml]; rfl) rfl (hb hby d_prog_6_method_1_1) (by decide) (W := 0) (by show 2 * 0 + _ ≤ _; exact Nat.le_of_eq rfl) (by decide)
  refine Go.pre st1 ?_
  show Go p e below _ (T1.setTop (mkF m 4 #[rv a, rv na, .val (.long (1 : Int64)), .second, .val (.long (1 : Int64)), .second, .val (.long (Int64.ofNat uu)), .second, .val (.long (1 : Int64)), .second, .val (.long (1 : Int64)), .second, iv (0 : Int32)] []))
  refine Go.pre (fun _ k => XS.aloadN X1.here hx rfl (hb hby d_prog_6_method_1_4) rfl rfl k) ?_
  show Go p e below _ (T1.setTop (mkF m 5 #[rv a, rv na, .val (.long (1 : Int64)), .second, .val (.long (1 : Int64)), .second, .val (.long (Int64.ofNat uu)), .second, .val (.long (1 : Int64)), .second, .val (.long (1 : Int64)), .second, iv (0 : Int32)] [(.ref a)]))
  refine Go.pre (fun _ k => XS.aloadN X1.here hx rfl (hb hby d_prog_6_method_1_5) rfl rfl k) ?_
  show Go p e below _ (T1.setTop (mkF m 6 #[rv a, rv na, .val (.long (1 : Int64)), .second, .val (.long (1 : Int64)), .second, .val (.long (Int64.ofNat uu)), .second, .val (.long (1 : Int64)), .second, .val (.long (1 : Int64)), .second, iv (0 : Int32)] [(.ref na), (.ref a)]))
  obtain ⟨T2, h2, X2, e2, W2, st2⟩ := putF X1 hx hZ hown (host := "") (Or.inl (hw _ (List.mem_of_getElem? (i := 20) rfl))) Via.refl e1 t_name tE (Or.inr ⟨(hw _ (List.mem_of_getElem? (i := 21) rfl)), rfl, hnm⟩) (hw _ (List.mem_of_getElem? (i := 4) rfl)) (ty := (.object "java/lang/String")) (by decide) rfl rfl (g := (mkF m 6 #[rv a, rv na, .val (.long (1 : Int64)), .second, .val (.long (1 : Int64)), .second, .val (.long (Int64.ofNat uu)), .second, .val (.long (1 : Int64)), .second, .val (.long (1 : Int64)), .second, iv (0 : Int32)] [(.ref na), (.ref a)])) rfl rfl (hb hby d_prog_6_method_1_6)
  have F2 := t_name.same W2
  have N2 := Fr.snoc X2 N0 ga
  refine Go.pre st2 ?_
  have KC2 : Keep h0 h2 [a] := (Keep.refl h0 [a]).wr W2 (Or.inl (List.mem_of_getElem? (i := 0) rfl))
  show Go p e below _ (T2.setTop (mkF m 9 #[rv a, rv na, .val (.long (1 : Int64)), .second, .val (.long (1 : Int64)), .second, .val (.long (Int64.ofNat uu)), .second, .val (.long (1 : Int64)), .second, .val (.long (1 : Int64)), .second, iv (0 : Int32)] []))
  refine Go.pre (fun _ k => XS.aloadN X2.here hx rfl (hb hby d_prog_6_method_1_9) rfl rfl k) ?_
  show Go p e below _ (T2.setTop (mkF m 10 #[rv a, rv na, .val (.long (1 : Int64)), .second, .val (.long (1 : Int64)), .second, .val (.long (Int64.ofNat uu)), .second, .val (.long (1 : Int64)), .second, .val (.long (1 : Int64)), .second, iv (0 : Int32)] [(.ref a)]))
  refine Go.pre (fun _ k => XS.lloadN X2.here hx rfl (hb hby d_prog_6_method_1_10) rfl k) ?_
  show Go p e below _ (T2.setTop (mkF m 11 #[rv a, rv na, .val (.long (1 : Int64)), .second, .val (.long (1 : Int64)), .second, .val (.long (Int64.ofNat uu)), .second, .val (.long (1 : Int64)), .second, .val (.long (1 : Int64)), .second, iv (0 : Int32)] [(.long (1 : Int64)), (.ref a)]))
  obtain ⟨T3, h3, X3, e3, W3, st3⟩ := putF X2 hx hZ hown (host := "") (Or.inl (hw _ (List.mem_of_getElem? (i := 22) rfl))) Via.refl e2 (t_roles.other W2 (Or.inr (slot_ne (Or.inr (hw _ (List.mem_of_getElem? (i := 23) rfl))) (Or.inr (hw _ (List.mem_of_getElem? (i := 21) rfl))) (by decide) (t := .long) (t' := (.object "java/lang/String")) (by decide) (by decide)))) (tE.wr W2) (Or.inr ⟨(hw _ (List.mem_of_getElem? (i := 23) rfl)), rfl, hnm⟩) (hw _ (List.mem_of_getElem? (i := 4) rfl)) (ty := .long) (by decide) rfl rfl (g := (mkF m 11 #[rv a, rv na, .val (.long (1 : Int64)), .second, .val (.long (1 : Int64)), .second, .val (.long (Int64.ofNat uu)), .second, .val (.long (1 : Int64)), .second, .val (.long (1 : Int64)), .second, iv (0 : Int32)] [(.long (1 : Int64)), (.ref a)])) rfl rfl (hb hby d_prog_6_method_1_11)
  have F3 := (t_roles.other W2 (Or.inr (slot_ne (Or.inr (hw _ (List.mem_of_getElem? (i := 23) rfl))) (Or.inr (hw _ (List.mem_of_getElem? (i := 21) rfl))) (by decide) (t := .long) (t' := (.object "java/lang/String")) (by decide) (by decide)))).same W3
  have N3 := Fr.snoc X3 N2 ga
  refine Go.pre st3 ?_
  have KC3 : Keep h0 h3 [a] := KC2.wr W3 (Or.inl (List.mem_of_getElem? (i := 0) rfl))
  show Go p e below _ (T3.setTop (mkF m 14 #[rv a, rv na, .val (.long (1 : Int64)), .second, .val (.long (1 : Int64)), .second, .val (.long (Int64.ofNat uu)), .second, .val (.long (1 : Int64)), .second, .val (.long (1 : Int64)), .second, iv (0 : Int32)] []))
  refine Go.pre (fun _ k => XS.aloadN X3.here hx rfl (hb hby d_prog_6_method_1_14) rfl rfl k) ?_
  show Go p e below _ (T3.setTop (mkF m 15 #[rv a, rv na, .val (.long (1 : Int64)), .second, .val (.long (1 : Int64)), .second, .val (.long (Int64.ofNat uu)), .second, .val (.long (1 : Int64)), .second, .val (.long (1 : Int64)), .second, iv (0 : Int32)] [(.ref a)]))
  refine Go.pre (fun _ k => XS.lload X3.here hx rfl (hb hby d_prog_6_method_1_15) rfl k) ?_
  show Go p e below _ (T3.setTop (mkF m 17 #[rv a, rv na, .val (.long (1 : Int64)), .second, .val (.long (1 : Int64)), .second, .val (.long (Int64.ofNat uu)), .second, .val (.long (1 : Int64)), .second, .val (.long (1 : Int64)), .second, iv (0 : Int32)] [(.long (1 : Int64)), (.ref a)]))
  obtain ⟨T4, h4, X4, e4, W4, st4⟩ := putF X3 hx hZ hown (host := "") (Or.inl (hw _ (List.mem_of_getElem? (i := 24) rfl))) Via.refl e3 ((t_classes.other W2 (Or.inr (slot_ne (Or.inr (hw _ (List.mem_of_getElem? (i := 25) rfl))) (Or.inr (hw _ (List.mem_of_getElem? (i := 21) rfl))) (by decide) (t := .long) (t' := (.object "java/lang/String")) (by decide) (by decide)))).other W3 (Or.inr (slot_ne (Or.inr (hw _ (List.mem_of_getElem? (i := 25) rfl))) (Or.inr (hw _ (List.mem_of_getElem? (i := 23) rfl))) (by decide) (t := .long) (t' := .long) (by decide) (by decide)))) ((tE.wr W2).wr W3) (Or.inr ⟨(hw _ (List.mem_of_getElem? (i := 25) rfl)), rfl, hnm⟩) (hw _ (List.mem_of_getElem? (i := 4) rfl)) (ty := .long) (by decide) rfl rfl (g := (mkF m 17 #[rv a, rv na, .val (.long (1 : Int64)), .second, .val (.long (1 : Int64)), .second, .val (.long (Int64.ofNat uu)), .second, .val (.long (1 : Int64)), .second, .val (.long (1 : Int64)), .second, iv (0 : Int32)] [(.long (1 : Int64)), (.ref a)])) rfl rfl (hb hby d_prog_6_method_1_17)
  have F4 := ((t_classes.other W2 (Or.inr (slot_ne (Or.inr (hw _ (List.mem_of_getElem? (i := 25) rfl))) (Or.inr (hw _ (List.mem_of_getElem? (i := 21) rfl))) (by decide) (t := .long) (t' := (.object "java/lang/String")) (by decide) (by decide)))).other W3 (Or.inr (slot_ne (Or.inr (hw _ (List.mem_of_getElem? (i := 25) rfl))) (Or.inr (hw _ (List.mem_of_getElem? (i := 23) rfl))) (by decide) (t := .long) (t' := .long) (by decide) (by decide)))).same W4
  have N4 := Fr.snoc X4 N3 ga
  refine Go.pre st4 ?_
  have KC4 : Keep h0 h4 [a] := KC3.wr W4 (Or.inl (List.mem_of_getElem? (i := 0) rfl))
  show Go p e below _ (T4.setTop (mkF m 20 #[rv a, rv na, .val (.long (1 : Int64)), .second, .val (.long (1 : Int64)), .second, .val (.long (Int64.ofNat uu)), .second, .val (.long (1 : Int64)), .second, .val (.long (1 : Int64)), .second, iv (0 : Int32)] []))
  refine Go.pre (fun _ k => XS.aloadN X4.here hx rfl (hb hby d_prog_6_method_1_20) rfl rfl k) ?_
  show Go p e below _ (T4.setTop (mkF m 21 #[rv a, rv na, .val (.long (1 : Int64)), .second, .val (.long (1 : Int64)), .second, .val (.long (Int64.ofNat uu)), .second, .val (.long (1 : Int64)), .second, .val (.long (1 : Int64)), .second, iv (0 : Int32)] [(.ref a)]))
  refine Go.pre (fun _ k => XS.lload X4.here hx rfl (hb hby d_prog_6_method_1_21) rfl k) ?_
  show Go p e below _ (T4.setTop (mkF m 23 #[rv a, rv na, .val (.long (1 : Int64)), .second, .val (.long (1 : Int64)), .second, .val (.long (Int64.ofNat uu)), .second, .val (.long (1 : Int64)), .second, .val (.long (1 : Int64)), .second, iv (0 : Int32)] [(.long (Int64.ofNat uu)), (.ref a)]))
  obtain ⟨T5, h5, X5, e5, W5, st5⟩ := putF X4 hx hZ hown (host := "") (Or.inl (hw _ (List.mem_of_getElem? (i := 26) rfl))) Via.refl e4 (((t_users.other W2 (Or.inr (slot_ne (Or.inr (hw _ (List.mem_of_getElem? (i := 27) rfl))) (Or.inr (hw _ (List.mem_of_getElem? (i := 21) rfl))) (by decide) (t := .long) (t' := (.object "java/lang/String")) (by decide) (by decide)))).other W3 (Or.inr (slot_ne (Or.inr (hw _ (List.mem_of_getElem? (i := 27) rfl))) (Or.inr (hw _ (List.mem_of_getElem? (i := 23) rfl))) (by decide) (t := .long) (t' := .long) (by decide) (by decide)))).other W4 (Or.inr (slot_ne (Or.inr (hw _ (List.mem_of_getElem? (i := 27) rfl))) (Or.inr (hw _ (List.mem_of_getElem? (i := 25) rfl))) (by decide) (t := .long) (t' := .long) (by decide) (by decide)))) (((tE.wr W2).wr W3).wr W4) (Or.inr ⟨(hw _ (List.mem_of_getElem? (i := 27) rfl)), rfl, hnm⟩) (hw _ (List.mem_of_getElem? (i := 4) rfl)) (ty := .long) (by decide) rfl rfl (g := (mkF m 23 #[rv a, rv na, .val (.long (1 : Int64)), .second, .val (.long (1 : Int64)), .second, .val (.long (Int64.ofNat uu)), .second, .val (.long (1 : Int64)), .second, .val (.long (1 : Int64)), .second, iv (0 : Int32)] [(.long (Int64.ofNat uu)), (.ref a)])) rfl rfl (hb hby d_prog_6_method_1_23)
  have F5 := (((t_users.other W2 (Or.inr (slot_ne (Or.inr (hw _ (List.mem_of_getElem? (i := 27) rfl))) (Or.inr (hw _ (List.mem_of_getElem? (i := 21) rfl))) (by decide) (t := .long) (t' := (.object "java/lang/String")) (by decide) (by decide)))).other W3 (Or.inr (slot_ne (Or.inr (hw _ (List.mem_of_getElem? (i := 27) rfl))) (Or.inr (hw _ (List.mem_of_getElem? (i := 23) rfl))) (by decide) (t := .long) (t' := .long) (by decide) (by decide)))).other W4 (Or.inr (slot_ne (Or.inr (hw _ (List.mem_of_getElem? (i := 27) rfl))) (Or.inr (hw _ (List.mem_of_getElem? (i := 25) rfl))) (by decide) (t := .long) (t' := .long) (by decide) (by decide)))).same W5
  have N5 := Fr.snoc X5 N4 ga
  refine Go.pre st5 ?_
  have KC5 : Keep h0 h5 [a] := KC4.wr W5 (Or.inl (List.mem_of_getElem? (i := 0) rfl))
  show Go p e below _ (T5.setTop (mkF m 26 #[rv a, rv na, .val (.long (1 : Int64)), .second, .val (.long (1 : Int64)), .second, .val (.long (Int64.ofNat uu)), .second, .val (.long (1 : Int64)), .second, .val (.long (1 : Int64)), .second, iv (0 : Int32)] []))
  refine Go.pre (fun _ k => XS.aloadN X5.here hx rfl (hb hby d_prog_6_method_1_26) rfl rfl k) ?_
  show Go p e below _ (T5.setTop (mkF m 27 #[rv a, rv na, .val (.long (1 : Int64)), .second, .val (.long (1 : Int64)), .second, .val (.long (Int64.ofNat uu)), .second, .val (.long (1 : Int64)), .second, .val (.long (1 : Int64)), .second, iv (0 : Int32)] [(.ref a)]))
  refine Go.pre (fun _ k => XS.lload X5.here hx rfl (hb hby d_prog_6_method_1_27) rfl k) ?_
  show Go p e below _ (T5.setTop (mkF m 29 #[rv a, rv na, .val (.long (1 : Int64)), .second, .val (.long (1 : Int64)), .second, .val (.long (Int64.ofNat uu)), .second, .val (.long (1 : Int64)), .second, .val (.long (1 : Int64)), .second, iv (0 : Int32)] [(.long (1 : Int64)), (.ref a)]))
  obtain ⟨T6, h6, X6, e6, W6, st6⟩ := putF X5 hx hZ hown (host := "") (Or.inl (hw _ (List.mem_of_getElem? (i := 28) rfl))) Via.refl e5 ((((t_objects.other W2 (Or.inr (slot_ne (Or.inr (hw _ (List.mem_of_getElem? (i := 29) rfl))) (Or.inr (hw _ (List.mem_of_getElem? (i := 21) rfl))) (by decide) (t := .long) (t' := (.object "java/lang/String")) (by decide) (by decide)))).other W3 (Or.inr (slot_ne (Or.inr (hw _ (List.mem_of_getElem? (i := 29) rfl))) (Or.inr (hw _ (List.mem_of_getElem? (i := 23) rfl))) (by decide) (t := .long) (t' := .long) (by decide) (by decide)))).other W4 (Or.inr (slot_ne (Or.inr (hw _ (List.mem_of_getElem? (i := 29) rfl))) (Or.inr (hw _ (List.mem_of_getElem? (i := 25) rfl))) (by decide) (t := .long) (t' := .long) (by decide) (by decide)))).other W5 (Or.inr (slot_ne (Or.inr (hw _ (List.mem_of_getElem? (i := 29) rfl))) (Or.inr (hw _ (List.mem_of_getElem? (i := 27) rfl))) (by decide) (t := .long) (t' := .long) (by decide) (by decide)))) ((((tE.wr W2).wr W3).wr W4).wr W5) (Or.inr ⟨(hw _ (List.mem_of_getElem? (i := 29) rfl)), rfl, hnm⟩) (hw _ (List.mem_of_getElem? (i := 4) rfl)) (ty := .long) (by decide) rfl rfl (g := (mkF m 29 #[rv a, rv na, .val (.long (1 : Int64)), .second, .val (.long (1 : Int64)), .second, .val (.long (Int64.ofNat uu)), .second, .val (.long (1 : Int64)), .second, .val (.long (1 : Int64)), .second, iv (0 : Int32)] [(.long (1 : Int64)), (.ref a)])) rfl rfl (hb hby d_prog_6_method_1_29)
  have F6 := ((((t_objects.other W2 (Or.inr (slot_ne (Or.inr (hw _ (List.mem_of_getElem? (i := 29) rfl))) (Or.inr (hw _ (List.mem_of_getElem? (i := 21) rfl))) (by decide) (t := .long) (t' := (.object "java/lang/String")) (by decide) (by decide)))).other W3 (Or.inr (slot_ne (Or.inr (hw _ (List.mem_of_getElem? (i := 29) rfl))) (Or.inr (hw _ (List.mem_of_getElem? (i := 23) rfl))) (by decide) (t := .long) (t' := .long) (by decide) (by decide)))).other W4 (Or.inr (slot_ne (Or.inr (hw _ (List.mem_of_getElem? (i := 29) rfl))) (Or.inr (hw _ (List.mem_of_getElem? (i := 25) rfl))) (by decide) (t := .long) (t' := .long) (by decide) (by decide)))).other W5 (Or.inr (slot_ne (Or.inr (hw _ (List.mem_of_getElem? (i := 29) rfl))) (Or.inr (hw _ (List.mem_of_getElem? (i := 27) rfl))) (by decide) (t := .long) (t' := .long) (by decide) (by decide)))).same W6
  have N6 := Fr.snoc X6 N5 ga
  refine Go.pre st6 ?_
  have KC6 : Keep h0 h6 [a] := KC5.wr W6 (Or.inl (List.mem_of_getElem? (i := 0) rfl))
  show Go p e below _ (T6.setTop (mkF m 32 #[rv a, rv na, .val (.long (1 : Int64)), .second, .val (.long (1 : Int64)), .second, .val (.long (Int64.ofNat uu)), .second, .val (.long (1 : Int64)), .second, .val (.long (1 : Int64)), .second, iv (0 : Int32)] []))
  refine Go.pre (fun _ k => XS.aloadN X6.here hx rfl (hb hby d_prog_6_method_1_32) rfl rfl k) ?_
  show Go p e below _ (T6.setTop (mkF m 33 #[rv a, rv na, .val (.long (1 : Int64)), .second, .val (.long (1 : Int64)), .second, .val (.long (Int64.ofNat uu)), .second, .val (.long (1 : Int64)), .second, .val (.long (1 : Int64)), .second, iv (0 : Int32)] [(.ref a)]))
  refine Go.pre (fun _ k => XS.lload X6.here hx rfl (hb hby d_prog_6_method_1_33) rfl k) ?_
  show Go p e below _ (T6.setTop (mkF m 35 #[rv a, rv na, .val (.long (1 : Int64)), .second, .val (.long (1 : Int64)), .second, .val (.long (Int64.ofNat uu)), .second, .val (.long (1 : Int64)), .second, .val (.long (1 : Int64)), .second, iv (0 : Int32)] [(.long (1 : Int64)), (.ref a)]))
  obtain ⟨T7, h7, X7, e7, W7, st7⟩ := putF X6 hx hZ hown (host := "") (Or.inl (hw _ (List.mem_of_getElem? (i := 30) rfl))) Via.refl e6 (((((t_grants.other W2 (Or.inr (slot_ne (Or.inr (hw _ (List.mem_of_getElem? (i := 31) rfl))) (Or.inr (hw _ (List.mem_of_getElem? (i := 21) rfl))) (by decide) (t := .long) (t' := (.object "java/lang/String")) (by decide) (by decide)))).other W3 (Or.inr (slot_ne (Or.inr (hw _ (List.mem_of_getElem? (i := 31) rfl))) (Or.inr (hw _ (List.mem_of_getElem? (i := 23) rfl))) (by decide) (t := .long) (t' := .long) (by decide) (by decide)))).other W4 (Or.inr (slot_ne (Or.inr (hw _ (List.mem_of_getElem? (i := 31) rfl))) (Or.inr (hw _ (List.mem_of_getElem? (i := 25) rfl))) (by decide) (t := .long) (t' := .long) (by decide) (by decide)))).other W5 (Or.inr (slot_ne (Or.inr (hw _ (List.mem_of_getElem? (i := 31) rfl))) (Or.inr (hw _ (List.mem_of_getElem? (i := 27) rfl))) (by decide) (t := .long) (t' := .long) (by decide) (by decide)))).other W6 (Or.inr (slot_ne (Or.inr (hw _ (List.mem_of_getElem? (i := 31) rfl))) (Or.inr (hw _ (List.mem_of_getElem? (i := 29) rfl))) (by decide) (t := .long) (t' := .long) (by decide) (by decide)))) (((((tE.wr W2).wr W3).wr W4).wr W5).wr W6) (Or.inr ⟨(hw _ (List.mem_of_getElem? (i := 31) rfl)), rfl, hnm⟩) (hw _ (List.mem_of_getElem? (i := 4) rfl)) (ty := .long) (by decide) rfl rfl (g := (mkF m 35 #[rv a, rv na, .val (.long (1 : Int64)), .second, .val (.long (1 : Int64)), .second, .val (.long (Int64.ofNat uu)), .second, .val (.long (1 : Int64)), .second, .val (.long (1 : Int64)), .second, iv (0 : Int32)] [(.long (1 : Int64)), (.ref a)])) rfl rfl (hb hby d_prog_6_method_1_35)
  have F7 := (((((t_grants.other W2 (Or.inr (slot_ne (Or.inr (hw _ (List.mem_of_getElem? (i := 31) rfl))) (Or.inr (hw _ (List.mem_of_getElem? (i := 21) rfl))) (by decide) (t := .long) (t' := (.object "java/lang/String")) (by decide) (by decide)))).other W3 (Or.inr (slot_ne (Or.inr (hw _ (List.mem_of_getElem? (i := 31) rfl))) (Or.inr (hw _ (List.mem_of_getElem? (i := 23) rfl))) (by decide) (t := .long) (t' := .long) (by decide) (by decide)))).other W4 (Or.inr (slot_ne (Or.inr (hw _ (List.mem_of_getElem? (i := 31) rfl))) (Or.inr (hw _ (List.mem_of_getElem? (i := 25) rfl))) (by decide) (t := .long) (t' := .long) (by decide) (by decide)))).other W5 (Or.inr (slot_ne (Or.inr (hw _ (List.mem_of_getElem? (i := 31) rfl))) (Or.inr (hw _ (List.mem_of_getElem? (i := 27) rfl))) (by decide) (t := .long) (t' := .long) (by decide) (by decide)))).other W6 (Or.inr (slot_ne (Or.inr (hw _ (List.mem_of_getElem? (i := 31) rfl))) (Or.inr (hw _ (List.mem_of_getElem? (i := 29) rfl))) (by decide) (t := .long) (t' := .long) (by decide) (by decide)))).same W7
  have N7 := Fr.snoc X7 N6 ga
  refine Go.pre st7 ?_
  have KC7 : Keep h0 h7 [a] := KC6.wr W7 (Or.inl (List.mem_of_getElem? (i := 0) rfl))
  show Go p e below _ (T7.setTop (mkF m 38 #[rv a, rv na, .val (.long (1 : Int64)), .second, .val (.long (1 : Int64)), .second, .val (.long (Int64.ofNat uu)), .second, .val (.long (1 : Int64)), .second, .val (.long (1 : Int64)), .second, iv (0 : Int32)] []))
  refine Go.pre (fun _ k => XS.aloadN X7.here hx rfl (hb hby d_prog_6_method_1_38) rfl rfl k) ?_
  show Go p e below _ (T7.setTop (mkF m 39 #[rv a, rv na, .val (.long (1 : Int64)), .second, .val (.long (1 : Int64)), .second, .val (.long (Int64.ofNat uu)), .second, .val (.long (1 : Int64)), .second, .val (.long (1 : Int64)), .second, iv (0 : Int32)] [(.ref a)]))
  refine Go.pre (fun _ k => XS.iload X7.here hx rfl (hb hby d_prog_6_method_1_39) rfl k) ?_
  show Go p e below _ (T7.setTop (mkF m 41 #[rv a, rv na, .val (.long (1 : Int64)), .second, .val (.long (1 : Int64)), .second, .val (.long (Int64.ofNat uu)), .second, .val (.long (1 : Int64)), .second, .val (.long (1 : Int64)), .second, iv (0 : Int32)] [(.int (0 : Int32)), (.ref a)]))
  obtain ⟨T8, h8, X8, e8, W8, st8⟩ := putF X7 hx hZ hown (host := "") (Or.inl (hw _ (List.mem_of_getElem? (i := 32) rfl))) Via.refl e7 ((((((t_permits.other W2 (Or.inr (slot_ne (Or.inr (hw _ (List.mem_of_getElem? (i := 33) rfl))) (Or.inr (hw _ (List.mem_of_getElem? (i := 21) rfl))) (by decide) (t := .int) (t' := (.object "java/lang/String")) (by decide) (by decide)))).other W3 (Or.inr (slot_ne (Or.inr (hw _ (List.mem_of_getElem? (i := 33) rfl))) (Or.inr (hw _ (List.mem_of_getElem? (i := 23) rfl))) (by decide) (t := .int) (t' := .long) (by decide) (by decide)))).other W4 (Or.inr (slot_ne (Or.inr (hw _ (List.mem_of_getElem? (i := 33) rfl))) (Or.inr (hw _ (List.mem_of_getElem? (i := 25) rfl))) (by decide) (t := .int) (t' := .long) (by decide) (by decide)))).other W5 (Or.inr (slot_ne (Or.inr (hw _ (List.mem_of_getElem? (i := 33) rfl))) (Or.inr (hw _ (List.mem_of_getElem? (i := 27) rfl))) (by decide) (t := .int) (t' := .long) (by decide) (by decide)))).other W6 (Or.inr (slot_ne (Or.inr (hw _ (List.mem_of_getElem? (i := 33) rfl))) (Or.inr (hw _ (List.mem_of_getElem? (i := 29) rfl))) (by decide) (t := .int) (t' := .long) (by decide) (by decide)))).other W7 (Or.inr (slot_ne (Or.inr (hw _ (List.mem_of_getElem? (i := 33) rfl))) (Or.inr (hw _ (List.mem_of_getElem? (i := 31) rfl))) (by decide) (t := .int) (t' := .long) (by decide) (by decide)))) ((((((tE.wr W2).wr W3).wr W4).wr W5).wr W6).wr W7) (Or.inr ⟨(hw _ (List.mem_of_getElem? (i := 33) rfl)), rfl, hnm⟩) (hw _ (List.mem_of_getElem? (i := 4) rfl)) (ty := .int) (by decide) rfl rfl (g := (mkF m 41 #[rv a, rv na, .val (.long (1 : Int64)), .second, .val (.long (1 : Int64)), .second, .val (.long (Int64.ofNat uu)), .second, .val (.long (1 : Int64)), .second, .val (.long (1 : Int64)), .second, iv (0 : Int32)] [(.int (0 : Int32)), (.ref a)])) rfl rfl (hb hby d_prog_6_method_1_41)
  have F8 := ((((((t_permits.other W2 (Or.inr (slot_ne (Or.inr (hw _ (List.mem_of_getElem? (i := 33) rfl))) (Or.inr (hw _ (List.mem_of_getElem? (i := 21) rfl))) (by decide) (t := .int) (t' := (.object "java/lang/String")) (by decide) (by decide)))).other W3 (Or.inr (slot_ne (Or.inr (hw _ (List.mem_of_getElem? (i := 33) rfl))) (Or.inr (hw _ (List.mem_of_getElem? (i := 23) rfl))) (by decide) (t := .int) (t' := .long) (by decide) (by decide)))).other W4 (Or.inr (slot_ne (Or.inr (hw _ (List.mem_of_getElem? (i := 33) rfl))) (Or.inr (hw _ (List.mem_of_getElem? (i := 25) rfl))) (by decide) (t := .int) (t' := .long) (by decide) (by decide)))).other W5 (Or.inr (slot_ne (Or.inr (hw _ (List.mem_of_getElem? (i := 33) rfl))) (Or.inr (hw _ (List.mem_of_getElem? (i := 27) rfl))) (by decide) (t := .int) (t' := .long) (by decide) (by decide)))).other W6 (Or.inr (slot_ne (Or.inr (hw _ (List.mem_of_getElem? (i := 33) rfl))) (Or.inr (hw _ (List.mem_of_getElem? (i := 29) rfl))) (by decide) (t := .int) (t' := .long) (by decide) (by decide)))).other W7 (Or.inr (slot_ne (Or.inr (hw _ (List.mem_of_getElem? (i := 33) rfl))) (Or.inr (hw _ (List.mem_of_getElem? (i := 31) rfl))) (by decide) (t := .int) (t' := .long) (by decide) (by decide)))).same W8
  have N8 := Fr.snoc X8 N7 ga
  refine Go.pre st8 ?_
  have KC8 : Keep h0 h8 [a] := KC7.wr W8 (Or.inl (List.mem_of_getElem? (i := 0) rfl))
  show Go p e below _ (T8.setTop (mkF m 44 #[rv a, rv na, .val (.long (1 : Int64)), .second, .val (.long (1 : Int64)), .second, .val (.long (Int64.ofNat uu)), .second, .val (.long (1 : Int64)), .second, .val (.long (1 : Int64)), .second, iv (0 : Int32)] []))
  obtain ⟨fs, hr, hrun, hended, hW, hsame⟩ := X8.leave (v := none) (fun _ => rfl)
  refine Go.fin (X8.returnOut hx Bd.returns (hb hby d_prog_6_method_1_44) hr) ⟨hrun, hended, _, _, rfl, ?_, ⟨_, rfl⟩, hW, hsame.mono (by decide) (by decide)⟩
  show Q_sin Z a na uu h0 n0 _ T8.heap _
  rw [e8]
  exact ⟨rfl, N8, KC8, (((((((tE.wr W2).wr W3).wr W4).wr W5).wr W6).wr W7).wr W8), (((F5.other W6 (Or.inr (slot_ne (Or.inr (hw _ (List.mem_of_getElem? (i := 27) rfl))) (Or.inr (hw _ (List.mem_of_getElem? (i := 29) rfl))) (by decide) (t := .long) (t' := .long) (by decide) (by decide)))).other W7 (Or.inr (slot_ne (Or.inr (hw _ (List.mem_of_getElem? (i := 27) rfl))) (Or.inr (hw _ (List.mem_of_getElem? (i := 31) rfl))) (by decide) (t := .long) (t' := .long) (by decide) (by decide)))).other W8 (Or.inr (slot_ne (Or.inr (hw _ (List.mem_of_getElem? (i := 27) rfl))) (Or.inr (hw _ (List.mem_of_getElem? (i := 33) rfl))) (by decide) (t := .long) (t' := .int) (by decide) (by decide))))⟩

theorem ef_law (m : MethodId) (x0 : Int64) (x1 : Int64) (x2 : Int32) : entryFrame m #[(.long x0), (.long x1), (.int x2)] maxLocals = mkF m 0 #[.val (.long x0), .second, .val (.long x1), .second, iv x2, .unset, .unset, .unset, .unset, .unset, .unset, .unset, .unset, .unset, .unset, .unset] [] := by first | (simp [entryFrame, mkF, argsToLocals, Value.category, maxLocals]; done) | rfl
theorem pn_law : plainName "com/example/inferred_grant/inferredgrant/benchmark/SettingRequestUserPinLaw" = true := by first | (simp [plainName, overriddenIn]; done) | decide +kernel
def Q_law (Z : State) (p0 : Int64) (p1 : Int64) (p2 : Int32) (d1a : Addr) (d10a : Addr) (fm : Value) (cs : Int32) (h0 : Heap) (n0 : Nat) (v : Option Value) (h : Heap) (L : List Loc) : Prop := v = some (.int 1) ∧ Fr n0 L
set_option maxRecDepth 65536 in
set_option maxHeartbeats 40000000 in
theorem rm_law (l : Launch) (Z : State) (a0 : Array Value) (hw : ∀ d ∈ tables_1, d.before a0 Z = true) (ws : List Jvm.Cond) (p0 : Int64) (p1 : Int64) (p2 : Int32) (d1a : Addr) (d10a : Addr) (fm : Value) (cs : Int32) (h0 : Heap) (n0 : Nat) (Z0 : n0 ≤ h0.size) (O : Old Z n0 h0) (SC : Sta Z Z.heap "java/lang/String" "COMPACT_STRINGS" "Z" (.int cs)) (hcs : ¬ cs = (0 : Int32)) (SD1 : Sta Z Z.heap "java/lang/Integer" "DigitOnes" "[B" (.ref d1a)) (G1 : Dgt Z d1a own_d1) (SD10 : Sta Z Z.heap "java/lang/Integer" "DigitTens" "[B" (.ref d10a)) (G10 : Dgt Z d10a own_d10) (SF : Sta Z Z.heap "jdk/internal/util/Preconditions" "SIOOBE_FORMATTER" "Ljava/util/function/BiFunction;" fm) (hfm : fm.isRef = true) (hEL : EW Z a0 EL) :
    MetFree l x (head1 (Jvm.Cond.code x code maxLocals ret :: ws) room_1) (fun as_ U => as_ = #[(.long p0), (.long p1), (.int p2)] ∧ Z.Warmed39 U.vm ∧ U.heap = h0 ∧ CHv Z EL U.vm h0) (fun _ _ _ _ _ => True) (fun _ U o U' => ∃ v L, o = .returned v ∧ Q_law Z p0 p1 p2 d1a d10a fm cs h0 n0 v U'.heap L ∧ CHr Z EL U.vm U.heap U'.vm U'.heap ∧ ReturnedEndW U o U' L room_1.cells room_1.slots) := by
  refine MetFree.of_bodySF (plainFor_of_name pn_law) hisR ?_
  intro p e s m args below meth c s₁ Bd hml0 hP hK
  obtain ⟨rfl, hZ, hh, CH0⟩ := hP
  have hx := Bd.exec
  have hby := Bd.bytes
  have hml : c.maxLocals = 16 := hml0
  have hown : s.vm.findClass "com/example/inferred_grant/inferredgrant/benchmark/SettingRequestUserPinLaw" = some m.cls := findClass_of_methodNamed Bd.named
  have hnm := (name_of_methodNamed Bd.named Bd.method).1
  have X0 : Stand p l e room_1 s m #[(.long p0), (.long p1), (.int p2)] below meth c s₁ [] 0 0 := Stand.of_body Bd
  have e0 : s₁.heap = h0 := by rw [← hh, Bd.state]; rfl
  have N0 := Fr.nil n0
  refine Go.out ?_
  refine Go.pre (fun t k => castTop (ef_law m p0 p1 p2) k) ?_
  have X0 : Stand p l e room_1 (s.setVm s.vm) m #[(.long p0), (.long p1), (.int p2)] below meth c s₁ [] 0 0 := X0
  have CR0 := CHr.refl CH0
  show Go p e below _ (s₁.setTop (mkF m 0 #[.val (.long p0), .second, .val (.long p1), .second, iv p2, .unset, .unset, .unset, .unset, .unset, .unset, .unset, .unset, .unset, .unset, .unset] []))
  refine Go.pre (fun _ k => XS.lloadN X0.here hx rfl (hb hby at_0) rfl k) ?_
  show Go p e below _ (s₁.setTop (mkF m 1 #[.val (.long p0), .second, .val (.long p1), .second, iv p2, .unset, .unset, .unset, .unset, .unset, .unset, .unset, .unset, .unset, .unset, .unset] [(.long p0)]))
  refine Go.pre (X0.ldc2Long hx hown (mvT hZ (hw _ (List.mem_of_getElem? (i := 0) rfl))) (g := (mkF m 1 #[.val (.long p0), .second, .val (.long p1), .second, iv p2, .unset, .unset, .unset, .unset, .unset, .unset, .unset, .unset, .unset, .unset, .unset] [(.long p0)])) rfl (hb hby at_1)) ?_
  show Go p e below _ (s₁.setTop (mkF m 4 #[.val (.long p0), .second, .val (.long p1), .second, iv p2, .unset, .unset, .unset, .unset, .unset, .unset, .unset, .unset, .unset, .unset, .unset] [(.long (9223372036854775807 : Int64)), (.long p0)]))
  refine Go.pre (fun _ k => XS.land X0.here hx rfl (hb hby at_4) rfl k) ?_
  show Go p e below _ (s₁.setTop (mkF m 5 #[.val (.long p0), .second, .val (.long p1), .second, iv p2, .unset, .unset, .unset, .unset, .unset, .unset, .unset, .unset, .unset, .unset, .unset] [(.long (p0 &&& (9223372036854775807 : Int64)))]))
  refine Go.pre (X0.ldc2Long hx hown (mvT hZ (hw _ (List.mem_of_getElem? (i := 1) rfl))) (g := (mkF m 5 #[.val (.long p0), .second, .val (.long p1), .second, iv p2, .unset, .unset, .unset, .unset, .unset, .unset, .unset, .unset, .unset, .unset, .unset] [(.long (p0 &&& (9223372036854775807 : Int64)))])) rfl (hb hby at_5)) ?_
  show Go p e below _ (s₁.setTop (mkF m 8 #[.val (.long p0), .second, .val (.long p1), .second, iv p2, .unset, .unset, .unset, .unset, .unset, .unset, .unset, .unset, .unset, .unset, .unset] [(.long (2000 : Int64)), (.long (p0 &&& (9223372036854775807 : Int64)))]))
  refine Go.pre (fun _ k => XS.lrem X0.here hx rfl (hb hby at_8) rfl (by decide) k) ?_
  show Go p e below _ (s₁.setTop (mkF m 9 #[.val (.long p0), .second, .val (.long p1), .second, iv p2, .unset, .unset, .unset, .unset, .unset, .unset, .unset, .unset, .unset, .unset, .unset] [(.long ((p0 &&& (9223372036854775807 : Int64)) - (p0 &&& (9223372036854775807 : Int64)) / (2000 : Int64) * (2000 : Int64)))]))
  obtain ⟨qn, hq, eq⟩ := own_q p0
  rw [eq]
  show Go p e below _ (s₁.setTop (mkF m 9 #[.val (.long p0), .second, .val (.long p1), .second, iv p2, .unset, .unset, .unset, .unset, .unset, .unset, .unset, .unset, .unset, .unset, .unset] [(.long (Int64.ofNat qn))]))
  refine Go.pre (fun _ k => XS.lstore X0.here hx rfl (hb hby at_9) rfl (l' := #[.val (.long p0), .second, .val (.long p1), .second, iv p2, .val (.long (Int64.ofNat qn)), .second, .unset, .unset, .unset, .unset, .unset, .unset, .unset, .unset, .unset]) rfl k) ?_
  show Go p e below _ (s₁.setTop (mkF m 11 #[.val (.long p0), .second, .val (.long p1), .second, iv p2, .val (.long (Int64.ofNat qn)), .second, .unset, .unset, .unset, .unset, .unset, .unset, .unset, .unset, .unset] []))
  refine Go.pre (fun _ k => XS.iload X0.here hx rfl (hb hby at_11) rfl k) ?_
  show Go p e below _ (s₁.setTop (mkF m 13 #[.val (.long p0), .second, .val (.long p1), .second, iv p2, .val (.long (Int64.ofNat qn)), .second, .unset, .unset, .unset, .unset, .unset, .unset, .unset, .unset, .unset] [(.int p2)]))
  refine Go.pre (fun _ k => XS.iconst X0.here hx rfl (hb hby at_13) k) ?_
  show Go p e below _ (s₁.setTop (mkF m 14 #[.val (.long p0), .second, .val (.long p1), .second, iv p2, .val (.long (Int64.ofNat qn)), .second, .unset, .unset, .unset, .unset, .unset, .unset, .unset, .unset, .unset] [(.int (1 : Int32)), (.int p2)]))
  refine Go.pre (fun _ k => XS.iand X0.here hx rfl (hb hby at_14) rfl k) ?_
  show Go p e below _ (s₁.setTop (mkF m 15 #[.val (.long p0), .second, .val (.long p1), .second, iv p2, .val (.long (Int64.ofNat qn)), .second, .unset, .unset, .unset, .unset, .unset, .unset, .unset, .unset, .unset] [(.int (p2 &&& (1 : Int32)))]))
  by_cases hc15_1 : (p2 &&& (1 : Int32)) = (0 : Int32)
  · skip
    refine Go.pre (fun _ k => XS.ifYes X0.here hx rfl (pc0 := 15) (pc' := 28) rfl (hb hby at_15) rfl ((if0 _ _).trans (teq hc15_1).1) (by decide) (by decide) k) ?_
    show Go p e below _ (s₁.setTop (mkF m 28 #[.val (.long p0), .second, .val (.long p1), .second, iv p2, .val (.long (Int64.ofNat qn)), .second, .unset, .unset, .unset, .unset, .unset, .unset, .unset, .unset, .unset] []))
    refine Go.pre (fun _ k => XS.lconst X0.here hx rfl (hb hby at_28) k) ?_
    show Go p e below _ (s₁.setTop (mkF m 29 #[.val (.long p0), .second, .val (.long p1), .second, iv p2, .val (.long (Int64.ofNat qn)), .second, .unset, .unset, .unset, .unset, .unset, .unset, .unset, .unset, .unset] [(.long (1 : Int64))]))
    refine Go.pre (fun _ k => XS.lloadN X0.here hx rfl (hb hby at_29) rfl k) ?_
    show Go p e below _ (s₁.setTop (mkF m 30 #[.val (.long p0), .second, .val (.long p1), .second, iv p2, .val (.long (Int64.ofNat qn)), .second, .unset, .unset, .unset, .unset, .unset, .unset, .unset, .unset, .unset] [(.long p1), (.long (1 : Int64))]))
    refine Go.pre (X0.ldc2Long hx hown (mvT hZ (hw _ (List.mem_of_getElem? (i := 2) rfl))) (g := (mkF m 30 #[.val (.long p0), .second, .val (.long p1), .second, iv p2, .val (.long (Int64.ofNat qn)), .second, .unset, .unset, .unset, .unset, .unset, .unset, .unset, .unset, .unset] [(.long p1), (.long (1 : Int64))])) rfl (hb hby at_30)) ?_
    show Go p e below _ (s₁.setTop (mkF m 33 #[.val (.long p0), .second, .val (.long p1), .second, iv p2, .val (.long (Int64.ofNat qn)), .second, .unset, .unset, .unset, .unset, .unset, .unset, .unset, .unset, .unset] [(.long (4611686018427387903 : Int64)), (.long p1), (.long (1 : Int64))]))
    refine Go.pre (fun _ k => XS.land X0.here hx rfl (hb hby at_33) rfl k) ?_
    show Go p e below _ (s₁.setTop (mkF m 34 #[.val (.long p0), .second, .val (.long p1), .second, iv p2, .val (.long (Int64.ofNat qn)), .second, .unset, .unset, .unset, .unset, .unset, .unset, .unset, .unset, .unset] [(.long (p1 &&& (4611686018427387903 : Int64))), (.long (1 : Int64))]))
    refine Go.pre (fun _ k => XS.ladd X0.here hx rfl (hb hby at_34) rfl k) ?_
    show Go p e below _ (s₁.setTop (mkF m 35 #[.val (.long p0), .second, .val (.long p1), .second, iv p2, .val (.long (Int64.ofNat qn)), .second, .unset, .unset, .unset, .unset, .unset, .unset, .unset, .unset, .unset] [(.long ((1 : Int64) + (p1 &&& (4611686018427387903 : Int64))))]))
    obtain ⟨cu, hcu, ec⟩ := own_m62 p1
    rw [ec]
    show Go p e below _ (s₁.setTop (mkF m 35 #[.val (.long p0), .second, .val (.long p1), .second, iv p2, .val (.long (Int64.ofNat qn)), .second, .unset, .unset, .unset, .unset, .unset, .unset, .unset, .unset, .unset] [(.long ((Int64.ofNat 1) + (Int64.ofNat cu)))]))
    rw [own_ladd]
    obtain ⟨uu, huu⟩ : ∃ z, z = 1 + cu := ⟨_, rfl⟩
    rw [← huu]
    have hu0 : 0 < uu := by omega
    have hu1 : uu < 2 ^ 63 := by omega
    obtain ⟨nu, hnu⟩ : ∃ z, z = 7919 * qn % uu := ⟨_, rfl⟩
    have hn : nu < 100000000 := by have := Nat.mod_le (7919 * qn) uu; omega
    have hle : nu ≤ 7919 * qn := by rw [hnu]; exact Nat.mod_le _ _
    have hlt : nu < uu := by rw [hnu]; exact Nat.mod_lt _ hu0
    have hz0 : (7919 * qn - nu) % uu = 0 := by rw [hnu]; exact own_mod_sub _ _
    show Go p e below _ (s₁.setTop (mkF m 35 #[.val (.long p0), .second, .val (.long p1), .second, iv p2, .val (.long (Int64.ofNat qn)), .second, .unset, .unset, .unset, .unset, .unset, .unset, .unset, .unset, .unset] [(.long (Int64.ofNat uu))]))
    refine Go.pre (fun _ k => XS.lstore X0.here hx rfl (hb hby at_35) rfl (l' := #[.val (.long p0), .second, .val (.long p1), .second, iv p2, .val (.long (Int64.ofNat qn)), .second, .val (.long (Int64.ofNat uu)), .second, .unset, .unset, .unset, .unset, .unset, .unset, .unset]) rfl k) ?_
    show Go p e below _ (s₁.setTop (mkF m 37 #[.val (.long p0), .second, .val (.long p1), .second, iv p2, .val (.long (Int64.ofNat qn)), .second, .val (.long (Int64.ofNat uu)), .second, .unset, .unset, .unset, .unset, .unset, .unset, .unset] []))
    obtain ⟨T2, h2, X2, e2, E2, A2, D2, U2, st2⟩ := newO X0 hx hZ hown (hw _ (List.mem_of_getElem? (i := 3) rfl)) (hw _ (List.mem_of_getElem? (i := 4) rfl)) (hw _ (List.mem_of_getElem? (i := 5) rfl)) e0 (g := (mkF m 37 #[.val (.long p0), .second, .val (.long p1), .second, iv p2, .val (.long (Int64.ofNat qn)), .second, .val (.long (Int64.ofNat uu)), .second, .unset, .unset, .unset, .unset, .unset, .unset, .unset] [])) rfl (hb hby at_37) (by decide) (by decide)
    obtain ⟨b2, q2⟩ : ∃ z, z = h0.size := ⟨_, rfl⟩
    rw [← q2] at A2 D2 st2
    have g_b2 : n0 ≤ b2 := Nat.le_trans Z0 (Nat.le_of_eq q2.symm)
    have sz_b2 : h0.size ≤ b2 := Nat.le_trans (Keep.refl h0 []).1 (Nat.le_of_eq q2.symm)
    refine Go.pre st2 ?_
    have KC2 : Keep h0 h2 [] := (Keep.refl h0 []).ext E2
    have CR2 := CR0.trans (CHr.ext E2 CR0.1)
    have F_name_b2 : Fld Z h2 b2 "com/example/inferred_grant/inferredgrant/benchmark/Setting" "name" "Ljava/lang/String;" .null := D2 (Or.inr (hw _ (List.mem_of_getElem? (i := 21) rfl))) (ty := (.object "java/lang/String")) (by decide)
    have F_roles_b2 : Fld Z h2 b2 "com/example/inferred_grant/inferredgrant/benchmark/Setting" "roles" "J" (.long (0 : Int64)) := D2 (Or.inr (hw _ (List.mem_of_getElem? (i := 23) rfl))) (ty := .long) (by decide)
    have F_classes_b2 : Fld Z h2 b2 "com/example/inferred_grant/inferredgrant/benchmark/Setting" "classes" "J" (.long (0 : Int64)) := D2 (Or.inr (hw _ (List.mem_of_getElem? (i := 25) rfl))) (ty := .long) (by decide)
    have F_users_b2 : Fld Z h2 b2 "com/example/inferred_grant/inferredgrant/benchmark/Setting" "users" "J" (.long (0 : Int64)) := D2 (Or.inr (hw _ (List.mem_of_getElem? (i := 27) rfl))) (ty := .long) (by decide)
    have F_objects_b2 : Fld Z h2 b2 "com/example/inferred_grant/inferredgrant/benchmark/Setting" "objects" "J" (.long (0 : Int64)) := D2 (Or.inr (hw _ (List.mem_of_getElem? (i := 29) rfl))) (ty := .long) (by decide)
    have F_grants_b2 : Fld Z h2 b2 "com/example/inferred_grant/inferredgrant/benchmark/Setting" "grants" "J" (.long (0 : Int64)) := D2 (Or.inr (hw _ (List.mem_of_getElem? (i := 31) rfl))) (ty := .long) (by decide)
    have F_permits_b2 : Fld Z h2 b2 "com/example/inferred_grant/inferredgrant/benchmark/Setting" "permits" "I" (.int (0 : Int32)) := D2 (Or.inr (hw _ (List.mem_of_getElem? (i := 33) rfl))) (ty := .int) (by decide)
    have sf_b2 := Safe.exa (EL := EL) hZ.alike A2 (by decide) (by decide)
    show Go p e below _ (T2.setTop (mkF m 40 #[.val (.long p0), .second, .val (.long p1), .second, iv p2, .val (.long (Int64.ofNat qn)), .second, .val (.long (Int64.ofNat uu)), .second, .unset, .unset, .unset, .unset, .unset, .unset, .unset] [(.ref b2)]))
    refine Go.pre (fun _ k => XS.dup X2.here hx rfl (hb hby at_40) rfl rfl k) ?_
    show Go p e below _ (T2.setTop (mkF m 41 #[.val (.long p0), .second, .val (.long p1), .second, iv p2, .val (.long (Int64.ofNat qn)), .second, .val (.long (Int64.ofNat uu)), .second, .unset, .unset, .unset, .unset, .unset, .unset, .unset] [(.ref b2), (.ref b2)]))
    obtain ⟨sa3, T3, h3, k3', X3, e3, E3, hS3, hk3, hZ3, hown3, C3, -, st3⟩ := ldcOH (s := s) (vm0 := s.vm) X2 hx hZ hown (hw _ (List.mem_of_getElem? (i := 6) rfl)) (fun d hd => hw d (own_sat d hd)) e2 (k0 := 0) ((State.WarmedH.refl s).since 0) (Nat.zero_le _) hEL CR2.1 (g := (mkF m 41 #[.val (.long p0), .second, .val (.long p1), .second, iv p2, .val (.long (Int64.ofNat qn)), .second, .val (.long (Int64.ofNat uu)), .second, .unset, .unset, .unset, .unset, .unset, .unset, .unset] [(.ref b2), (.ref b2)])) rfl (hb hby at_41) (n := 4) (by decide) (by decide) (by decide) (by decide)
    refine Go.pre st3 ?_
    have KC3 : Keep h0 h3 [] := KC2.ext E3
    have CR3 := CR2.trans C3
    have sf_b2_3 := C3.safe A2.lt sf_b2
    show Go p e below _ (T3.setTop (mkF m 43 #[.val (.long p0), .second, .val (.long p1), .second, iv p2, .val (.long (Int64.ofNat qn)), .second, .val (.long (Int64.ofNat uu)), .second, .unset, .unset, .unset, .unset, .unset, .unset, .unset] [(.ref sa3), (.ref b2), (.ref b2)]))
    refine Go.pre (fun _ k => XS.lconst X3.here hx rfl (hb hby at_43) k) ?_
    show Go p e below _ (T3.setTop (mkF m 44 #[.val (.long p0), .second, .val (.long p1), .second, iv p2, .val (.long (Int64.ofNat qn)), .second, .val (.long (Int64.ofNat uu)), .second, .unset, .unset, .unset, .unset, .unset, .unset, .unset] [(.long (1 : Int64)), (.ref sa3), (.ref b2), (.ref b2)]))
    refine Go.pre (fun _ k => XS.lconst X3.here hx rfl (hb hby at_44) k) ?_
    show Go p e below _ (T3.setTop (mkF m 45 #[.val (.long p0), .second, .val (.long p1), .second, iv p2, .val (.long (Int64.ofNat qn)), .second, .val (.long (Int64.ofNat uu)), .second, .unset, .unset, .unset, .unset, .unset, .unset, .unset] [(.long (1 : Int64)), (.long (1 : Int64)), (.ref sa3), (.ref b2), (.ref b2)]))
    refine Go.pre (fun _ k => XS.lload X3.here hx rfl (hb hby at_45) rfl k) ?_
    show Go p e below _ (T3.setTop (mkF m 47 #[.val (.long p0), .second, .val (.long p1), .second, iv p2, .val (.long (Int64.ofNat qn)), .second, .val (.long (Int64.ofNat uu)), .second, .unset, .unset, .unset, .unset, .unset, .unset, .unset] [(.long (Int64.ofNat uu)), (.long (1 : Int64)), (.long (1 : Int64)), (.ref sa3), (.ref b2), (.ref b2)]))
    refine Go.pre (fun _ k => XS.lconst X3.here hx rfl (hb hby at_47) k) ?_
    show Go p e below _ (T3.setTop (mkF m 48 #[.val (.long p0), .second, .val (.long p1), .second, iv p2, .val (.long (Int64.ofNat qn)), .second, .val (.long (Int64.ofNat uu)), .second, .unset, .unset, .unset, .unset, .unset, .unset, .unset] [(.long (1 : Int64)), (.long (Int64.ofNat uu)), (.long (1 : Int64)), (.long (1 : Int64)), (.ref sa3), (.ref b2), (.ref b2)]))
    refine Go.pre (fun _ k => XS.lconst X3.here hx rfl (hb hby at_48) k) ?_
    show Go p e below _ (T3.setTop (mkF m 49 #[.val (.long p0), .second, .val (.long p1), .second, iv p2, .val (.long (Int64.ofNat qn)), .second, .val (.long (Int64.ofNat uu)), .second, .unset, .unset, .unset, .unset, .unset, .unset, .unset] [(.long (1 : Int64)), (.long (1 : Int64)), (.long (Int64.ofNat uu)), (.long (1 : Int64)), (.long (1 : Int64)), (.ref sa3), (.ref b2), (.ref b2)]))
    refine Go.pre (fun _ k => XS.iconst X3.here hx rfl (hb hby at_49) k) ?_
    show Go p e below _ (T3.setTop (mkF m 50 #[.val (.long p0), .second, .val (.long p1), .second, iv p2, .val (.long (Int64.ofNat qn)), .second, .val (.long (Int64.ofNat uu)), .second, .unset, .unset, .unset, .unset, .unset, .unset, .unset] [(.int (0 : Int32)), (.long (1 : Int64)), (.long (1 : Int64)), (.long (Int64.ofNat uu)), (.long (1 : Int64)), (.long (1 : Int64)), (.ref sa3), (.ref b2), (.ref b2)]))
    obtain ⟨_, _, ⟨T4, L4, k4, n4⟩, -, X4, ⟨Lc4, hQ4, l4, y4, z4⟩, st4⟩ := X3.specialBack hx (y := (⟨"com/example/inferred_grant/inferredgrant/benchmark/Setting", "<init>", "(Ljava/lang/String;JJJJJI)V"⟩ : MethodName)) rfl hown3 (mvT hZ3 (hw _ (List.mem_of_getElem? (i := 14) rfl))) (mvT hZ3 (hw _ (List.mem_of_getElem? (i := 15) rfl))) (mvT hZ3 (hw _ (List.mem_of_getElem? (i := 16) rfl))) (by decide) (backOf (W := 1) (rm_sin l Z a0 hw [] b2 sa3 uu h3 n0 (Nat.le_trans (Nat.le_trans Z0 E2.1) E3.1) ((O.ext E2).ext E3) (A2.ext E3) (F_name_b2.ext E3) (F_roles_b2.ext E3) (F_classes_b2.ext E3) (F_users_b2.ext E3) (F_objects_b2.ext E3) (F_grants_b2.ext E3) (F_permits_b2.ext E3) g_b2) hZ3 (hw _ (List.mem_of_getElem? (i := 16) rfl)) (hw _ (List.mem_of_getElem? (i := 5) rfl)) (by decide) (by decide)) (g := (mkF m 50 #[.val (.long p0), .second, .val (.long p1), .second, iv p2, .val (.long (Int64.ofNat qn)), .second, .val (.long (Int64.ofNat uu)), .second, .unset, .unset, .unset, .unset, .unset, .unset, .unset] [(.int (0 : Int32)), (.long (1 : Int64)), (.long (1 : Int64)), (.long (Int64.ofNat uu)), (.long (1 : Int64)), (.long (1 : Int64)), (.ref sa3), (.ref b2), (.ref b2)])) rfl (by rw [hml]; rfl) (Steps.refl _) (a := b2) (argsL := [(.ref sa3), (.long (1 : Int64)), (.long (1 : Int64)), (.long (Int64.ofNat uu)), (.long (1 : Int64)), (.long (1 : Int64)), (.int (0 : Int32))]) (rest := [(.ref b2)]) (lenOf pd_25 rfl) rfl (by show 2 * 0 + _ ≤ _; exact Nat.le_of_eq rfl) (hb hby at_50) (fun _ _ => ⟨rfl, e3, (by decide : 3 + 0 ≤ _), (by decide : 15 + 0 ≤ _)⟩)
    dsimp only [Pt.U, Pt.locs, Pt.cells, Pt.slots] at X4 l4 y4 z4 st4 hQ4
    subst l4 y4 z4
    refine Go.pre (own_cut st4) ?_
    obtain ⟨rfl, N4q, K4, uE4, uU4⟩ := hQ4
    have N4 := Fr.app N0 N4q
    have KC4 : Keep h0 T4.heap [] := KC3.trans K4 (allS (Or.inr sz_b2) all0)
    have hs4 := ((sfS sf_b2_3 sf0) : ∀ x ∈ [b2], Safe Z EL _ _ x)
    have CR4 := CR3.trans (CHr.keep K4 hs4 CR3.1)
    have sf_b2_4 := Safe.keep K4 hs4 CR3.1 sf_b2_3
    show Go p e below _ (T4.setTop (mkF m 53 #[.val (.long p0), .second, .val (.long p1), .second, iv p2, .val (.long (Int64.ofNat qn)), .second, .val (.long (Int64.ofNat uu)), .second, .unset, .unset, .unset, .unset, .unset, .unset, .unset] [(.ref b2)]))
    refine Go.pre (fun _ k => XS.astore X4.here hx rfl (hb hby at_53) rfl rfl (l' := #[.val (.long p0), .second, .val (.long p1), .second, iv p2, .val (.long (Int64.ofNat qn)), .second, .val (.long (Int64.ofNat uu)), .second, rv b2, .unset, .unset, .unset, .unset, .unset, .unset]) rfl k) ?_
    show Go p e below _ (T4.setTop (mkF m 55 #[.val (.long p0), .second, .val (.long p1), .second, iv p2, .val (.long (Int64.ofNat qn)), .second, .val (.long (Int64.ofNat uu)), .second, rv b2, .unset, .unset, .unset, .unset, .unset, .unset] []))
    refine Go.pre (fun _ k => XS.aload X4.here hx rfl (hb hby at_55) rfl rfl k) ?_
    show Go p e below _ (T4.setTop (mkF m 57 #[.val (.long p0), .second, .val (.long p1), .second, iv p2, .val (.long (Int64.ofNat qn)), .second, .val (.long (Int64.ofNat uu)), .second, rv b2, .unset, .unset, .unset, .unset, .unset, .unset] [(.ref b2)]))
    refine Go.pre (fun _ k => XS.lload X4.here hx rfl (hb hby at_57) rfl k) ?_
    show Go p e below _ (T4.setTop (mkF m 59 #[.val (.long p0), .second, .val (.long p1), .second, iv p2, .val (.long (Int64.ofNat qn)), .second, .val (.long (Int64.ofNat uu)), .second, rv b2, .unset, .unset, .unset, .unset, .unset, .unset] [(.long (Int64.ofNat qn)), (.ref b2)]))
    have hkb5 : k3' ≤ T4.heap.size := by rw [show T4.heap = T4.heap from rfl]; exact (Nat.le_trans hk3 K4.1)
    obtain ⟨cq5, kq5, q5a, q5b, q5c⟩ := isOf hZ3 rfl uE4
    obtain ⟨_, _, ⟨T5, L5, k5, n5⟩, -, Xa5, hSa5, hle5, ⟨Lc5, hQ5, l5, y5, z5, C5⟩, st5⟩ := X4.virtualBackS hx (y := (⟨"com/example/inferred_grant/inferredgrant/benchmark/Setting", "requestUser", "(J)Ljava/lang/String;"⟩ : MethodName)) (z := (⟨"com/example/inferred_grant/inferredgrant/benchmark/Setting", "requestUser", "(J)Ljava/lang/String;"⟩ : MethodName)) hown3 (mvT hZ3 (hw _ (List.mem_of_getElem? (i := 34) rfl))) (mvT hZ3 (hw _ (List.mem_of_getElem? (i := 35) rfl))) (notFace_of_selects (args := #[]) (mvT hZ3 (hw _ (List.mem_of_getElem? (i := 37) rfl)))) (mvT hZ3 (hw _ (List.mem_of_getElem? (i := 37) rfl))) (mvT hZ3 (hw _ (List.mem_of_getElem? (i := 36) rfl))) (by decide) (backOfSH (s := s) (vm0 := T3.vm) (W := 0) (rm_rus l Z a0 hw [] b2 qn uu nu d1a d10a cs T4.heap n0 (Nat.le_trans (Nat.le_trans (Nat.le_trans Z0 E2.1) E3.1) K4.1) (((O.ext E2).ext E3).keep K4 (allS g_b2 all0)) SC hcs SD1 G1 SD10 G10 hEL hq hu0 hu1 hnu uE4 uU4) hZ3 (hw _ (List.mem_of_getElem? (i := 38) rfl)) (hw _ (List.mem_of_getElem? (i := 5) rfl)) (by decide) (by decide) hEL CR4.1) q5a q5c (g := (mkF m 59 #[.val (.long p0), .second, .val (.long p1), .second, iv p2, .val (.long (Int64.ofNat qn)), .second, .val (.long (Int64.ofNat uu)), .second, rv b2, .unset, .unset, .unset, .unset, .unset, .unset] [(.long (Int64.ofNat qn)), (.ref b2)])) rfl (by rw [hml]; rfl) (Steps.refl _) (argsL := [(.long (Int64.ofNat qn))]) (rest := []) (lenOf pd_24 rfl) rfl (by show 2 * 0 + _ ≤ _; exact Nat.le_of_eq rfl) (hb hby at_59) (fun _ _ => ⟨rfl, rfl, (by decide : 3 + 6 ≤ _), (by decide : 15 + 48 ≤ _)⟩)
    dsimp only [Pt.U, Pt.locs, Pt.cells, Pt.slots] at Xa5 hSa5 hle5 l5 y5 z5 st5 hQ5 C5
    subst l5 y5 z5
    obtain ⟨X5, hS5, hZ5, hown5⟩ := rebS (s := s) (vm0 := T3.vm) hS3 hkb5 Xa5 hSa5 hle5 hZ3 hown3
    refine Go.pre (own_cut st5) ?_
    obtain ⟨ts5, r5, kr5, rfl, N5q, K5, z5', S5⟩ := hQ5
    have N5 := Fr.app N4 N5q
    have KC5 : Keep h0 T5.heap [] := KC4.trans K5 all0
    have CR5 := CR4.trans C5
    obtain ⟨ln, fd, us, S5, hl2, hl9, hus0, hus, hfd, hfd1, hacc⟩ := own_read hn S5
    obtain ⟨uE5, uC5, uV5, uA5⟩ := S5
    have g_ts5 : n0 ≤ ts5 := Nat.le_trans (Nat.le_trans (Nat.le_trans (Nat.le_trans Z0 E2.1) E3.1) K4.1) z5'
    have sz_ts5 : h0.size ≤ ts5 := Nat.le_trans KC4.1 z5'
    show Go p e below _ (T5.setTop (mkF m 62 #[.val (.long p0), .second, .val (.long p1), .second, iv p2, .val (.long (Int64.ofNat qn)), .second, .val (.long (Int64.ofNat uu)), .second, rv b2, .unset, .unset, .unset, .unset, .unset, .unset] [(.ref ts5)]))
    refine Go.pre (fun _ k => XS.astore X5.here hx rfl (hb hby at_62) rfl rfl (l' := #[.val (.long p0), .second, .val (.long p1), .second, iv p2, .val (.long (Int64.ofNat qn)), .second, .val (.long (Int64.ofNat uu)), .second, rv b2, rv ts5, .unset, .unset, .unset, .unset, .unset]) rfl k) ?_
    show Go p e below _ (T5.setTop (mkF m 64 #[.val (.long p0), .second, .val (.long p1), .second, iv p2, .val (.long (Int64.ofNat qn)), .second, .val (.long (Int64.ofNat uu)), .second, rv b2, rv ts5, .unset, .unset, .unset, .unset, .unset] []))
    refine Go.pre (fun _ k => XS.aload X5.here hx rfl (hb hby at_64) rfl rfl k) ?_
    show Go p e below _ (T5.setTop (mkF m 66 #[.val (.long p0), .second, .val (.long p1), .second, iv p2, .val (.long (Int64.ofNat qn)), .second, .val (.long (Int64.ofNat uu)), .second, rv b2, rv ts5, .unset, .unset, .unset, .unset, .unset] [(.ref ts5)]))
    obtain ⟨cq6, kq6, q6a, q6b, q6c⟩ := isOf hZ5 rfl uE5
    obtain ⟨_, _, ⟨T6, L6, k6, n6⟩, -, X6, ⟨Lc6, hQ6, l6, y6, z6⟩, st6⟩ := X5.virtualBack hx (y := (⟨"java/lang/String", "length", "()I"⟩ : MethodName)) (z := (⟨"java/lang/String", "length", "()I"⟩ : MethodName)) hown5 (mvT hZ5 (hw _ (List.mem_of_getElem? (i := 180) rfl))) (mvT hZ5 (hw _ (List.mem_of_getElem? (i := 73) rfl))) (notFace_of_selects (args := #[]) (mvT hZ5 (hw _ (List.mem_of_getElem? (i := 75) rfl)))) (mvT hZ5 (hw _ (List.mem_of_getElem? (i := 75) rfl))) (mvT hZ5 (hw _ (List.mem_of_getElem? (i := 74) rfl))) (by decide) (backOf (W := 0) (rm_length l Z a0 hw [] ts5 r5 kr5 (Int32.ofNat ln) us cs T5.heap n0 (Nat.le_trans (Nat.le_trans (Nat.le_trans (Nat.le_trans Z0 E2.1) E3.1) K4.1) K5.1) ((((O.ext E2).ext E3).keep K4 (allS g_b2 all0)).keep K5 all0) SC hcs ⟨uE5, uC5, uV5, uA5⟩) hZ5 (hw _ (List.mem_of_getElem? (i := 76) rfl)) (hw _ (List.mem_of_getElem? (i := 7) rfl)) (by decide) (by decide)) q6a q6c (g := (mkF m 66 #[.val (.long p0), .second, .val (.long p1), .second, iv p2, .val (.long (Int64.ofNat qn)), .second, .val (.long (Int64.ofNat uu)), .second, rv b2, rv ts5, .unset, .unset, .unset, .unset, .unset] [(.ref ts5)])) rfl (by rw [hml]; rfl) (Steps.refl _) (argsL := []) (rest := []) (lenOf pd_1 rfl) rfl (by show 2 * 0 + _ ≤ _; exact Nat.le_of_eq rfl) (hb hby at_66) (fun _ _ => ⟨rfl, rfl, (by decide : 9 + 0 ≤ _), (by decide : 63 + 0 ≤ _)⟩)
    dsimp only [Pt.U, Pt.locs, Pt.cells, Pt.slots] at X6 l6 y6 z6 st6 hQ6
    subst l6 y6 z6
    refine Go.pre (own_cut st6) ?_
    obtain ⟨rfl, N6q, eh6⟩ := hQ6
    have N6 := Fr.app N5 N6q
    show Go p e below _ (T6.setTop (mkF m 69 #[.val (.long p0), .second, .val (.long p1), .second, iv p2, .val (.long (Int64.ofNat qn)), .second, .val (.long (Int64.ofNat uu)), .second, rv b2, rv ts5, .unset, .unset, .unset, .unset, .unset] [(.int (Int32.ofNat ln))]))
    refine Go.pre (fun _ k => XS.istore X6.here hx rfl (hb hby at_69) rfl (l' := #[.val (.long p0), .second, .val (.long p1), .second, iv p2, .val (.long (Int64.ofNat qn)), .second, .val (.long (Int64.ofNat uu)), .second, rv b2, rv ts5, iv (Int32.ofNat ln), .unset, .unset, .unset, .unset]) rfl k) ?_
    show Go p e below _ (T6.setTop (mkF m 71 #[.val (.long p0), .second, .val (.long p1), .second, iv p2, .val (.long (Int64.ofNat qn)), .second, .val (.long (Int64.ofNat uu)), .second, rv b2, rv ts5, iv (Int32.ofNat ln), .unset, .unset, .unset, .unset] []))
    refine Go.pre (fun _ k => XS.iload X6.here hx rfl (hb hby at_71) rfl k) ?_
    show Go p e below _ (T6.setTop (mkF m 73 #[.val (.long p0), .second, .val (.long p1), .second, iv p2, .val (.long (Int64.ofNat qn)), .second, .val (.long (Int64.ofNat uu)), .second, rv b2, rv ts5, iv (Int32.ofNat ln), .unset, .unset, .unset, .unset] [(.int (Int32.ofNat ln))]))
    refine Go.pre (fun _ k => XS.iconst X6.here hx rfl (hb hby at_73) k) ?_
    show Go p e below _ (T6.setTop (mkF m 74 #[.val (.long p0), .second, .val (.long p1), .second, iv p2, .val (.long (Int64.ofNat qn)), .second, .val (.long (Int64.ofNat uu)), .second, rv b2, rv ts5, iv (Int32.ofNat ln), .unset, .unset, .unset, .unset] [(.int (2 : Int32)), (.int (Int32.ofNat ln))]))
    refine Go.pre (fun _ k => XS.icmpNo X6.here hx rfl (hb hby at_74) rfl (flt (fun q => absurd ((own_ol (a := ln) (b := 2) (by omega) (by omega)).mp q) (by omega))).1 k) ?_
    show Go p e below _ (T6.setTop (mkF m 77 #[.val (.long p0), .second, .val (.long p1), .second, iv p2, .val (.long (Int64.ofNat qn)), .second, .val (.long (Int64.ofNat uu)), .second, rv b2, rv ts5, iv (Int32.ofNat ln), .unset, .unset, .unset, .unset] []))
    refine Go.pre (fun _ k => XS.iload X6.here hx rfl (hb hby at_77) rfl k) ?_
    show Go p e below _ (T6.setTop (mkF m 79 #[.val (.long p0), .second, .val (.long p1), .second, iv p2, .val (.long (Int64.ofNat qn)), .second, .val (.long (Int64.ofNat uu)), .second, rv b2, rv ts5, iv (Int32.ofNat ln), .unset, .unset, .unset, .unset] [(.int (Int32.ofNat ln))]))
    refine Go.pre (fun _ k => XS.bipush X6.here hx rfl (hb hby at_79) k) ?_
    show Go p e below _ (T6.setTop (mkF m 81 #[.val (.long p0), .second, .val (.long p1), .second, iv p2, .val (.long (Int64.ofNat qn)), .second, .val (.long (Int64.ofNat uu)), .second, rv b2, rv ts5, iv (Int32.ofNat ln), .unset, .unset, .unset, .unset] [(.int (9 : Int32)), (.int (Int32.ofNat ln))]))
    refine Go.pre (fun _ k => XS.icmpYes X6.here hx rfl (pc0 := 81) (pc' := 86) rfl (hb hby at_81) rfl (flt (fun q => absurd ((own_ol (a := 9) (b := ln) (by omega) (by omega)).mp q) (by omega))).2.2.2 (by decide) (by decide) k) ?_
    show Go p e below _ (T6.setTop (mkF m 86 #[.val (.long p0), .second, .val (.long p1), .second, iv p2, .val (.long (Int64.ofNat qn)), .second, .val (.long (Int64.ofNat uu)), .second, rv b2, rv ts5, iv (Int32.ofNat ln), .unset, .unset, .unset, .unset] []))
    refine Go.pre (fun _ k => XS.aload X6.here hx rfl (hb hby at_86) rfl rfl k) ?_
    show Go p e below _ (T6.setTop (mkF m 88 #[.val (.long p0), .second, .val (.long p1), .second, iv p2, .val (.long (Int64.ofNat qn)), .second, .val (.long (Int64.ofNat uu)), .second, rv b2, rv ts5, iv (Int32.ofNat ln), .unset, .unset, .unset, .unset] [(.ref ts5)]))
    refine Go.pre (fun _ k => XS.iconst X6.here hx rfl (hb hby at_88) k) ?_
    show Go p e below _ (T6.setTop (mkF m 89 #[.val (.long p0), .second, .val (.long p1), .second, iv p2, .val (.long (Int64.ofNat qn)), .second, .val (.long (Int64.ofNat uu)), .second, rv b2, rv ts5, iv (Int32.ofNat ln), .unset, .unset, .unset, .unset] [(.int (0 : Int32)), (.ref ts5)]))
    obtain ⟨cq7, kq7, q7a, q7b, q7c⟩ := isOf hZ5 eh6 uE5
    obtain ⟨_, _, ⟨T7, L7, k7, n7⟩, -, X7, ⟨Lc7, hQ7, l7, y7, z7⟩, st7⟩ := X6.virtualBack hx (y := (⟨"java/lang/String", "charAt", "(I)C"⟩ : MethodName)) (z := (⟨"java/lang/String", "charAt", "(I)C"⟩ : MethodName)) hown5 (mvT hZ5 (hw _ (List.mem_of_getElem? (i := 181) rfl))) (mvT hZ5 (hw _ (List.mem_of_getElem? (i := 182) rfl))) (notFace_of_selects (args := #[]) (mvT hZ5 (hw _ (List.mem_of_getElem? (i := 184) rfl)))) (mvT hZ5 (hw _ (List.mem_of_getElem? (i := 184) rfl))) (mvT hZ5 (hw _ (List.mem_of_getElem? (i := 183) rfl))) (by decide) (backOf (W := 0) (rm_cha l Z a0 hw [] ts5 r5 kr5 us 0 ln 117 fm cs T5.heap n0 (Nat.le_trans (Nat.le_trans (Nat.le_trans (Nat.le_trans Z0 E2.1) E3.1) K4.1) K5.1) ((((O.ext E2).ext E3).keep K4 (allS g_b2 all0)).keep K5 all0) SC hcs SF hfm (by omega) (by omega) hus0 (by decide) ⟨uE5, uC5, uV5, uA5⟩) hZ5 (hw _ (List.mem_of_getElem? (i := 185) rfl)) (hw _ (List.mem_of_getElem? (i := 7) rfl)) (by decide) (by decide)) q7a q7c (g := (mkF m 89 #[.val (.long p0), .second, .val (.long p1), .second, iv p2, .val (.long (Int64.ofNat qn)), .second, .val (.long (Int64.ofNat uu)), .second, rv b2, rv ts5, iv (Int32.ofNat ln), .unset, .unset, .unset, .unset] [(.int (0 : Int32)), (.ref ts5)])) rfl (by rw [hml]; rfl) (Steps.refl _) (argsL := [(.int (0 : Int32))]) (rest := []) (lenOf pd_19 rfl) rfl (by show 2 * 0 + _ ≤ _; exact Nat.le_of_eq rfl) (hb hby at_89) (fun _ _ => ⟨rfl, eh6, (by decide : 9 + 0 ≤ _), (by decide : 63 + 0 ≤ _)⟩)
    dsimp only [Pt.U, Pt.locs, Pt.cells, Pt.slots] at X7 l7 y7 z7 st7 hQ7
    subst l7 y7 z7
    refine Go.pre (own_cut st7) ?_
    obtain ⟨rfl, N7q, eh7⟩ := hQ7
    have N7 := Fr.app N6 N7q
    show Go p e below _ (T7.setTop (mkF m 92 #[.val (.long p0), .second, .val (.long p1), .second, iv p2, .val (.long (Int64.ofNat qn)), .second, .val (.long (Int64.ofNat uu)), .second, rv b2, rv ts5, iv (Int32.ofNat ln), .unset, .unset, .unset, .unset] [(.int (117 : Int32))]))
    refine Go.pre (fun _ k => XS.bipush X7.here hx rfl (hb hby at_92) k) ?_
    show Go p e below _ (T7.setTop (mkF m 94 #[.val (.long p0), .second, .val (.long p1), .second, iv p2, .val (.long (Int64.ofNat qn)), .second, .val (.long (Int64.ofNat uu)), .second, rv b2, rv ts5, iv (Int32.ofNat ln), .unset, .unset, .unset, .unset] [(.int (117 : Int32)), (.int (117 : Int32))]))
    refine Go.pre (fun _ k => XS.icmpYes X7.here hx rfl (pc0 := 94) (pc' := 99) rfl (hb hby at_94) rfl (teq (by decide : (117 : Int32) = (117 : Int32))).1 (by decide) (by decide) k) ?_
    show Go p e below _ (T7.setTop (mkF m 99 #[.val (.long p0), .second, .val (.long p1), .second, iv p2, .val (.long (Int64.ofNat qn)), .second, .val (.long (Int64.ofNat uu)), .second, rv b2, rv ts5, iv (Int32.ofNat ln), .unset, .unset, .unset, .unset] []))
    refine Go.pre (fun _ k => XS.iload X7.here hx rfl (hb hby at_99) rfl k) ?_
    show Go p e below _ (T7.setTop (mkF m 101 #[.val (.long p0), .second, .val (.long p1), .second, iv p2, .val (.long (Int64.ofNat qn)), .second, .val (.long (Int64.ofNat uu)), .second, rv b2, rv ts5, iv (Int32.ofNat ln), .unset, .unset, .unset, .unset] [(.int (Int32.ofNat ln))]))
    refine Go.pre (fun _ k => XS.iconst X7.here hx rfl (hb hby at_101) k) ?_
    show Go p e below _ (T7.setTop (mkF m 102 #[.val (.long p0), .second, .val (.long p1), .second, iv p2, .val (.long (Int64.ofNat qn)), .second, .val (.long (Int64.ofNat uu)), .second, rv b2, rv ts5, iv (Int32.ofNat ln), .unset, .unset, .unset, .unset] [(.int (2 : Int32)), (.int (Int32.ofNat ln))]))
    by_cases hc102_8 : 2 < ln
    · skip
      refine Go.pre (fun _ k => XS.icmpNo X7.here hx rfl (hb hby at_102) rfl (tlt ((own_ol (a := 2) (b := ln) (by omega) (by omega)).mpr hc102_8)).2.2.2 k) ?_
      show Go p e below _ (T7.setTop (mkF m 105 #[.val (.long p0), .second, .val (.long p1), .second, iv p2, .val (.long (Int64.ofNat qn)), .second, .val (.long (Int64.ofNat uu)), .second, rv b2, rv ts5, iv (Int32.ofNat ln), .unset, .unset, .unset, .unset] []))
      refine Go.pre (fun _ k => XS.aload X7.here hx rfl (hb hby at_105) rfl rfl k) ?_
      show Go p e below _ (T7.setTop (mkF m 107 #[.val (.long p0), .second, .val (.long p1), .second, iv p2, .val (.long (Int64.ofNat qn)), .second, .val (.long (Int64.ofNat uu)), .second, rv b2, rv ts5, iv (Int32.ofNat ln), .unset, .unset, .unset, .unset] [(.ref ts5)]))
      refine Go.pre (fun _ k => XS.iconst X7.here hx rfl (hb hby at_107) k) ?_
      show Go p e below _ (T7.setTop (mkF m 108 #[.val (.long p0), .second, .val (.long p1), .second, iv p2, .val (.long (Int64.ofNat qn)), .second, .val (.long (Int64.ofNat uu)), .second, rv b2, rv ts5, iv (Int32.ofNat ln), .unset, .unset, .unset, .unset] [(.int (1 : Int32)), (.ref ts5)]))
      obtain ⟨cq9, kq9, q9a, q9b, q9c⟩ := isOf hZ5 eh7 uE5
      obtain ⟨_, _, ⟨T9, L9, k9, n9⟩, -, X9, ⟨Lc9, hQ9, l9, y9, z9⟩, st9⟩ := X7.virtualBack hx (y := (⟨"java/lang/String", "charAt", "(I)C"⟩ : MethodName)) (z := (⟨"java/lang/String", "charAt", "(I)C"⟩ : MethodName)) hown5 (mvT hZ5 (hw _ (List.mem_of_getElem? (i := 181) rfl))) (mvT hZ5 (hw _ (List.mem_of_getElem? (i := 182) rfl))) (notFace_of_selects (args := #[]) (mvT hZ5 (hw _ (List.mem_of_getElem? (i := 184) rfl)))) (mvT hZ5 (hw _ (List.mem_of_getElem? (i := 184) rfl))) (mvT hZ5 (hw _ (List.mem_of_getElem? (i := 183) rfl))) (by decide) (backOf (W := 0) (rm_cha l Z a0 hw [] ts5 r5 kr5 us 1 ln (48 + fd 1) fm cs T5.heap n0 (Nat.le_trans (Nat.le_trans (Nat.le_trans (Nat.le_trans Z0 E2.1) E3.1) K4.1) K5.1) ((((O.ext E2).ext E3).keep K4 (allS g_b2 all0)).keep K5 all0) SC hcs SF hfm (by omega) (by omega) (hus 1 (by decide) (by omega)).1 (by have := hfd 1; omega) ⟨uE5, uC5, uV5, uA5⟩) hZ5 (hw _ (List.mem_of_getElem? (i := 185) rfl)) (hw _ (List.mem_of_getElem? (i := 7) rfl)) (by decide) (by decide)) q9a q9c (g := (mkF m 108 #[.val (.long p0), .second, .val (.long p1), .second, iv p2, .val (.long (Int64.ofNat qn)), .second, .val (.long (Int64.ofNat uu)), .second, rv b2, rv ts5, iv (Int32.ofNat ln), .unset, .unset, .unset, .unset] [(.int (1 : Int32)), (.ref ts5)])) rfl (by rw [hml]; rfl) (Steps.refl _) (argsL := [(.int (1 : Int32))]) (rest := []) (lenOf pd_19 rfl) rfl (by show 2 * 0 + _ ≤ _; exact Nat.le_of_eq rfl) (hb hby at_108) (fun _ _ => ⟨rfl, eh7, (by decide : 9 + 0 ≤ _), (by decide : 63 + 0 ≤ _)⟩)
      dsimp only [Pt.U, Pt.locs, Pt.cells, Pt.slots] at X9 l9 y9 z9 st9 hQ9
      subst l9 y9 z9
      refine Go.pre (own_cut st9) ?_
      obtain ⟨rfl, N9q, eh9⟩ := hQ9
      have N9 := Fr.app N7 N9q
      show Go p e below _ (T9.setTop (mkF m 111 #[.val (.long p0), .second, .val (.long p1), .second, iv p2, .val (.long (Int64.ofNat qn)), .second, .val (.long (Int64.ofNat uu)), .second, rv b2, rv ts5, iv (Int32.ofNat ln), .unset, .unset, .unset, .unset] [(.int (Int32.ofNat (48 + fd 1)))]))
      refine Go.pre (fun _ k => XS.bipush X9.here hx rfl (hb hby at_111) k) ?_
      show Go p e below _ (T9.setTop (mkF m 113 #[.val (.long p0), .second, .val (.long p1), .second, iv p2, .val (.long (Int64.ofNat qn)), .second, .val (.long (Int64.ofNat uu)), .second, rv b2, rv ts5, iv (Int32.ofNat ln), .unset, .unset, .unset, .unset] [(.int (48 : Int32)), (.int (Int32.ofNat (48 + fd 1)))]))
      refine Go.pre (fun _ k => XS.icmpYes X9.here hx rfl (pc0 := 113) (pc' := 118) rfl (hb hby at_113) rfl (feq (fun q => absurd ((own_oe (a := 48 + fd 1) (b := 48) (by have := hfd 1; omega) (by omega)).mp q) (by have := hfd1 hc102_8; omega))).2 (by decide) (by decide) k) ?_
      show Go p e below _ (T9.setTop (mkF m 118 #[.val (.long p0), .second, .val (.long p1), .second, iv p2, .val (.long (Int64.ofNat qn)), .second, .val (.long (Int64.ofNat uu)), .second, rv b2, rv ts5, iv (Int32.ofNat ln), .unset, .unset, .unset, .unset] []))
      refine Go.pre (fun _ k => XS.lconst X9.here hx rfl (hb hby at_118) k) ?_
      show Go p e below _ (T9.setTop (mkF m 119 #[.val (.long p0), .second, .val (.long p1), .second, iv p2, .val (.long (Int64.ofNat qn)), .second, .val (.long (Int64.ofNat uu)), .second, rv b2, rv ts5, iv (Int32.ofNat ln), .unset, .unset, .unset, .unset] [(.long (Int64.ofNat (own_acc fd ln 0)))]))
      refine Go.pre (fun _ k => XS.lstore X9.here hx rfl (hb hby at_119) rfl (l' := #[.val (.long p0), .second, .val (.long p1), .second, iv p2, .val (.long (Int64.ofNat qn)), .second, .val (.long (Int64.ofNat uu)), .second, rv b2, rv ts5, iv (Int32.ofNat ln), .val (.long (Int64.ofNat (own_acc fd ln 0))), .second, .unset, .unset]) rfl k) ?_
      show Go p e below _ (T9.setTop (mkF m 121 #[.val (.long p0), .second, .val (.long p1), .second, iv p2, .val (.long (Int64.ofNat qn)), .second, .val (.long (Int64.ofNat uu)), .second, rv b2, rv ts5, iv (Int32.ofNat ln), .val (.long (Int64.ofNat (own_acc fd ln 0))), .second, .unset, .unset] []))
      refine Go.pre (fun _ k => XS.aload X9.here hx rfl (hb hby at_121) rfl rfl k) ?_
      show Go p e below _ (T9.setTop (mkF m 123 #[.val (.long p0), .second, .val (.long p1), .second, iv p2, .val (.long (Int64.ofNat qn)), .second, .val (.long (Int64.ofNat uu)), .second, rv b2, rv ts5, iv (Int32.ofNat ln), .val (.long (Int64.ofNat (own_acc fd ln 0))), .second, .unset, .unset] [(.ref ts5)]))
      refine Go.pre (fun _ k => XS.iconst X9.here hx rfl (hb hby at_123) k) ?_
      show Go p e below _ (T9.setTop (mkF m 124 #[.val (.long p0), .second, .val (.long p1), .second, iv p2, .val (.long (Int64.ofNat qn)), .second, .val (.long (Int64.ofNat uu)), .second, rv b2, rv ts5, iv (Int32.ofNat ln), .val (.long (Int64.ofNat (own_acc fd ln 0))), .second, .unset, .unset] [(.int (1 : Int32)), (.ref ts5)]))
      refine Go.pre (fun _ k => XS.lload X9.here hx rfl (hb hby at_124) rfl k) ?_
      show Go p e below _ (T9.setTop (mkF m 126 #[.val (.long p0), .second, .val (.long p1), .second, iv p2, .val (.long (Int64.ofNat qn)), .second, .val (.long (Int64.ofNat uu)), .second, rv b2, rv ts5, iv (Int32.ofNat ln), .val (.long (Int64.ofNat (own_acc fd ln 0))), .second, .unset, .unset] [(.long (Int64.ofNat (own_acc fd ln 0))), (.int (1 : Int32)), (.ref ts5)]))
      obtain ⟨_, _, ⟨T10, L10, k10, n10⟩, -, X10, ⟨Lc10, hQ10, l10, y10, z10⟩, st10⟩ := Jvm.LawKit.callS X9 hx (y := (⟨"com/example/inferred_grant/inferredgrant/benchmark/SettingRequestUserPinLaw", "step", "(Ljava/lang/String;IJ)J"⟩ : MethodName)) hown5 (mvT hZ5 (hw _ (List.mem_of_getElem? (i := 203) rfl))) (mvT hZ5 (hw _ (List.mem_of_getElem? (i := 204) rfl))) (mvT hZ5 (hw _ (List.mem_of_getElem? (i := 205) rfl))) (mvT hZ5 (hw _ (List.mem_of_getElem? (i := 206) rfl))) (by decide) (backOf (W := 0) (rm_stp l Z a0 hw [] ts5 r5 kr5 us 1 ln fd (own_acc fd ln 0) fm cs T5.heap n0 (Nat.le_trans (Nat.le_trans (Nat.le_trans (Nat.le_trans Z0 E2.1) E3.1) K4.1) K5.1) ((((O.ext E2).ext E3).keep K4 (allS g_b2 all0)).keep K5 all0) SC hcs SF hfm (by omega) (by decide) (by decide) (Nat.lt_of_lt_of_le (own_acc_lt hfd 0) (Nat.le_of_ble_eq_true rfl)) hus ⟨uE5, uC5, uV5, uA5⟩) hZ5 (hw _ (List.mem_of_getElem? (i := 206) rfl)) (hw _ (List.mem_of_getElem? (i := 205) rfl)) (by decide) (by decide)) (g := (mkF m 126 #[.val (.long p0), .second, .val (.long p1), .second, iv p2, .val (.long (Int64.ofNat qn)), .second, .val (.long (Int64.ofNat uu)), .second, rv b2, rv ts5, iv (Int32.ofNat ln), .val (.long (Int64.ofNat (own_acc fd ln 0))), .second, .unset, .unset] [(.long (Int64.ofNat (own_acc fd ln 0))), (.int (1 : Int32)), (.ref ts5)])) rfl (by rw [hml]; rfl) (argsL := [(.ref ts5), (.int (1 : Int32)), (.long (Int64.ofNat (own_acc fd ln 0)))]) (rest := []) (lenOf pd_26 rfl) rfl (by show 2 * 0 + _ ≤ _; exact Nat.le_of_eq rfl) (hb hby at_126) (fun _ _ => ⟨rfl, eh9, (by decide : 9 + 0 ≤ _), (by decide : 63 + 0 ≤ _)⟩)
      dsimp only [Pt.U, Pt.locs, Pt.cells, Pt.slots] at X10 l10 y10 z10 st10 hQ10
      subst l10 y10 z10
      refine Go.pre st10 ?_
      obtain ⟨rfl, N10q, eh10⟩ := hQ10
      have N10 := Fr.app N9 N10q
      show Go p e below _ (T10.setTop (mkF m 129 #[.val (.long p0), .second, .val (.long p1), .second, iv p2, .val (.long (Int64.ofNat qn)), .second, .val (.long (Int64.ofNat uu)), .second, rv b2, rv ts5, iv (Int32.ofNat ln), .val (.long (Int64.ofNat (own_acc fd ln 0))), .second, .unset, .unset] [(.long (Int64.ofNat (if 1 < ln then own_acc fd ln 0 * 10 + fd 1 else own_acc fd ln 0)))]))
      rw [show (if 1 < ln then own_acc fd ln 0 * 10 + fd 1 else own_acc fd ln 0) = own_acc fd ln 1 from rfl]
      show Go p e below _ (T10.setTop (mkF m 129 #[.val (.long p0), .second, .val (.long p1), .second, iv p2, .val (.long (Int64.ofNat qn)), .second, .val (.long (Int64.ofNat uu)), .second, rv b2, rv ts5, iv (Int32.ofNat ln), .val (.long (Int64.ofNat (own_acc fd ln 0))), .second, .unset, .unset] [(.long (Int64.ofNat (own_acc fd ln 1)))]))
      refine Go.pre (fun _ k => XS.lstore X10.here hx rfl (hb hby at_129) rfl (l' := #[.val (.long p0), .second, .val (.long p1), .second, iv p2, .val (.long (Int64.ofNat qn)), .second, .val (.long (Int64.ofNat uu)), .second, rv b2, rv ts5, iv (Int32.ofNat ln), .val (.long (Int64.ofNat (own_acc fd ln 1))), .second, .unset, .unset]) rfl k) ?_
      show Go p e below _ (T10.setTop (mkF m 131 #[.val (.long p0), .second, .val (.long p1), .second, iv p2, .val (.long (Int64.ofNat qn)), .second, .val (.long (Int64.ofNat uu)), .second, rv b2, rv ts5, iv (Int32.ofNat ln), .val (.long (Int64.ofNat (own_acc fd ln 1))), .second, .unset, .unset] []))
      refine Go.pre (fun _ k => XS.aload X10.here hx rfl (hb hby at_131) rfl rfl k) ?_
      show Go p e below _ (T10.setTop (mkF m 133 #[.val (.long p0), .second, .val (.long p1), .second, iv p2, .val (.long (Int64.ofNat qn)), .second, .val (.long (Int64.ofNat uu)), .second, rv b2, rv ts5, iv (Int32.ofNat ln), .val (.long (Int64.ofNat (own_acc fd ln 1))), .second, .unset, .unset] [(.ref ts5)]))
      refine Go.pre (fun _ k => XS.iconst X10.here hx rfl (hb hby at_133) k) ?_
      show Go p e below _ (T10.setTop (mkF m 134 #[.val (.long p0), .second, .val (.long p1), .second, iv p2, .val (.long (Int64.ofNat qn)), .second, .val (.long (Int64.ofNat uu)), .second, rv b2, rv ts5, iv (Int32.ofNat ln), .val (.long (Int64.ofNat (own_acc fd ln 1))), .second, .unset, .unset] [(.int (2 : Int32)), (.ref ts5)]))
      refine Go.pre (fun _ k => XS.lload X10.here hx rfl (hb hby at_134) rfl k) ?_
      show Go p e below _ (T10.setTop (mkF m 136 #[.val (.long p0), .second, .val (.long p1), .second, iv p2, .val (.long (Int64.ofNat qn)), .second, .val (.long (Int64.ofNat uu)), .second, rv b2, rv ts5, iv (Int32.ofNat ln), .val (.long (Int64.ofNat (own_acc fd ln 1))), .second, .unset, .unset] [(.long (Int64.ofNat (own_acc fd ln 1))), (.int (2 : Int32)), (.ref ts5)]))
      obtain ⟨_, _, ⟨T11, L11, k11, n11⟩, -, X11, ⟨Lc11, hQ11, l11, y11, z11⟩, st11⟩ := Jvm.LawKit.callS X10 hx (y := (⟨"com/example/inferred_grant/inferredgrant/benchmark/SettingRequestUserPinLaw", "step", "(Ljava/lang/String;IJ)J"⟩ : MethodName)) hown5 (mvT hZ5 (hw _ (List.mem_of_getElem? (i := 203) rfl))) (mvT hZ5 (hw _ (List.mem_of_getElem? (i := 204) rfl))) (mvT hZ5 (hw _ (List.mem_of_getElem? (i := 205) rfl))) (mvT hZ5 (hw _ (List.mem_of_getElem? (i := 206) rfl))) (by decide) (backOf (W := 0) (rm_stp l Z a0 hw [] ts5 r5 kr5 us 2 ln fd (own_acc fd ln 1) fm cs T5.heap n0 (Nat.le_trans (Nat.le_trans (Nat.le_trans (Nat.le_trans Z0 E2.1) E3.1) K4.1) K5.1) ((((O.ext E2).ext E3).keep K4 (allS g_b2 all0)).keep K5 all0) SC hcs SF hfm (by omega) (by decide) (by decide) (Nat.lt_of_lt_of_le (own_acc_lt hfd 1) (Nat.le_of_ble_eq_true rfl)) hus ⟨uE5, uC5, uV5, uA5⟩) hZ5 (hw _ (List.mem_of_getElem? (i := 206) rfl)) (hw _ (List.mem_of_getElem? (i := 205) rfl)) (by decide) (by decide)) (g := (mkF m 136 #[.val (.long p0), .second, .val (.long p1), .second, iv p2, .val (.long (Int64.ofNat qn)), .second, .val (.long (Int64.ofNat uu)), .second, rv b2, rv ts5, iv (Int32.ofNat ln), .val (.long (Int64.ofNat (own_acc fd ln 1))), .second, .unset, .unset] [(.long (Int64.ofNat (own_acc fd ln 1))), (.int (2 : Int32)), (.ref ts5)])) rfl (by rw [hml]; rfl) (argsL := [(.ref ts5), (.int (2 : Int32)), (.long (Int64.ofNat (own_acc fd ln 1)))]) (rest := []) (lenOf pd_26 rfl) rfl (by show 2 * 0 + _ ≤ _; exact Nat.le_of_eq rfl) (hb hby at_136) (fun _ _ => ⟨rfl, eh10, (by decide : 9 + 0 ≤ _), (by decide : 63 + 0 ≤ _)⟩)
      dsimp only [Pt.U, Pt.locs, Pt.cells, Pt.slots] at X11 l11 y11 z11 st11 hQ11
      subst l11 y11 z11
      refine Go.pre st11 ?_
      obtain ⟨rfl, N11q, eh11⟩ := hQ11
      have N11 := Fr.app N10 N11q
      show Go p e below _ (T11.setTop (mkF m 139 #[.val (.long p0), .second, .val (.long p1), .second, iv p2, .val (.long (Int64.ofNat qn)), .second, .val (.long (Int64.ofNat uu)), .second, rv b2, rv ts5, iv (Int32.ofNat ln), .val (.long (Int64.ofNat (own_acc fd ln 1))), .second, .unset, .unset] [(.long (Int64.ofNat (if 2 < ln then own_acc fd ln 1 * 10 + fd 2 else own_acc fd ln 1)))]))
      rw [show (if 2 < ln then own_acc fd ln 1 * 10 + fd 2 else own_acc fd ln 1) = own_acc fd ln 2 from rfl]
      show Go p e below _ (T11.setTop (mkF m 139 #[.val (.long p0), .second, .val (.long p1), .second, iv p2, .val (.long (Int64.ofNat qn)), .second, .val (.long (Int64.ofNat uu)), .second, rv b2, rv ts5, iv (Int32.ofNat ln), .val (.long (Int64.ofNat (own_acc fd ln 1))), .second, .unset, .unset] [(.long (Int64.ofNat (own_acc fd ln 2)))]))
      refine Go.pre (fun _ k => XS.lstore X11.here hx rfl (hb hby at_139) rfl (l' := #[.val (.long p0), .second, .val (.long p1), .second, iv p2, .val (.long (Int64.ofNat qn)), .second, .val (.long (Int64.ofNat uu)), .second, rv b2, rv ts5, iv (Int32.ofNat ln), .val (.long (Int64.ofNat (own_acc fd ln 2))), .second, .unset, .unset]) rfl k) ?_
      show Go p e below _ (T11.setTop (mkF m 141 #[.val (.long p0), .second, .val (.long p1), .second, iv p2, .val (.long (Int64.ofNat qn)), .second, .val (.long (Int64.ofNat uu)), .second, rv b2, rv ts5, iv (Int32.ofNat ln), .val (.long (Int64.ofNat (own_acc fd ln 2))), .second, .unset, .unset] []))
      refine Go.pre (fun _ k => XS.aload X11.here hx rfl (hb hby at_141) rfl rfl k) ?_
      show Go p e below _ (T11.setTop (mkF m 143 #[.val (.long p0), .second, .val (.long p1), .second, iv p2, .val (.long (Int64.ofNat qn)), .second, .val (.long (Int64.ofNat uu)), .second, rv b2, rv ts5, iv (Int32.ofNat ln), .val (.long (Int64.ofNat (own_acc fd ln 2))), .second, .unset, .unset] [(.ref ts5)]))
      refine Go.pre (fun _ k => XS.iconst X11.here hx rfl (hb hby at_143) k) ?_
      show Go p e below _ (T11.setTop (mkF m 144 #[.val (.long p0), .second, .val (.long p1), .second, iv p2, .val (.long (Int64.ofNat qn)), .second, .val (.long (Int64.ofNat uu)), .second, rv b2, rv ts5, iv (Int32.ofNat ln), .val (.long (Int64.ofNat (own_acc fd ln 2))), .second, .unset, .unset] [(.int (3 : Int32)), (.ref ts5)]))
      refine Go.pre (fun _ k => XS.lload X11.here hx rfl (hb hby at_144) rfl k) ?_
      show Go p e below _ (T11.setTop (mkF m 146 #[.val (.long p0), .second, .val (.long p1), .second, iv p2, .val (.long (Int64.ofNat qn)), .second, .val (.long (Int64.ofNat uu)), .second, rv b2, rv ts5, iv (Int32.ofNat ln), .val (.long (Int64.ofNat (own_acc fd ln 2))), .second, .unset, .unset] [(.long (Int64.ofNat (own_acc fd ln 2))), (.int (3 : Int32)), (.ref ts5)]))
      obtain ⟨_, _, ⟨T12, L12, k12, n12⟩, -, X12, ⟨Lc12, hQ12, l12, y12, z12⟩, st12⟩ := Jvm.LawKit.callS X11 hx (y := (⟨"com/example/inferred_grant/inferredgrant/benchmark/SettingRequestUserPinLaw", "step", "(Ljava/lang/String;IJ)J"⟩ : MethodName)) hown5 (mvT hZ5 (hw _ (List.mem_of_getElem? (i := 203) rfl))) (mvT hZ5 (hw _ (List.mem_of_getElem? (i := 204) rfl))) (mvT hZ5 (hw _ (List.mem_of_getElem? (i := 205) rfl))) (mvT hZ5 (hw _ (List.mem_of_getElem? (i := 206) rfl))) (by decide) (backOf (W := 0) (rm_stp l Z a0 hw [] ts5 r5 kr5 us 3 ln fd (own_acc fd ln 2) fm cs T5.heap n0 (Nat.le_trans (Nat.le_trans (Nat.le_trans (Nat.le_trans Z0 E2.1) E3.1) K4.1) K5.1) ((((O.ext E2).ext E3).keep K4 (allS g_b2 all0)).keep K5 all0) SC hcs SF hfm (by omega) (by decide) (by decide) (Nat.lt_of_lt_of_le (own_acc_lt hfd 2) (Nat.le_of_ble_eq_true rfl)) hus ⟨uE5, uC5, uV5, uA5⟩) hZ5 (hw _ (List.mem_of_getElem? (i := 206) rfl)) (hw _ (List.mem_of_getElem? (i := 205) rfl)) (by decide) (by decide)) (g := (mkF m 146 #[.val (.long p0), .second, .val (.long p1), .second, iv p2, .val (.long (Int64.ofNat qn)), .second, .val (.long (Int64.ofNat uu)), .second, rv b2, rv ts5, iv (Int32.ofNat ln), .val (.long (Int64.ofNat (own_acc fd ln 2))), .second, .unset, .unset] [(.long (Int64.ofNat (own_acc fd ln 2))), (.int (3 : Int32)), (.ref ts5)])) rfl (by rw [hml]; rfl) (argsL := [(.ref ts5), (.int (3 : Int32)), (.long (Int64.ofNat (own_acc fd ln 2)))]) (rest := []) (lenOf pd_26 rfl) rfl (by show 2 * 0 + _ ≤ _; exact Nat.le_of_eq rfl) (hb hby at_146) (fun _ _ => ⟨rfl, eh11, (by decide : 9 + 0 ≤ _), (by decide : 63 + 0 ≤ _)⟩)
      dsimp only [Pt.U, Pt.locs, Pt.cells, Pt.slots] at X12 l12 y12 z12 st12 hQ12
      subst l12 y12 z12
      refine Go.pre st12 ?_
      obtain ⟨rfl, N12q, eh12⟩ := hQ12
      have N12 := Fr.app N11 N12q
      show Go p e below _ (T12.setTop (mkF m 149 #[.val (.long p0), .second, .val (.long p1), .second, iv p2, .val (.long (Int64.ofNat qn)), .second, .val (.long (Int64.ofNat uu)), .second, rv b2, rv ts5, iv (Int32.ofNat ln), .val (.long (Int64.ofNat (own_acc fd ln 2))), .second, .unset, .unset] [(.long (Int64.ofNat (if 3 < ln then own_acc fd ln 2 * 10 + fd 3 else own_acc fd ln 2)))]))
      rw [show (if 3 < ln then own_acc fd ln 2 * 10 + fd 3 else own_acc fd ln 2) = own_acc fd ln 3 from rfl]
      show Go p e below _ (T12.setTop (mkF m 149 #[.val (.long p0), .second, .val (.long p1), .second, iv p2, .val (.long (Int64.ofNat qn)), .second, .val (.long (Int64.ofNat uu)), .second, rv b2, rv ts5, iv (Int32.ofNat ln), .val (.long (Int64.ofNat (own_acc fd ln 2))), .second, .unset, .unset] [(.long (Int64.ofNat (own_acc fd ln 3)))]))
      refine Go.pre (fun _ k => XS.lstore X12.here hx rfl (hb hby at_149) rfl (l' := #[.val (.long p0), .second, .val (.long p1), .second, iv p2, .val (.long (Int64.ofNat qn)), .second, .val (.long (Int64.ofNat uu)), .second, rv b2, rv ts5, iv (Int32.ofNat ln), .val (.long (Int64.ofNat (own_acc fd ln 3))), .second, .unset, .unset]) rfl k) ?_
      show Go p e below _ (T12.setTop (mkF m 151 #[.val (.long p0), .second, .val (.long p1), .second, iv p2, .val (.long (Int64.ofNat qn)), .second, .val (.long (Int64.ofNat uu)), .second, rv b2, rv ts5, iv (Int32.ofNat ln), .val (.long (Int64.ofNat (own_acc fd ln 3))), .second, .unset, .unset] []))
      refine Go.pre (fun _ k => XS.aload X12.here hx rfl (hb hby at_151) rfl rfl k) ?_
      show Go p e below _ (T12.setTop (mkF m 153 #[.val (.long p0), .second, .val (.long p1), .second, iv p2, .val (.long (Int64.ofNat qn)), .second, .val (.long (Int64.ofNat uu)), .second, rv b2, rv ts5, iv (Int32.ofNat ln), .val (.long (Int64.ofNat (own_acc fd ln 3))), .second, .unset, .unset] [(.ref ts5)]))
      refine Go.pre (fun _ k => XS.iconst X12.here hx rfl (hb hby at_153) k) ?_
      show Go p e below _ (T12.setTop (mkF m 154 #[.val (.long p0), .second, .val (.long p1), .second, iv p2, .val (.long (Int64.ofNat qn)), .second, .val (.long (Int64.ofNat uu)), .second, rv b2, rv ts5, iv (Int32.ofNat ln), .val (.long (Int64.ofNat (own_acc fd ln 3))), .second, .unset, .unset] [(.int (4 : Int32)), (.ref ts5)]))
      refine Go.pre (fun _ k => XS.lload X12.here hx rfl (hb hby at_154) rfl k) ?_
      show Go p e below _ (T12.setTop (mkF m 156 #[.val (.long p0), .second, .val (.long p1), .second, iv p2, .val (.long (Int64.ofNat qn)), .second, .val (.long (Int64.ofNat uu)), .second, rv b2, rv ts5, iv (Int32.ofNat ln), .val (.long (Int64.ofNat (own_acc fd ln 3))), .second, .unset, .unset] [(.long (Int64.ofNat (own_acc fd ln 3))), (.int (4 : Int32)), (.ref ts5)]))
      obtain ⟨_, _, ⟨T13, L13, k13, n13⟩, -, X13, ⟨Lc13, hQ13, l13, y13, z13⟩, st13⟩ := Jvm.LawKit.callS X12 hx (y := (⟨"com/example/inferred_grant/inferredgrant/benchmark/SettingRequestUserPinLaw", "step", "(Ljava/lang/String;IJ)J"⟩ : MethodName)) hown5 (mvT hZ5 (hw _ (List.mem_of_getElem? (i := 203) rfl))) (mvT hZ5 (hw _ (List.mem_of_getElem? (i := 204) rfl))) (mvT hZ5 (hw _ (List.mem_of_getElem? (i := 205) rfl))) (mvT hZ5 (hw _ (List.mem_of_getElem? (i := 206) rfl))) (by decide) (backOf (W := 0) (rm_stp l Z a0 hw [] ts5 r5 kr5 us 4 ln fd (own_acc fd ln 3) fm cs T5.heap n0 (Nat.le_trans (Nat.le_trans (Nat.le_trans (Nat.le_trans Z0 E2.1) E3.1) K4.1) K5.1) ((((O.ext E2).ext E3).keep K4 (allS g_b2 all0)).keep K5 all0) SC hcs SF hfm (by omega) (by decide) (by decide) (Nat.lt_of_lt_of_le (own_acc_lt hfd 3) (Nat.le_of_ble_eq_true rfl)) hus ⟨uE5, uC5, uV5, uA5⟩) hZ5 (hw _ (List.mem_of_getElem? (i := 206) rfl)) (hw _ (List.mem_of_getElem? (i := 205) rfl)) (by decide) (by decide)) (g := (mkF m 156 #[.val (.long p0), .second, .val (.long p1), .second, iv p2, .val (.long (Int64.ofNat qn)), .second, .val (.long (Int64.ofNat uu)), .second, rv b2, rv ts5, iv (Int32.ofNat ln), .val (.long (Int64.ofNat (own_acc fd ln 3))), .second, .unset, .unset] [(.long (Int64.ofNat (own_acc fd ln 3))), (.int (4 : Int32)), (.ref ts5)])) rfl (by rw [hml]; rfl) (argsL := [(.ref ts5), (.int (4 : Int32)), (.long (Int64.ofNat (own_acc fd ln 3)))]) (rest := []) (lenOf pd_26 rfl) rfl (by show 2 * 0 + _ ≤ _; exact Nat.le_of_eq rfl) (hb hby at_156) (fun _ _ => ⟨rfl, eh12, (by decide : 9 + 0 ≤ _), (by decide : 63 + 0 ≤ _)⟩)
      dsimp only [Pt.U, Pt.locs, Pt.cells, Pt.slots] at X13 l13 y13 z13 st13 hQ13
      subst l13 y13 z13
      refine Go.pre st13 ?_
      obtain ⟨rfl, N13q, eh13⟩ := hQ13
      have N13 := Fr.app N12 N13q
      show Go p e below _ (T13.setTop (mkF m 159 #[.val (.long p0), .second, .val (.long p1), .second, iv p2, .val (.long (Int64.ofNat qn)), .second, .val (.long (Int64.ofNat uu)), .second, rv b2, rv ts5, iv (Int32.ofNat ln), .val (.long (Int64.ofNat (own_acc fd ln 3))), .second, .unset, .unset] [(.long (Int64.ofNat (if 4 < ln then own_acc fd ln 3 * 10 + fd 4 else own_acc fd ln 3)))]))
      rw [show (if 4 < ln then own_acc fd ln 3 * 10 + fd 4 else own_acc fd ln 3) = own_acc fd ln 4 from rfl]
      show Go p e below _ (T13.setTop (mkF m 159 #[.val (.long p0), .second, .val (.long p1), .second, iv p2, .val (.long (Int64.ofNat qn)), .second, .val (.long (Int64.ofNat uu)), .second, rv b2, rv ts5, iv (Int32.ofNat ln), .val (.long (Int64.ofNat (own_acc fd ln 3))), .second, .unset, .unset] [(.long (Int64.ofNat (own_acc fd ln 4)))]))
      refine Go.pre (fun _ k => XS.lstore X13.here hx rfl (hb hby at_159) rfl (l' := #[.val (.long p0), .second, .val (.long p1), .second, iv p2, .val (.long (Int64.ofNat qn)), .second, .val (.long (Int64.ofNat uu)), .second, rv b2, rv ts5, iv (Int32.ofNat ln), .val (.long (Int64.ofNat (own_acc fd ln 4))), .second, .unset, .unset]) rfl k) ?_
      show Go p e below _ (T13.setTop (mkF m 161 #[.val (.long p0), .second, .val (.long p1), .second, iv p2, .val (.long (Int64.ofNat qn)), .second, .val (.long (Int64.ofNat uu)), .second, rv b2, rv ts5, iv (Int32.ofNat ln), .val (.long (Int64.ofNat (own_acc fd ln 4))), .second, .unset, .unset] []))
      refine Go.pre (fun _ k => XS.aload X13.here hx rfl (hb hby at_161) rfl rfl k) ?_
      show Go p e below _ (T13.setTop (mkF m 163 #[.val (.long p0), .second, .val (.long p1), .second, iv p2, .val (.long (Int64.ofNat qn)), .second, .val (.long (Int64.ofNat uu)), .second, rv b2, rv ts5, iv (Int32.ofNat ln), .val (.long (Int64.ofNat (own_acc fd ln 4))), .second, .unset, .unset] [(.ref ts5)]))
      refine Go.pre (fun _ k => XS.iconst X13.here hx rfl (hb hby at_163) k) ?_
      show Go p e below _ (T13.setTop (mkF m 164 #[.val (.long p0), .second, .val (.long p1), .second, iv p2, .val (.long (Int64.ofNat qn)), .second, .val (.long (Int64.ofNat uu)), .second, rv b2, rv ts5, iv (Int32.ofNat ln), .val (.long (Int64.ofNat (own_acc fd ln 4))), .second, .unset, .unset] [(.int (5 : Int32)), (.ref ts5)]))
      refine Go.pre (fun _ k => XS.lload X13.here hx rfl (hb hby at_164) rfl k) ?_
      show Go p e below _ (T13.setTop (mkF m 166 #[.val (.long p0), .second, .val (.long p1), .second, iv p2, .val (.long (Int64.ofNat qn)), .second, .val (.long (Int64.ofNat uu)), .second, rv b2, rv ts5, iv (Int32.ofNat ln), .val (.long (Int64.ofNat (own_acc fd ln 4))), .second, .unset, .unset] [(.long (Int64.ofNat (own_acc fd ln 4))), (.int (5 : Int32)), (.ref ts5)]))
      obtain ⟨_, _, ⟨T14, L14, k14, n14⟩, -, X14, ⟨Lc14, hQ14, l14, y14, z14⟩, st14⟩ := Jvm.LawKit.callS X13 hx (y := (⟨"com/example/inferred_grant/inferredgrant/benchmark/SettingRequestUserPinLaw", "step", "(Ljava/lang/String;IJ)J"⟩ : MethodName)) hown5 (mvT hZ5 (hw _ (List.mem_of_getElem? (i := 203) rfl))) (mvT hZ5 (hw _ (List.mem_of_getElem? (i := 204) rfl))) (mvT hZ5 (hw _ (List.mem_of_getElem? (i := 205) rfl))) (mvT hZ5 (hw _ (List.mem_of_getElem? (i := 206) rfl))) (by decide) (backOf (W := 0) (rm_stp l Z a0 hw [] ts5 r5 kr5 us 5 ln fd (own_acc fd ln 4) fm cs T5.heap n0 (Nat.le_trans (Nat.le_trans (Nat.le_trans (Nat.le_trans Z0 E2.1) E3.1) K4.1) K5.1) ((((O.ext E2).ext E3).keep K4 (allS g_b2 all0)).keep K5 all0) SC hcs SF hfm (by omega) (by decide) (by decide) (Nat.lt_of_lt_of_le (own_acc_lt hfd 4) (Nat.le_of_ble_eq_true rfl)) hus ⟨uE5, uC5, uV5, uA5⟩) hZ5 (hw _ (List.mem_of_getElem? (i := 206) rfl)) (hw _ (List.mem_of_getElem? (i := 205) rfl)) (by decide) (by decide)) (g := (mkF m 166 #[.val (.long p0), .second, .val (.long p1), .second, iv p2, .val (.long (Int64.ofNat qn)), .second, .val (.long (Int64.ofNat uu)), .second, rv b2, rv ts5, iv (Int32.ofNat ln), .val (.long (Int64.ofNat (own_acc fd ln 4))), .second, .unset, .unset] [(.long (Int64.ofNat (own_acc fd ln 4))), (.int (5 : Int32)), (.ref ts5)])) rfl (by rw [hml]; rfl) (argsL := [(.ref ts5), (.int (5 : Int32)), (.long (Int64.ofNat (own_acc fd ln 4)))]) (rest := []) (lenOf pd_26 rfl) rfl (by show 2 * 0 + _ ≤ _; exact Nat.le_of_eq rfl) (hb hby at_166) (fun _ _ => ⟨rfl, eh13, (by decide : 9 + 0 ≤ _), (by decide : 63 + 0 ≤ _)⟩)
      dsimp only [Pt.U, Pt.locs, Pt.cells, Pt.slots] at X14 l14 y14 z14 st14 hQ14
      subst l14 y14 z14
      refine Go.pre st14 ?_
      obtain ⟨rfl, N14q, eh14⟩ := hQ14
      have N14 := Fr.app N13 N14q
      show Go p e below _ (T14.setTop (mkF m 169 #[.val (.long p0), .second, .val (.long p1), .second, iv p2, .val (.long (Int64.ofNat qn)), .second, .val (.long (Int64.ofNat uu)), .second, rv b2, rv ts5, iv (Int32.ofNat ln), .val (.long (Int64.ofNat (own_acc fd ln 4))), .second, .unset, .unset] [(.long (Int64.ofNat (if 5 < ln then own_acc fd ln 4 * 10 + fd 5 else own_acc fd ln 4)))]))
      rw [show (if 5 < ln then own_acc fd ln 4 * 10 + fd 5 else own_acc fd ln 4) = own_acc fd ln 5 from rfl]
      show Go p e below _ (T14.setTop (mkF m 169 #[.val (.long p0), .second, .val (.long p1), .second, iv p2, .val (.long (Int64.ofNat qn)), .second, .val (.long (Int64.ofNat uu)), .second, rv b2, rv ts5, iv (Int32.ofNat ln), .val (.long (Int64.ofNat (own_acc fd ln 4))), .second, .unset, .unset] [(.long (Int64.ofNat (own_acc fd ln 5)))]))
      refine Go.pre (fun _ k => XS.lstore X14.here hx rfl (hb hby at_169) rfl (l' := #[.val (.long p0), .second, .val (.long p1), .second, iv p2, .val (.long (Int64.ofNat qn)), .second, .val (.long (Int64.ofNat uu)), .second, rv b2, rv ts5, iv (Int32.ofNat ln), .val (.long (Int64.ofNat (own_acc fd ln 5))), .second, .unset, .unset]) rfl k) ?_
      show Go p e below _ (T14.setTop (mkF m 171 #[.val (.long p0), .second, .val (.long p1), .second, iv p2, .val (.long (Int64.ofNat qn)), .second, .val (.long (Int64.ofNat uu)), .second, rv b2, rv ts5, iv (Int32.ofNat ln), .val (.long (Int64.ofNat (own_acc fd ln 5))), .second, .unset, .unset] []))
      refine Go.pre (fun _ k => XS.aload X14.here hx rfl (hb hby at_171) rfl rfl k) ?_
      show Go p e below _ (T14.setTop (mkF m 173 #[.val (.long p0), .second, .val (.long p1), .second, iv p2, .val (.long (Int64.ofNat qn)), .second, .val (.long (Int64.ofNat uu)), .second, rv b2, rv ts5, iv (Int32.ofNat ln), .val (.long (Int64.ofNat (own_acc fd ln 5))), .second, .unset, .unset] [(.ref ts5)]))
      refine Go.pre (fun _ k => XS.bipush X14.here hx rfl (hb hby at_173) k) ?_
      show Go p e below _ (T14.setTop (mkF m 175 #[.val (.long p0), .second, .val (.long p1), .second, iv p2, .val (.long (Int64.ofNat qn)), .second, .val (.long (Int64.ofNat uu)), .second, rv b2, rv ts5, iv (Int32.ofNat ln), .val (.long (Int64.ofNat (own_acc fd ln 5))), .second, .unset, .unset] [(.int (6 : Int32)), (.ref ts5)]))
      refine Go.pre (fun _ k => XS.lload X14.here hx rfl (hb hby at_175) rfl k) ?_
      show Go p e below _ (T14.setTop (mkF m 177 #[.val (.long p0), .second, .val (.long p1), .second, iv p2, .val (.long (Int64.ofNat qn)), .second, .val (.long (Int64.ofNat uu)), .second, rv b2, rv ts5, iv (Int32.ofNat ln), .val (.long (Int64.ofNat (own_acc fd ln 5))), .second, .unset, .unset] [(.long (Int64.ofNat (own_acc fd ln 5))), (.int (6 : Int32)), (.ref ts5)]))
      obtain ⟨_, _, ⟨T15, L15, k15, n15⟩, -, X15, ⟨Lc15, hQ15, l15, y15, z15⟩, st15⟩ := Jvm.LawKit.callS X14 hx (y := (⟨"com/example/inferred_grant/inferredgrant/benchmark/SettingRequestUserPinLaw", "step", "(Ljava/lang/String;IJ)J"⟩ : MethodName)) hown5 (mvT hZ5 (hw _ (List.mem_of_getElem? (i := 203) rfl))) (mvT hZ5 (hw _ (List.mem_of_getElem? (i := 204) rfl))) (mvT hZ5 (hw _ (List.mem_of_getElem? (i := 205) rfl))) (mvT hZ5 (hw _ (List.mem_of_getElem? (i := 206) rfl))) (by decide) (backOf (W := 0) (rm_stp l Z a0 hw [] ts5 r5 kr5 us 6 ln fd (own_acc fd ln 5) fm cs T5.heap n0 (Nat.le_trans (Nat.le_trans (Nat.le_trans (Nat.le_trans Z0 E2.1) E3.1) K4.1) K5.1) ((((O.ext E2).ext E3).keep K4 (allS g_b2 all0)).keep K5 all0) SC hcs SF hfm (by omega) (by decide) (by decide) (Nat.lt_of_lt_of_le (own_acc_lt hfd 5) (Nat.le_of_ble_eq_true rfl)) hus ⟨uE5, uC5, uV5, uA5⟩) hZ5 (hw _ (List.mem_of_getElem? (i := 206) rfl)) (hw _ (List.mem_of_getElem? (i := 205) rfl)) (by decide) (by decide)) (g := (mkF m 177 #[.val (.long p0), .second, .val (.long p1), .second, iv p2, .val (.long (Int64.ofNat qn)), .second, .val (.long (Int64.ofNat uu)), .second, rv b2, rv ts5, iv (Int32.ofNat ln), .val (.long (Int64.ofNat (own_acc fd ln 5))), .second, .unset, .unset] [(.long (Int64.ofNat (own_acc fd ln 5))), (.int (6 : Int32)), (.ref ts5)])) rfl (by rw [hml]; rfl) (argsL := [(.ref ts5), (.int (6 : Int32)), (.long (Int64.ofNat (own_acc fd ln 5)))]) (rest := []) (lenOf pd_26 rfl) rfl (by show 2 * 0 + _ ≤ _; exact Nat.le_of_eq rfl) (hb hby at_177) (fun _ _ => ⟨rfl, eh14, (by decide : 9 + 0 ≤ _), (by decide : 63 + 0 ≤ _)⟩)
      dsimp only [Pt.U, Pt.locs, Pt.cells, Pt.slots] at X15 l15 y15 z15 st15 hQ15
      subst l15 y15 z15
      refine Go.pre st15 ?_
      obtain ⟨rfl, N15q, eh15⟩ := hQ15
      have N15 := Fr.app N14 N15q
      show Go p e below _ (T15.setTop (mkF m 180 #[.val (.long p0), .second, .val (.long p1), .second, iv p2, .val (.long (Int64.ofNat qn)), .second, .val (.long (Int64.ofNat uu)), .second, rv b2, rv ts5, iv (Int32.ofNat ln), .val (.long (Int64.ofNat (own_acc fd ln 5))), .second, .unset, .unset] [(.long (Int64.ofNat (if 6 < ln then own_acc fd ln 5 * 10 + fd 6 else own_acc fd ln 5)))]))
      rw [show (if 6 < ln then own_acc fd ln 5 * 10 + fd 6 else own_acc fd ln 5) = own_acc fd ln 6 from rfl]
      show Go p e below _ (T15.setTop (mkF m 180 #[.val (.long p0), .second, .val (.long p1), .second, iv p2, .val (.long (Int64.ofNat qn)), .second, .val (.long (Int64.ofNat uu)), .second, rv b2, rv ts5, iv (Int32.ofNat ln), .val (.long (Int64.ofNat (own_acc fd ln 5))), .second, .unset, .unset] [(.long (Int64.ofNat (own_acc fd ln 6)))]))
      refine Go.pre (fun _ k => XS.lstore X15.here hx rfl (hb hby at_180) rfl (l' := #[.val (.long p0), .second, .val (.long p1), .second, iv p2, .val (.long (Int64.ofNat qn)), .second, .val (.long (Int64.ofNat uu)), .second, rv b2, rv ts5, iv (Int32.ofNat ln), .val (.long (Int64.ofNat (own_acc fd ln 6))), .second, .unset, .unset]) rfl k) ?_
      show Go p e below _ (T15.setTop (mkF m 182 #[.val (.long p0), .second, .val (.long p1), .second, iv p2, .val (.long (Int64.ofNat qn)), .second, .val (.long (Int64.ofNat uu)), .second, rv b2, rv ts5, iv (Int32.ofNat ln), .val (.long (Int64.ofNat (own_acc fd ln 6))), .second, .unset, .unset] []))
      refine Go.pre (fun _ k => XS.aload X15.here hx rfl (hb hby at_182) rfl rfl k) ?_
      show Go p e below _ (T15.setTop (mkF m 184 #[.val (.long p0), .second, .val (.long p1), .second, iv p2, .val (.long (Int64.ofNat qn)), .second, .val (.long (Int64.ofNat uu)), .second, rv b2, rv ts5, iv (Int32.ofNat ln), .val (.long (Int64.ofNat (own_acc fd ln 6))), .second, .unset, .unset] [(.ref ts5)]))
      refine Go.pre (fun _ k => XS.bipush X15.here hx rfl (hb hby at_184) k) ?_
      show Go p e below _ (T15.setTop (mkF m 186 #[.val (.long p0), .second, .val (.long p1), .second, iv p2, .val (.long (Int64.ofNat qn)), .second, .val (.long (Int64.ofNat uu)), .second, rv b2, rv ts5, iv (Int32.ofNat ln), .val (.long (Int64.ofNat (own_acc fd ln 6))), .second, .unset, .unset] [(.int (7 : Int32)), (.ref ts5)]))
      refine Go.pre (fun _ k => XS.lload X15.here hx rfl (hb hby at_186) rfl k) ?_
      show Go p e below _ (T15.setTop (mkF m 188 #[.val (.long p0), .second, .val (.long p1), .second, iv p2, .val (.long (Int64.ofNat qn)), .second, .val (.long (Int64.ofNat uu)), .second, rv b2, rv ts5, iv (Int32.ofNat ln), .val (.long (Int64.ofNat (own_acc fd ln 6))), .second, .unset, .unset] [(.long (Int64.ofNat (own_acc fd ln 6))), (.int (7 : Int32)), (.ref ts5)]))
      obtain ⟨_, _, ⟨T16, L16, k16, n16⟩, -, X16, ⟨Lc16, hQ16, l16, y16, z16⟩, st16⟩ := Jvm.LawKit.callS X15 hx (y := (⟨"com/example/inferred_grant/inferredgrant/benchmark/SettingRequestUserPinLaw", "step", "(Ljava/lang/String;IJ)J"⟩ : MethodName)) hown5 (mvT hZ5 (hw _ (List.mem_of_getElem? (i := 203) rfl))) (mvT hZ5 (hw _ (List.mem_of_getElem? (i := 204) rfl))) (mvT hZ5 (hw _ (List.mem_of_getElem? (i := 205) rfl))) (mvT hZ5 (hw _ (List.mem_of_getElem? (i := 206) rfl))) (by decide) (backOf (W := 0) (rm_stp l Z a0 hw [] ts5 r5 kr5 us 7 ln fd (own_acc fd ln 6) fm cs T5.heap n0 (Nat.le_trans (Nat.le_trans (Nat.le_trans (Nat.le_trans Z0 E2.1) E3.1) K4.1) K5.1) ((((O.ext E2).ext E3).keep K4 (allS g_b2 all0)).keep K5 all0) SC hcs SF hfm (by omega) (by decide) (by decide) (Nat.lt_of_lt_of_le (own_acc_lt hfd 6) (Nat.le_of_ble_eq_true rfl)) hus ⟨uE5, uC5, uV5, uA5⟩) hZ5 (hw _ (List.mem_of_getElem? (i := 206) rfl)) (hw _ (List.mem_of_getElem? (i := 205) rfl)) (by decide) (by decide)) (g := (mkF m 188 #[.val (.long p0), .second, .val (.long p1), .second, iv p2, .val (.long (Int64.ofNat qn)), .second, .val (.long (Int64.ofNat uu)), .second, rv b2, rv ts5, iv (Int32.ofNat ln), .val (.long (Int64.ofNat (own_acc fd ln 6))), .second, .unset, .unset] [(.long (Int64.ofNat (own_acc fd ln 6))), (.int (7 : Int32)), (.ref ts5)])) rfl (by rw [hml]; rfl) (argsL := [(.ref ts5), (.int (7 : Int32)), (.long (Int64.ofNat (own_acc fd ln 6)))]) (rest := []) (lenOf pd_26 rfl) rfl (by show 2 * 0 + _ ≤ _; exact Nat.le_of_eq rfl) (hb hby at_188) (fun _ _ => ⟨rfl, eh15, (by decide : 9 + 0 ≤ _), (by decide : 63 + 0 ≤ _)⟩)
      dsimp only [Pt.U, Pt.locs, Pt.cells, Pt.slots] at X16 l16 y16 z16 st16 hQ16
      subst l16 y16 z16
      refine Go.pre st16 ?_
      obtain ⟨rfl, N16q, eh16⟩ := hQ16
      have N16 := Fr.app N15 N16q
      show Go p e below _ (T16.setTop (mkF m 191 #[.val (.long p0), .second, .val (.long p1), .second, iv p2, .val (.long (Int64.ofNat qn)), .second, .val (.long (Int64.ofNat uu)), .second, rv b2, rv ts5, iv (Int32.ofNat ln), .val (.long (Int64.ofNat (own_acc fd ln 6))), .second, .unset, .unset] [(.long (Int64.ofNat (if 7 < ln then own_acc fd ln 6 * 10 + fd 7 else own_acc fd ln 6)))]))
      rw [show (if 7 < ln then own_acc fd ln 6 * 10 + fd 7 else own_acc fd ln 6) = own_acc fd ln 7 from rfl]
      show Go p e below _ (T16.setTop (mkF m 191 #[.val (.long p0), .second, .val (.long p1), .second, iv p2, .val (.long (Int64.ofNat qn)), .second, .val (.long (Int64.ofNat uu)), .second, rv b2, rv ts5, iv (Int32.ofNat ln), .val (.long (Int64.ofNat (own_acc fd ln 6))), .second, .unset, .unset] [(.long (Int64.ofNat (own_acc fd ln 7)))]))
      refine Go.pre (fun _ k => XS.lstore X16.here hx rfl (hb hby at_191) rfl (l' := #[.val (.long p0), .second, .val (.long p1), .second, iv p2, .val (.long (Int64.ofNat qn)), .second, .val (.long (Int64.ofNat uu)), .second, rv b2, rv ts5, iv (Int32.ofNat ln), .val (.long (Int64.ofNat (own_acc fd ln 7))), .second, .unset, .unset]) rfl k) ?_
      show Go p e below _ (T16.setTop (mkF m 193 #[.val (.long p0), .second, .val (.long p1), .second, iv p2, .val (.long (Int64.ofNat qn)), .second, .val (.long (Int64.ofNat uu)), .second, rv b2, rv ts5, iv (Int32.ofNat ln), .val (.long (Int64.ofNat (own_acc fd ln 7))), .second, .unset, .unset] []))
      refine Go.pre (fun _ k => XS.aload X16.here hx rfl (hb hby at_193) rfl rfl k) ?_
      show Go p e below _ (T16.setTop (mkF m 195 #[.val (.long p0), .second, .val (.long p1), .second, iv p2, .val (.long (Int64.ofNat qn)), .second, .val (.long (Int64.ofNat uu)), .second, rv b2, rv ts5, iv (Int32.ofNat ln), .val (.long (Int64.ofNat (own_acc fd ln 7))), .second, .unset, .unset] [(.ref ts5)]))
      refine Go.pre (fun _ k => XS.bipush X16.here hx rfl (hb hby at_195) k) ?_
      show Go p e below _ (T16.setTop (mkF m 197 #[.val (.long p0), .second, .val (.long p1), .second, iv p2, .val (.long (Int64.ofNat qn)), .second, .val (.long (Int64.ofNat uu)), .second, rv b2, rv ts5, iv (Int32.ofNat ln), .val (.long (Int64.ofNat (own_acc fd ln 7))), .second, .unset, .unset] [(.int (8 : Int32)), (.ref ts5)]))
      refine Go.pre (fun _ k => XS.lload X16.here hx rfl (hb hby at_197) rfl k) ?_
      show Go p e below _ (T16.setTop (mkF m 199 #[.val (.long p0), .second, .val (.long p1), .second, iv p2, .val (.long (Int64.ofNat qn)), .second, .val (.long (Int64.ofNat uu)), .second, rv b2, rv ts5, iv (Int32.ofNat ln), .val (.long (Int64.ofNat (own_acc fd ln 7))), .second, .unset, .unset] [(.long (Int64.ofNat (own_acc fd ln 7))), (.int (8 : Int32)), (.ref ts5)]))
      obtain ⟨_, _, ⟨T17, L17, k17, n17⟩, -, X17, ⟨Lc17, hQ17, l17, y17, z17⟩, st17⟩ := Jvm.LawKit.callS X16 hx (y := (⟨"com/example/inferred_grant/inferredgrant/benchmark/SettingRequestUserPinLaw", "step", "(Ljava/lang/String;IJ)J"⟩ : MethodName)) hown5 (mvT hZ5 (hw _ (List.mem_of_getElem? (i := 203) rfl))) (mvT hZ5 (hw _ (List.mem_of_getElem? (i := 204) rfl))) (mvT hZ5 (hw _ (List.mem_of_getElem? (i := 205) rfl))) (mvT hZ5 (hw _ (List.mem_of_getElem? (i := 206) rfl))) (by decide) (backOf (W := 0) (rm_stp l Z a0 hw [] ts5 r5 kr5 us 8 ln fd (own_acc fd ln 7) fm cs T5.heap n0 (Nat.le_trans (Nat.le_trans (Nat.le_trans (Nat.le_trans Z0 E2.1) E3.1) K4.1) K5.1) ((((O.ext E2).ext E3).keep K4 (allS g_b2 all0)).keep K5 all0) SC hcs SF hfm (by omega) (by decide) (by decide) (Nat.lt_of_lt_of_le (own_acc_lt hfd 7) (Nat.le_of_ble_eq_true rfl)) hus ⟨uE5, uC5, uV5, uA5⟩) hZ5 (hw _ (List.mem_of_getElem? (i := 206) rfl)) (hw _ (List.mem_of_getElem? (i := 205) rfl)) (by decide) (by decide)) (g := (mkF m 199 #[.val (.long p0), .second, .val (.long p1), .second, iv p2, .val (.long (Int64.ofNat qn)), .second, .val (.long (Int64.ofNat uu)), .second, rv b2, rv ts5, iv (Int32.ofNat ln), .val (.long (Int64.ofNat (own_acc fd ln 7))), .second, .unset, .unset] [(.long (Int64.ofNat (own_acc fd ln 7))), (.int (8 : Int32)), (.ref ts5)])) rfl (by rw [hml]; rfl) (argsL := [(.ref ts5), (.int (8 : Int32)), (.long (Int64.ofNat (own_acc fd ln 7)))]) (rest := []) (lenOf pd_26 rfl) rfl (by show 2 * 0 + _ ≤ _; exact Nat.le_of_eq rfl) (hb hby at_199) (fun _ _ => ⟨rfl, eh16, (by decide : 9 + 0 ≤ _), (by decide : 63 + 0 ≤ _)⟩)
      dsimp only [Pt.U, Pt.locs, Pt.cells, Pt.slots] at X17 l17 y17 z17 st17 hQ17
      subst l17 y17 z17
      refine Go.pre st17 ?_
      obtain ⟨rfl, N17q, eh17⟩ := hQ17
      have N17 := Fr.app N16 N17q
      show Go p e below _ (T17.setTop (mkF m 202 #[.val (.long p0), .second, .val (.long p1), .second, iv p2, .val (.long (Int64.ofNat qn)), .second, .val (.long (Int64.ofNat uu)), .second, rv b2, rv ts5, iv (Int32.ofNat ln), .val (.long (Int64.ofNat (own_acc fd ln 7))), .second, .unset, .unset] [(.long (Int64.ofNat (if 8 < ln then own_acc fd ln 7 * 10 + fd 8 else own_acc fd ln 7)))]))
      rw [show (if 8 < ln then own_acc fd ln 7 * 10 + fd 8 else own_acc fd ln 7) = own_acc fd ln 8 from rfl]
      show Go p e below _ (T17.setTop (mkF m 202 #[.val (.long p0), .second, .val (.long p1), .second, iv p2, .val (.long (Int64.ofNat qn)), .second, .val (.long (Int64.ofNat uu)), .second, rv b2, rv ts5, iv (Int32.ofNat ln), .val (.long (Int64.ofNat (own_acc fd ln 7))), .second, .unset, .unset] [(.long (Int64.ofNat (own_acc fd ln 8)))]))
      refine Go.pre (fun _ k => XS.lstore X17.here hx rfl (hb hby at_202) rfl (l' := #[.val (.long p0), .second, .val (.long p1), .second, iv p2, .val (.long (Int64.ofNat qn)), .second, .val (.long (Int64.ofNat uu)), .second, rv b2, rv ts5, iv (Int32.ofNat ln), .val (.long (Int64.ofNat (own_acc fd ln 8))), .second, .unset, .unset]) rfl k) ?_
      show Go p e below _ (T17.setTop (mkF m 204 #[.val (.long p0), .second, .val (.long p1), .second, iv p2, .val (.long (Int64.ofNat qn)), .second, .val (.long (Int64.ofNat uu)), .second, rv b2, rv ts5, iv (Int32.ofNat ln), .val (.long (Int64.ofNat (own_acc fd ln 8))), .second, .unset, .unset] []))
      rw [hacc]
      show Go p e below _ (T17.setTop (mkF m 204 #[.val (.long p0), .second, .val (.long p1), .second, iv p2, .val (.long (Int64.ofNat qn)), .second, .val (.long (Int64.ofNat uu)), .second, rv b2, rv ts5, iv (Int32.ofNat ln), .val (.long (Int64.ofNat nu)), .second, .unset, .unset] []))
      refine Go.pre (fun _ k => XS.lload X17.here hx rfl (hb hby at_204) rfl k) ?_
      show Go p e below _ (T17.setTop (mkF m 206 #[.val (.long p0), .second, .val (.long p1), .second, iv p2, .val (.long (Int64.ofNat qn)), .second, .val (.long (Int64.ofNat uu)), .second, rv b2, rv ts5, iv (Int32.ofNat ln), .val (.long (Int64.ofNat nu)), .second, .unset, .unset] [(.long (Int64.ofNat nu))]))
      refine Go.pre (fun _ k => XS.lconst X17.here hx rfl (hb hby at_206) k) ?_
      show Go p e below _ (T17.setTop (mkF m 207 #[.val (.long p0), .second, .val (.long p1), .second, iv p2, .val (.long (Int64.ofNat qn)), .second, .val (.long (Int64.ofNat uu)), .second, rv b2, rv ts5, iv (Int32.ofNat ln), .val (.long (Int64.ofNat nu)), .second, .unset, .unset] [(.long (0 : Int64)), (.long (Int64.ofNat nu))]))
      refine Go.pre (fun _ k => XS.lcmp X17.here hx rfl (hb hby at_207) rfl k) ?_
      show Go p e below _ (T17.setTop (mkF m 208 #[.val (.long p0), .second, .val (.long p1), .second, iv p2, .val (.long (Int64.ofNat qn)), .second, .val (.long (Int64.ofNat uu)), .second, rv b2, rv ts5, iv (Int32.ofNat ln), .val (.long (Int64.ofNat nu)), .second, .unset, .unset] [(.int (lcmpW (Int64.ofNat nu) (0 : Int64)))]))
      refine Go.pre (fun _ k => XS.ifYes X17.here hx rfl (pc0 := 208) (pc' := 213) rfl (hb hby at_208) rfl ((if0 _ _).trans (flt (own_ltF (own_nlneg (by omega)))).2.1) (by decide) (by decide) k) ?_
      show Go p e below _ (T17.setTop (mkF m 213 #[.val (.long p0), .second, .val (.long p1), .second, iv p2, .val (.long (Int64.ofNat qn)), .second, .val (.long (Int64.ofNat uu)), .second, rv b2, rv ts5, iv (Int32.ofNat ln), .val (.long (Int64.ofNat nu)), .second, .unset, .unset] []))
      refine Go.pre (X17.ldc2Long hx hown5 (mvT hZ5 (hw _ (List.mem_of_getElem? (i := 208) rfl))) (g := (mkF m 213 #[.val (.long p0), .second, .val (.long p1), .second, iv p2, .val (.long (Int64.ofNat qn)), .second, .val (.long (Int64.ofNat uu)), .second, rv b2, rv ts5, iv (Int32.ofNat ln), .val (.long (Int64.ofNat nu)), .second, .unset, .unset] [])) rfl (hb hby at_213)) ?_
      show Go p e below _ (T17.setTop (mkF m 216 #[.val (.long p0), .second, .val (.long p1), .second, iv p2, .val (.long (Int64.ofNat qn)), .second, .val (.long (Int64.ofNat uu)), .second, rv b2, rv ts5, iv (Int32.ofNat ln), .val (.long (Int64.ofNat nu)), .second, .unset, .unset] [(.long (7919 : Int64))]))
      refine Go.pre (fun _ k => XS.lload X17.here hx rfl (hb hby at_216) rfl k) ?_
      show Go p e below _ (T17.setTop (mkF m 218 #[.val (.long p0), .second, .val (.long p1), .second, iv p2, .val (.long (Int64.ofNat qn)), .second, .val (.long (Int64.ofNat uu)), .second, rv b2, rv ts5, iv (Int32.ofNat ln), .val (.long (Int64.ofNat nu)), .second, .unset, .unset] [(.long (Int64.ofNat qn)), (.long (7919 : Int64))]))
      refine Go.pre (fun _ k => XS.lmul X17.here hx rfl (hb hby at_218) rfl k) ?_
      show Go p e below _ (T17.setTop (mkF m 219 #[.val (.long p0), .second, .val (.long p1), .second, iv p2, .val (.long (Int64.ofNat qn)), .second, .val (.long (Int64.ofNat uu)), .second, rv b2, rv ts5, iv (Int32.ofNat ln), .val (.long (Int64.ofNat nu)), .second, .unset, .unset] [(.long ((Int64.ofNat 7919) * (Int64.ofNat qn)))]))
      rw [own_lmul]
      show Go p e below _ (T17.setTop (mkF m 219 #[.val (.long p0), .second, .val (.long p1), .second, iv p2, .val (.long (Int64.ofNat qn)), .second, .val (.long (Int64.ofNat uu)), .second, rv b2, rv ts5, iv (Int32.ofNat ln), .val (.long (Int64.ofNat nu)), .second, .unset, .unset] [(.long (Int64.ofNat (7919 * qn)))]))
      refine Go.pre (fun _ k => XS.lstore X17.here hx rfl (hb hby at_219) rfl (l' := #[.val (.long p0), .second, .val (.long p1), .second, iv p2, .val (.long (Int64.ofNat qn)), .second, .val (.long (Int64.ofNat uu)), .second, rv b2, rv ts5, iv (Int32.ofNat ln), .val (.long (Int64.ofNat nu)), .second, .val (.long (Int64.ofNat (7919 * qn))), .second]) rfl k) ?_
      show Go p e below _ (T17.setTop (mkF m 221 #[.val (.long p0), .second, .val (.long p1), .second, iv p2, .val (.long (Int64.ofNat qn)), .second, .val (.long (Int64.ofNat uu)), .second, rv b2, rv ts5, iv (Int32.ofNat ln), .val (.long (Int64.ofNat nu)), .second, .val (.long (Int64.ofNat (7919 * qn))), .second] []))
      refine Go.pre (fun _ k => XS.lload X17.here hx rfl (hb hby at_221) rfl k) ?_
      show Go p e below _ (T17.setTop (mkF m 223 #[.val (.long p0), .second, .val (.long p1), .second, iv p2, .val (.long (Int64.ofNat qn)), .second, .val (.long (Int64.ofNat uu)), .second, rv b2, rv ts5, iv (Int32.ofNat ln), .val (.long (Int64.ofNat nu)), .second, .val (.long (Int64.ofNat (7919 * qn))), .second] [(.long (Int64.ofNat nu))]))
      refine Go.pre (fun _ k => XS.lload X17.here hx rfl (hb hby at_223) rfl k) ?_
      show Go p e below _ (T17.setTop (mkF m 225 #[.val (.long p0), .second, .val (.long p1), .second, iv p2, .val (.long (Int64.ofNat qn)), .second, .val (.long (Int64.ofNat uu)), .second, rv b2, rv ts5, iv (Int32.ofNat ln), .val (.long (Int64.ofNat nu)), .second, .val (.long (Int64.ofNat (7919 * qn))), .second] [(.long (Int64.ofNat uu)), (.long (Int64.ofNat nu))]))
      refine Go.pre (fun _ k => XS.lcmp X17.here hx rfl (hb hby at_225) rfl k) ?_
      show Go p e below _ (T17.setTop (mkF m 226 #[.val (.long p0), .second, .val (.long p1), .second, iv p2, .val (.long (Int64.ofNat qn)), .second, .val (.long (Int64.ofNat uu)), .second, rv b2, rv ts5, iv (Int32.ofNat ln), .val (.long (Int64.ofNat nu)), .second, .val (.long (Int64.ofNat (7919 * qn))), .second] [(.int (lcmpW (Int64.ofNat nu) (Int64.ofNat uu)))]))
      refine Go.pre (fun _ k => XS.ifNo X17.here hx rfl (hb hby at_226) rfl ((if0 _ _).trans (tlt (own_ltT ((own_ll (by omega) (by omega)).mpr hlt))).2.1) k) ?_
      show Go p e below _ (T17.setTop (mkF m 229 #[.val (.long p0), .second, .val (.long p1), .second, iv p2, .val (.long (Int64.ofNat qn)), .second, .val (.long (Int64.ofNat uu)), .second, rv b2, rv ts5, iv (Int32.ofNat ln), .val (.long (Int64.ofNat nu)), .second, .val (.long (Int64.ofNat (7919 * qn))), .second] []))
      refine Go.pre (fun _ k => XS.lload X17.here hx rfl (hb hby at_229) rfl k) ?_
      show Go p e below _ (T17.setTop (mkF m 231 #[.val (.long p0), .second, .val (.long p1), .second, iv p2, .val (.long (Int64.ofNat qn)), .second, .val (.long (Int64.ofNat uu)), .second, rv b2, rv ts5, iv (Int32.ofNat ln), .val (.long (Int64.ofNat nu)), .second, .val (.long (Int64.ofNat (7919 * qn))), .second] [(.long (Int64.ofNat (7919 * qn)))]))
      refine Go.pre (fun _ k => XS.lload X17.here hx rfl (hb hby at_231) rfl k) ?_
      show Go p e below _ (T17.setTop (mkF m 233 #[.val (.long p0), .second, .val (.long p1), .second, iv p2, .val (.long (Int64.ofNat qn)), .second, .val (.long (Int64.ofNat uu)), .second, rv b2, rv ts5, iv (Int32.ofNat ln), .val (.long (Int64.ofNat nu)), .second, .val (.long (Int64.ofNat (7919 * qn))), .second] [(.long (Int64.ofNat nu)), (.long (Int64.ofNat (7919 * qn)))]))
      refine Go.pre (fun _ k => XS.lsub X17.here hx rfl (hb hby at_233) rfl k) ?_
      show Go p e below _ (T17.setTop (mkF m 234 #[.val (.long p0), .second, .val (.long p1), .second, iv p2, .val (.long (Int64.ofNat qn)), .second, .val (.long (Int64.ofNat uu)), .second, rv b2, rv ts5, iv (Int32.ofNat ln), .val (.long (Int64.ofNat nu)), .second, .val (.long (Int64.ofNat (7919 * qn))), .second] [(.long ((Int64.ofNat (7919 * qn)) - (Int64.ofNat nu)))]))
      rw [own_lsub hle]
      show Go p e below _ (T17.setTop (mkF m 234 #[.val (.long p0), .second, .val (.long p1), .second, iv p2, .val (.long (Int64.ofNat qn)), .second, .val (.long (Int64.ofNat uu)), .second, rv b2, rv ts5, iv (Int32.ofNat ln), .val (.long (Int64.ofNat nu)), .second, .val (.long (Int64.ofNat (7919 * qn))), .second] [(.long (Int64.ofNat (7919 * qn - nu)))]))
      refine Go.pre (fun _ k => XS.lload X17.here hx rfl (hb hby at_234) rfl k) ?_
      show Go p e below _ (T17.setTop (mkF m 236 #[.val (.long p0), .second, .val (.long p1), .second, iv p2, .val (.long (Int64.ofNat qn)), .second, .val (.long (Int64.ofNat uu)), .second, rv b2, rv ts5, iv (Int32.ofNat ln), .val (.long (Int64.ofNat nu)), .second, .val (.long (Int64.ofNat (7919 * qn))), .second] [(.long (Int64.ofNat uu)), (.long (Int64.ofNat (7919 * qn - nu)))]))
      refine Go.pre (fun _ k => XS.lrem X17.here hx rfl (hb hby at_236) rfl (own_lnz hu0 hu1) k) ?_
      show Go p e below _ (T17.setTop (mkF m 237 #[.val (.long p0), .second, .val (.long p1), .second, iv p2, .val (.long (Int64.ofNat qn)), .second, .val (.long (Int64.ofNat uu)), .second, rv b2, rv ts5, iv (Int32.ofNat ln), .val (.long (Int64.ofNat nu)), .second, .val (.long (Int64.ofNat (7919 * qn))), .second] [(.long ((Int64.ofNat (7919 * qn - nu)) - (Int64.ofNat (7919 * qn - nu)) / (Int64.ofNat uu) * (Int64.ofNat uu)))]))
      rw [own_lrem (by omega) hu1, hz0]
      show Go p e below _ (T17.setTop (mkF m 237 #[.val (.long p0), .second, .val (.long p1), .second, iv p2, .val (.long (Int64.ofNat qn)), .second, .val (.long (Int64.ofNat uu)), .second, rv b2, rv ts5, iv (Int32.ofNat ln), .val (.long (Int64.ofNat nu)), .second, .val (.long (Int64.ofNat (7919 * qn))), .second] [(.long (0 : Int64))]))
      refine Go.pre (fun _ k => XS.lconst X17.here hx rfl (hb hby at_237) k) ?_
      show Go p e below _ (T17.setTop (mkF m 238 #[.val (.long p0), .second, .val (.long p1), .second, iv p2, .val (.long (Int64.ofNat qn)), .second, .val (.long (Int64.ofNat uu)), .second, rv b2, rv ts5, iv (Int32.ofNat ln), .val (.long (Int64.ofNat nu)), .second, .val (.long (Int64.ofNat (7919 * qn))), .second] [(.long (0 : Int64)), (.long (0 : Int64))]))
      refine Go.pre (fun _ k => XS.lcmp X17.here hx rfl (hb hby at_238) rfl k) ?_
      show Go p e below _ (T17.setTop (mkF m 239 #[.val (.long p0), .second, .val (.long p1), .second, iv p2, .val (.long (Int64.ofNat qn)), .second, .val (.long (Int64.ofNat uu)), .second, rv b2, rv ts5, iv (Int32.ofNat ln), .val (.long (Int64.ofNat nu)), .second, .val (.long (Int64.ofNat (7919 * qn))), .second] [(.int (lcmpW (0 : Int64) (0 : Int64)))]))
      refine Go.pre (fun _ k => XS.ifNo X17.here hx rfl (hb hby at_239) rfl ((if0 _ _).trans (teq (own_eqT (by decide : (0 : Int64) = (0 : Int64)))).2) k) ?_
      show Go p e below _ (T17.setTop (mkF m 242 #[.val (.long p0), .second, .val (.long p1), .second, iv p2, .val (.long (Int64.ofNat qn)), .second, .val (.long (Int64.ofNat uu)), .second, rv b2, rv ts5, iv (Int32.ofNat ln), .val (.long (Int64.ofNat nu)), .second, .val (.long (Int64.ofNat (7919 * qn))), .second] []))
      refine Go.pre (fun _ k => XS.iconst X17.here hx rfl (hb hby at_242) k) ?_
      show Go p e below _ (T17.setTop (mkF m 243 #[.val (.long p0), .second, .val (.long p1), .second, iv p2, .val (.long (Int64.ofNat qn)), .second, .val (.long (Int64.ofNat uu)), .second, rv b2, rv ts5, iv (Int32.ofNat ln), .val (.long (Int64.ofNat nu)), .second, .val (.long (Int64.ofNat (7919 * qn))), .second] [(.int (1 : Int32))]))
      refine Go.pre (fun _ k => XS.goto X17.here hx rfl (pc0 := 243) (pc' := 247) rfl (hb hby at_243) (by decide) (by decide) k) ?_
      show Go p e below _ (T17.setTop (mkF m 247 #[.val (.long p0), .second, .val (.long p1), .second, iv p2, .val (.long (Int64.ofNat qn)), .second, .val (.long (Int64.ofNat uu)), .second, rv b2, rv ts5, iv (Int32.ofNat ln), .val (.long (Int64.ofNat nu)), .second, .val (.long (Int64.ofNat (7919 * qn))), .second] [(.int (1 : Int32))]))
      have hkf : T5.heap.size ≤ T17.heap.size := by rw [show T17.heap = T5.heap from eh17]; exact (Nat.le_refl T5.heap.size)
      obtain ⟨fs, hr, hrun, hended, hRE⟩ := Stand.leaveW (s := s) (vm₁ := T5.vm) X17 hS5 hkf (v := some (.int (1 : Int32))) (fun h => by rw [Bd.returns] at h; cases h)
      have CRf := CR5.trans (CHv.at (s := s) (vm0 := T5.vm) X17 hZ5 hEL CR5.1)
      refine Go.fin (retN X17 hx (t := .boolean) Bd.returns (by simp) (hb hby at_247) hr) ⟨hrun, hended, _, _, rfl, ?_, ?_, hRE.1, hRE.2.1, hRE.2.2.1, hRE.2.2.2.mono (by decide) (by decide)⟩
      · skip
        exact ⟨rfl, N17⟩
      · rw [hh]
        show CHr Z EL s.vm h0 T17.vm T17.heap
        rw [show T17.heap = T5.heap from eh17]
        exact CRf
    · skip
      refine Go.pre (fun _ k => XS.icmpYes X7.here hx rfl (pc0 := 102) (pc' := 118) rfl (hb hby at_102) rfl (flt (fun q => hc102_8 ((own_ol (a := 2) (b := ln) (by omega) (by omega)).mp q))).2.2.2 (by decide) (by decide) k) ?_
      show Go p e below _ (T7.setTop (mkF m 118 #[.val (.long p0), .second, .val (.long p1), .second, iv p2, .val (.long (Int64.ofNat qn)), .second, .val (.long (Int64.ofNat uu)), .second, rv b2, rv ts5, iv (Int32.ofNat ln), .unset, .unset, .unset, .unset] []))
      refine Go.pre (fun _ k => XS.lconst X7.here hx rfl (hb hby at_118) k) ?_
      show Go p e below _ (T7.setTop (mkF m 119 #[.val (.long p0), .second, .val (.long p1), .second, iv p2, .val (.long (Int64.ofNat qn)), .second, .val (.long (Int64.ofNat uu)), .second, rv b2, rv ts5, iv (Int32.ofNat ln), .unset, .unset, .unset, .unset] [(.long (Int64.ofNat (own_acc fd ln 0)))]))
      refine Go.pre (fun _ k => XS.lstore X7.here hx rfl (hb hby at_119) rfl (l' := #[.val (.long p0), .second, .val (.long p1), .second, iv p2, .val (.long (Int64.ofNat qn)), .second, .val (.long (Int64.ofNat uu)), .second, rv b2, rv ts5, iv (Int32.ofNat ln), .val (.long (Int64.ofNat (own_acc fd ln 0))), .second, .unset, .unset]) rfl k) ?_
      show Go p e below _ (T7.setTop (mkF m 121 #[.val (.long p0), .second, .val (.long p1), .second, iv p2, .val (.long (Int64.ofNat qn)), .second, .val (.long (Int64.ofNat uu)), .second, rv b2, rv ts5, iv (Int32.ofNat ln), .val (.long (Int64.ofNat (own_acc fd ln 0))), .second, .unset, .unset] []))
      refine Go.pre (fun _ k => XS.aload X7.here hx rfl (hb hby at_121) rfl rfl k) ?_
      show Go p e below _ (T7.setTop (mkF m 123 #[.val (.long p0), .second, .val (.long p1), .second, iv p2, .val (.long (Int64.ofNat qn)), .second, .val (.long (Int64.ofNat uu)), .second, rv b2, rv ts5, iv (Int32.ofNat ln), .val (.long (Int64.ofNat (own_acc fd ln 0))), .second, .unset, .unset] [(.ref ts5)]))
      refine Go.pre (fun _ k => XS.iconst X7.here hx rfl (hb hby at_123) k) ?_
      show Go p e below _ (T7.setTop (mkF m 124 #[.val (.long p0), .second, .val (.long p1), .second, iv p2, .val (.long (Int64.ofNat qn)), .second, .val (.long (Int64.ofNat uu)), .second, rv b2, rv ts5, iv (Int32.ofNat ln), .val (.long (Int64.ofNat (own_acc fd ln 0))), .second, .unset, .unset] [(.int (1 : Int32)), (.ref ts5)]))
      refine Go.pre (fun _ k => XS.lload X7.here hx rfl (hb hby at_124) rfl k) ?_
      show Go p e below _ (T7.setTop (mkF m 126 #[.val (.long p0), .second, .val (.long p1), .second, iv p2, .val (.long (Int64.ofNat qn)), .second, .val (.long (Int64.ofNat uu)), .second, rv b2, rv ts5, iv (Int32.ofNat ln), .val (.long (Int64.ofNat (own_acc fd ln 0))), .second, .unset, .unset] [(.long (Int64.ofNat (own_acc fd ln 0))), (.int (1 : Int32)), (.ref ts5)]))
      obtain ⟨_, _, ⟨T18, L18, k18, n18⟩, -, X18, ⟨Lc18, hQ18, l18, y18, z18⟩, st18⟩ := Jvm.LawKit.callS X7 hx (y := (⟨"com/example/inferred_grant/inferredgrant/benchmark/SettingRequestUserPinLaw", "step", "(Ljava/lang/String;IJ)J"⟩ : MethodName)) hown5 (mvT hZ5 (hw _ (List.mem_of_getElem? (i := 203) rfl))) (mvT hZ5 (hw _ (List.mem_of_getElem? (i := 204) rfl))) (mvT hZ5 (hw _ (List.mem_of_getElem? (i := 205) rfl))) (mvT hZ5 (hw _ (List.mem_of_getElem? (i := 206) rfl))) (by decide) (backOf (W := 0) (rm_stp l Z a0 hw [] ts5 r5 kr5 us 1 ln fd (own_acc fd ln 0) fm cs T5.heap n0 (Nat.le_trans (Nat.le_trans (Nat.le_trans (Nat.le_trans Z0 E2.1) E3.1) K4.1) K5.1) ((((O.ext E2).ext E3).keep K4 (allS g_b2 all0)).keep K5 all0) SC hcs SF hfm (by omega) (by decide) (by decide) (Nat.lt_of_lt_of_le (own_acc_lt hfd 0) (Nat.le_of_ble_eq_true rfl)) hus ⟨uE5, uC5, uV5, uA5⟩) hZ5 (hw _ (List.mem_of_getElem? (i := 206) rfl)) (hw _ (List.mem_of_getElem? (i := 205) rfl)) (by decide) (by decide)) (g := (mkF m 126 #[.val (.long p0), .second, .val (.long p1), .second, iv p2, .val (.long (Int64.ofNat qn)), .second, .val (.long (Int64.ofNat uu)), .second, rv b2, rv ts5, iv (Int32.ofNat ln), .val (.long (Int64.ofNat (own_acc fd ln 0))), .second, .unset, .unset] [(.long (Int64.ofNat (own_acc fd ln 0))), (.int (1 : Int32)), (.ref ts5)])) rfl (by rw [hml]; rfl) (argsL := [(.ref ts5), (.int (1 : Int32)), (.long (Int64.ofNat (own_acc fd ln 0)))]) (rest := []) (lenOf pd_26 rfl) rfl (by show 2 * 0 + _ ≤ _; exact Nat.le_of_eq rfl) (hb hby at_126) (fun _ _ => ⟨rfl, eh7, (by decide : 9 + 0 ≤ _), (by decide : 63 + 0 ≤ _)⟩)
      dsimp only [Pt.U, Pt.locs, Pt.cells, Pt.slots] at X18 l18 y18 z18 st18 hQ18
      subst l18 y18 z18
      refine Go.pre st18 ?_
      obtain ⟨rfl, N18q, eh18⟩ := hQ18
      have N18 := Fr.app N7 N18q
      show Go p e below _ (T18.setTop (mkF m 129 #[.val (.long p0), .second, .val (.long p1), .second, iv p2, .val (.long (Int64.ofNat qn)), .second, .val (.long (Int64.ofNat uu)), .second, rv b2, rv ts5, iv (Int32.ofNat ln), .val (.long (Int64.ofNat (own_acc fd ln 0))), .second, .unset, .unset] [(.long (Int64.ofNat (if 1 < ln then own_acc fd ln 0 * 10 + fd 1 else own_acc fd ln 0)))]))
      rw [show (if 1 < ln then own_acc fd ln 0 * 10 + fd 1 else own_acc fd ln 0) = own_acc fd ln 1 from rfl]
      show Go p e below _ (T18.setTop (mkF m 129 #[.val (.long p0), .second, .val (.long p1), .second, iv p2, .val (.long (Int64.ofNat qn)), .second, .val (.long (Int64.ofNat uu)), .second, rv b2, rv ts5, iv (Int32.ofNat ln), .val (.long (Int64.ofNat (own_acc fd ln 0))), .second, .unset, .unset] [(.long (Int64.ofNat (own_acc fd ln 1)))]))
      refine Go.pre (fun _ k => XS.lstore X18.here hx rfl (hb hby at_129) rfl (l' := #[.val (.long p0), .second, .val (.long p1), .second, iv p2, .val (.long (Int64.ofNat qn)), .second, .val (.long (Int64.ofNat uu)), .second, rv b2, rv ts5, iv (Int32.ofNat ln), .val (.long (Int64.ofNat (own_acc fd ln 1))), .second, .unset, .unset]) rfl k) ?_
      show Go p e below _ (T18.setTop (mkF m 131 #[.val (.long p0), .second, .val (.long p1), .second, iv p2, .val (.long (Int64.ofNat qn)), .second, .val (.long (Int64.ofNat uu)), .second, rv b2, rv ts5, iv (Int32.ofNat ln), .val (.long (Int64.ofNat (own_acc fd ln 1))), .second, .unset, .unset] []))
      refine Go.pre (fun _ k => XS.aload X18.here hx rfl (hb hby at_131) rfl rfl k) ?_
      show Go p e below _ (T18.setTop (mkF m 133 #[.val (.long p0), .second, .val (.long p1), .second, iv p2, .val (.long (Int64.ofNat qn)), .second, .val (.long (Int64.ofNat uu)), .second, rv b2, rv ts5, iv (Int32.ofNat ln), .val (.long (Int64.ofNat (own_acc fd ln 1))), .second, .unset, .unset] [(.ref ts5)]))
      refine Go.pre (fun _ k => XS.iconst X18.here hx rfl (hb hby at_133) k) ?_
      show Go p e below _ (T18.setTop (mkF m 134 #[.val (.long p0), .second, .val (.long p1), .second, iv p2, .val (.long (Int64.ofNat qn)), .second, .val (.long (Int64.ofNat uu)), .second, rv b2, rv ts5, iv (Int32.ofNat ln), .val (.long (Int64.ofNat (own_acc fd ln 1))), .second, .unset, .unset] [(.int (2 : Int32)), (.ref ts5)]))
      refine Go.pre (fun _ k => XS.lload X18.here hx rfl (hb hby at_134) rfl k) ?_
      show Go p e below _ (T18.setTop (mkF m 136 #[.val (.long p0), .second, .val (.long p1), .second, iv p2, .val (.long (Int64.ofNat qn)), .second, .val (.long (Int64.ofNat uu)), .second, rv b2, rv ts5, iv (Int32.ofNat ln), .val (.long (Int64.ofNat (own_acc fd ln 1))), .second, .unset, .unset] [(.long (Int64.ofNat (own_acc fd ln 1))), (.int (2 : Int32)), (.ref ts5)]))
      obtain ⟨_, _, ⟨T19, L19, k19, n19⟩, -, X19, ⟨Lc19, hQ19, l19, y19, z19⟩, st19⟩ := Jvm.LawKit.callS X18 hx (y := (⟨"com/example/inferred_grant/inferredgrant/benchmark/SettingRequestUserPinLaw", "step", "(Ljava/lang/String;IJ)J"⟩ : MethodName)) hown5 (mvT hZ5 (hw _ (List.mem_of_getElem? (i := 203) rfl))) (mvT hZ5 (hw _ (List.mem_of_getElem? (i := 204) rfl))) (mvT hZ5 (hw _ (List.mem_of_getElem? (i := 205) rfl))) (mvT hZ5 (hw _ (List.mem_of_getElem? (i := 206) rfl))) (by decide) (backOf (W := 0) (rm_stp l Z a0 hw [] ts5 r5 kr5 us 2 ln fd (own_acc fd ln 1) fm cs T5.heap n0 (Nat.le_trans (Nat.le_trans (Nat.le_trans (Nat.le_trans Z0 E2.1) E3.1) K4.1) K5.1) ((((O.ext E2).ext E3).keep K4 (allS g_b2 all0)).keep K5 all0) SC hcs SF hfm (by omega) (by decide) (by decide) (Nat.lt_of_lt_of_le (own_acc_lt hfd 1) (Nat.le_of_ble_eq_true rfl)) hus ⟨uE5, uC5, uV5, uA5⟩) hZ5 (hw _ (List.mem_of_getElem? (i := 206) rfl)) (hw _ (List.mem_of_getElem? (i := 205) rfl)) (by decide) (by decide)) (g := (mkF m 136 #[.val (.long p0), .second, .val (.long p1), .second, iv p2, .val (.long (Int64.ofNat qn)), .second, .val (.long (Int64.ofNat uu)), .second, rv b2, rv ts5, iv (Int32.ofNat ln), .val (.long (Int64.ofNat (own_acc fd ln 1))), .second, .unset, .unset] [(.long (Int64.ofNat (own_acc fd ln 1))), (.int (2 : Int32)), (.ref ts5)])) rfl (by rw [hml]; rfl) (argsL := [(.ref ts5), (.int (2 : Int32)), (.long (Int64.ofNat (own_acc fd ln 1)))]) (rest := []) (lenOf pd_26 rfl) rfl (by show 2 * 0 + _ ≤ _; exact Nat.le_of_eq rfl) (hb hby at_136) (fun _ _ => ⟨rfl, eh18, (by decide : 9 + 0 ≤ _), (by decide : 63 + 0 ≤ _)⟩)
      dsimp only [Pt.U, Pt.locs, Pt.cells, Pt.slots] at X19 l19 y19 z19 st19 hQ19
      subst l19 y19 z19
      refine Go.pre st19 ?_
      obtain ⟨rfl, N19q, eh19⟩ := hQ19
      have N19 := Fr.app N18 N19q
      show Go p e below _ (T19.setTop (mkF m 139 #[.val (.long p0), .second, .val (.long p1), .second, iv p2, .val (.long (Int64.ofNat qn)), .second, .val (.long (Int64.ofNat uu)), .second, rv b2, rv ts5, iv (Int32.ofNat ln), .val (.long (Int64.ofNat (own_acc fd ln 1))), .second, .unset, .unset] [(.long (Int64.ofNat (if 2 < ln then own_acc fd ln 1 * 10 + fd 2 else own_acc fd ln 1)))]))
      rw [show (if 2 < ln then own_acc fd ln 1 * 10 + fd 2 else own_acc fd ln 1) = own_acc fd ln 2 from rfl]
      show Go p e below _ (T19.setTop (mkF m 139 #[.val (.long p0), .second, .val (.long p1), .second, iv p2, .val (.long (Int64.ofNat qn)), .second, .val (.long (Int64.ofNat uu)), .second, rv b2, rv ts5, iv (Int32.ofNat ln), .val (.long (Int64.ofNat (own_acc fd ln 1))), .second, .unset, .unset] [(.long (Int64.ofNat (own_acc fd ln 2)))]))
      refine Go.pre (fun _ k => XS.lstore X19.here hx rfl (hb hby at_139) rfl (l' := #[.val (.long p0), .second, .val (.long p1), .second, iv p2, .val (.long (Int64.ofNat qn)), .second, .val (.long (Int64.ofNat uu)), .second, rv b2, rv ts5, iv (Int32.ofNat ln), .val (.long (Int64.ofNat (own_acc fd ln 2))), .second, .unset, .unset]) rfl k) ?_
      show Go p e below _ (T19.setTop (mkF m 141 #[.val (.long p0), .second, .val (.long p1), .second, iv p2, .val (.long (Int64.ofNat qn)), .second, .val (.long (Int64.ofNat uu)), .second, rv b2, rv ts5, iv (Int32.ofNat ln), .val (.long (Int64.ofNat (own_acc fd ln 2))), .second, .unset, .unset] []))
      refine Go.pre (fun _ k => XS.aload X19.here hx rfl (hb hby at_141) rfl rfl k) ?_
      show Go p e below _ (T19.setTop (mkF m 143 #[.val (.long p0), .second, .val (.long p1), .second, iv p2, .val (.long (Int64.ofNat qn)), .second, .val (.long (Int64.ofNat uu)), .second, rv b2, rv ts5, iv (Int32.ofNat ln), .val (.long (Int64.ofNat (own_acc fd ln 2))), .second, .unset, .unset] [(.ref ts5)]))
      refine Go.pre (fun _ k => XS.iconst X19.here hx rfl (hb hby at_143) k) ?_
      show Go p e below _ (T19.setTop (mkF m 144 #[.val (.long p0), .second, .val (.long p1), .second, iv p2, .val (.long (Int64.ofNat qn)), .second, .val (.long (Int64.ofNat uu)), .second, rv b2, rv ts5, iv (Int32.ofNat ln), .val (.long (Int64.ofNat (own_acc fd ln 2))), .second, .unset, .unset] [(.int (3 : Int32)), (.ref ts5)]))
      refine Go.pre (fun _ k => XS.lload X19.here hx rfl (hb hby at_144) rfl k) ?_
      show Go p e below _ (T19.setTop (mkF m 146 #[.val (.long p0), .second, .val (.long p1), .second, iv p2, .val (.long (Int64.ofNat qn)), .second, .val (.long (Int64.ofNat uu)), .second, rv b2, rv ts5, iv (Int32.ofNat ln), .val (.long (Int64.ofNat (own_acc fd ln 2))), .second, .unset, .unset] [(.long (Int64.ofNat (own_acc fd ln 2))), (.int (3 : Int32)), (.ref ts5)]))
      obtain ⟨_, _, ⟨T20, L20, k20, n20⟩, -, X20, ⟨Lc20, hQ20, l20, y20, z20⟩, st20⟩ := Jvm.LawKit.callS X19 hx (y := (⟨"com/example/inferred_grant/inferredgrant/benchmark/SettingRequestUserPinLaw", "step", "(Ljava/lang/String;IJ)J"⟩ : MethodName)) hown5 (mvT hZ5 (hw _ (List.mem_of_getElem? (i := 203) rfl))) (mvT hZ5 (hw _ (List.mem_of_getElem? (i := 204) rfl))) (mvT hZ5 (hw _ (List.mem_of_getElem? (i := 205) rfl))) (mvT hZ5 (hw _ (List.mem_of_getElem? (i := 206) rfl))) (by decide) (backOf (W := 0) (rm_stp l Z a0 hw [] ts5 r5 kr5 us 3 ln fd (own_acc fd ln 2) fm cs T5.heap n0 (Nat.le_trans (Nat.le_trans (Nat.le_trans (Nat.le_trans Z0 E2.1) E3.1) K4.1) K5.1) ((((O.ext E2).ext E3).keep K4 (allS g_b2 all0)).keep K5 all0) SC hcs SF hfm (by omega) (by decide) (by decide) (Nat.lt_of_lt_of_le (own_acc_lt hfd 2) (Nat.le_of_ble_eq_true rfl)) hus ⟨uE5, uC5, uV5, uA5⟩) hZ5 (hw _ (List.mem_of_getElem? (i := 206) rfl)) (hw _ (List.mem_of_getElem? (i := 205) rfl)) (by decide) (by decide)) (g := (mkF m 146 #[.val (.long p0), .second, .val (.long p1), .second, iv p2, .val (.long (Int64.ofNat qn)), .second, .val (.long (Int64.ofNat uu)), .second, rv b2, rv ts5, iv (Int32.ofNat ln), .val (.long (Int64.ofNat (own_acc fd ln 2))), .second, .unset, .unset] [(.long (Int64.ofNat (own_acc fd ln 2))), (.int (3 : Int32)), (.ref ts5)])) rfl (by rw [hml]; rfl) (argsL := [(.ref ts5), (.int (3 : Int32)), (.long (Int64.ofNat (own_acc fd ln 2)))]) (rest := []) (lenOf pd_26 rfl) rfl (by show 2 * 0 + _ ≤ _; exact Nat.le_of_eq rfl) (hb hby at_146) (fun _ _ => ⟨rfl, eh19, (by decide : 9 + 0 ≤ _), (by decide : 63 + 0 ≤ _)⟩)
      dsimp only [Pt.U, Pt.locs, Pt.cells, Pt.slots] at X20 l20 y20 z20 st20 hQ20
      subst l20 y20 z20
      refine Go.pre st20 ?_
      obtain ⟨rfl, N20q, eh20⟩ := hQ20
      have N20 := Fr.app N19 N20q
      show Go p e below _ (T20.setTop (mkF m 149 #[.val (.long p0), .second, .val (.long p1), .second, iv p2, .val (.long (Int64.ofNat qn)), .second, .val (.long (Int64.ofNat uu)), .second, rv b2, rv ts5, iv (Int32.ofNat ln), .val (.long (Int64.ofNat (own_acc fd ln 2))), .second, .unset, .unset] [(.long (Int64.ofNat (if 3 < ln then own_acc fd ln 2 * 10 + fd 3 else own_acc fd ln 2)))]))
      rw [show (if 3 < ln then own_acc fd ln 2 * 10 + fd 3 else own_acc fd ln 2) = own_acc fd ln 3 from rfl]
      show Go p e below _ (T20.setTop (mkF m 149 #[.val (.long p0), .second, .val (.long p1), .second, iv p2, .val (.long (Int64.ofNat qn)), .second, .val (.long (Int64.ofNat uu)), .second, rv b2, rv ts5, iv (Int32.ofNat ln), .val (.long (Int64.ofNat (own_acc fd ln 2))), .second, .unset, .unset] [(.long (Int64.ofNat (own_acc fd ln 3)))]))
      refine Go.pre (fun _ k => XS.lstore X20.here hx rfl (hb hby at_149) rfl (l' := #[.val (.long p0), .second, .val (.long p1), .second, iv p2, .val (.long (Int64.ofNat qn)), .second, .val (.long (Int64.ofNat uu)), .second, rv b2, rv ts5, iv (Int32.ofNat ln), .val (.long (Int64.ofNat (own_acc fd ln 3))), .second, .unset, .unset]) rfl k) ?_
      show Go p e below _ (T20.setTop (mkF m 151 #[.val (.long p0), .second, .val (.long p1), .second, iv p2, .val (.long (Int64.ofNat qn)), .second, .val (.long (Int64.ofNat uu)), .second, rv b2, rv ts5, iv (Int32.ofNat ln), .val (.long (Int64.ofNat (own_acc fd ln 3))), .second, .unset, .unset] []))
      refine Go.pre (fun _ k => XS.aload X20.here hx rfl (hb hby at_151) rfl rfl k) ?_
      show Go p e below _ (T20.setTop (mkF m 153 #[.val (.long p0), .second, .val (.long p1), .second, iv p2, .val (.long (Int64.ofNat qn)), .second, .val (.long (Int64.ofNat uu)), .second, rv b2, rv ts5, iv (Int32.ofNat ln), .val (.long (Int64.ofNat (own_acc fd ln 3))), .second, .unset, .unset] [(.ref ts5)]))
      refine Go.pre (fun _ k => XS.iconst X20.here hx rfl (hb hby at_153) k) ?_
      show Go p e below _ (T20.setTop (mkF m 154 #[.val (.long p0), .second, .val (.long p1), .second, iv p2, .val (.long (Int64.ofNat qn)), .second, .val (.long (Int64.ofNat uu)), .second, rv b2, rv ts5, iv (Int32.ofNat ln), .val (.long (Int64.ofNat (own_acc fd ln 3))), .second, .unset, .unset] [(.int (4 : Int32)), (.ref ts5)]))
      refine Go.pre (fun _ k => XS.lload X20.here hx rfl (hb hby at_154) rfl k) ?_
      show Go p e below _ (T20.setTop (mkF m 156 #[.val (.long p0), .second, .val (.long p1), .second, iv p2, .val (.long (Int64.ofNat qn)), .second, .val (.long (Int64.ofNat uu)), .second, rv b2, rv ts5, iv (Int32.ofNat ln), .val (.long (Int64.ofNat (own_acc fd ln 3))), .second, .unset, .unset] [(.long (Int64.ofNat (own_acc fd ln 3))), (.int (4 : Int32)), (.ref ts5)]))
      obtain ⟨_, _, ⟨T21, L21, k21, n21⟩, -, X21, ⟨Lc21, hQ21, l21, y21, z21⟩, st21⟩ := Jvm.LawKit.callS X20 hx (y := (⟨"com/example/inferred_grant/inferredgrant/benchmark/SettingRequestUserPinLaw", "step", "(Ljava/lang/String;IJ)J"⟩ : MethodName)) hown5 (mvT hZ5 (hw _ (List.mem_of_getElem? (i := 203) rfl))) (mvT hZ5 (hw _ (List.mem_of_getElem? (i := 204) rfl))) (mvT hZ5 (hw _ (List.mem_of_getElem? (i := 205) rfl))) (mvT hZ5 (hw _ (List.mem_of_getElem? (i := 206) rfl))) (by decide) (backOf (W := 0) (rm_stp l Z a0 hw [] ts5 r5 kr5 us 4 ln fd (own_acc fd ln 3) fm cs T5.heap n0 (Nat.le_trans (Nat.le_trans (Nat.le_trans (Nat.le_trans Z0 E2.1) E3.1) K4.1) K5.1) ((((O.ext E2).ext E3).keep K4 (allS g_b2 all0)).keep K5 all0) SC hcs SF hfm (by omega) (by decide) (by decide) (Nat.lt_of_lt_of_le (own_acc_lt hfd 3) (Nat.le_of_ble_eq_true rfl)) hus ⟨uE5, uC5, uV5, uA5⟩) hZ5 (hw _ (List.mem_of_getElem? (i := 206) rfl)) (hw _ (List.mem_of_getElem? (i := 205) rfl)) (by decide) (by decide)) (g := (mkF m 156 #[.val (.long p0), .second, .val (.long p1), .second, iv p2, .val (.long (Int64.ofNat qn)), .second, .val (.long (Int64.ofNat uu)), .second, rv b2, rv ts5, iv (Int32.ofNat ln), .val (.long (Int64.ofNat (own_acc fd ln 3))), .second, .unset, .unset] [(.long (Int64.ofNat (own_acc fd ln 3))), (.int (4 : Int32)), (.ref ts5)])) rfl (by rw [hml]; rfl) (argsL := [(.ref ts5), (.int (4 : Int32)), (.long (Int64.ofNat (own_acc fd ln 3)))]) (rest := []) (lenOf pd_26 rfl) rfl (by show 2 * 0 + _ ≤ _; exact Nat.le_of_eq rfl) (hb hby at_156) (fun _ _ => ⟨rfl, eh20, (by decide : 9 + 0 ≤ _), (by decide : 63 + 0 ≤ _)⟩)
      dsimp only [Pt.U, Pt.locs, Pt.cells, Pt.slots] at X21 l21 y21 z21 st21 hQ21
      subst l21 y21 z21
      refine Go.pre st21 ?_
      obtain ⟨rfl, N21q, eh21⟩ := hQ21
      have N21 := Fr.app N20 N21q
      show Go p e below _ (T21.setTop (mkF m 159 #[.val (.long p0), .second, .val (.long p1), .second, iv p2, .val (.long (Int64.ofNat qn)), .second, .val (.long (Int64.ofNat uu)), .second, rv b2, rv ts5, iv (Int32.ofNat ln), .val (.long (Int64.ofNat (own_acc fd ln 3))), .second, .unset, .unset] [(.long (Int64.ofNat (if 4 < ln then own_acc fd ln 3 * 10 + fd 4 else own_acc fd ln 3)))]))
      rw [show (if 4 < ln then own_acc fd ln 3 * 10 + fd 4 else own_acc fd ln 3) = own_acc fd ln 4 from rfl]
      show Go p e below _ (T21.setTop (mkF m 159 #[.val (.long p0), .second, .val (.long p1), .second, iv p2, .val (.long (Int64.ofNat qn)), .second, .val (.long (Int64.ofNat uu)), .second, rv b2, rv ts5, iv (Int32.ofNat ln), .val (.long (Int64.ofNat (own_acc fd ln 3))), .second, .unset, .unset] [(.long (Int64.ofNat (own_acc fd ln 4)))]))
      refine Go.pre (fun _ k => XS.lstore X21.here hx rfl (hb hby at_159) rfl (l' := #[.val (.long p0), .second, .val (.long p1), .second, iv p2, .val (.long (Int64.ofNat qn)), .second, .val (.long (Int64.ofNat uu)), .second, rv b2, rv ts5, iv (Int32.ofNat ln), .val (.long (Int64.ofNat (own_acc fd ln 4))), .second, .unset, .unset]) rfl k) ?_
      show Go p e below _ (T21.setTop (mkF m 161 #[.val (.long p0), .second, .val (.long p1), .second, iv p2, .val (.long (Int64.ofNat qn)), .second, .val (.long (Int64.ofNat uu)), .second, rv b2, rv ts5, iv (Int32.ofNat ln), .val (.long (Int64.ofNat (own_acc fd ln 4))), .second, .unset, .unset] []))
      refine Go.pre (fun _ k => XS.aload X21.here hx rfl (hb hby at_161) rfl rfl k) ?_
      show Go p e below _ (T21.setTop (mkF m 163 #[.val (.long p0), .second, .val (.long p1), .second, iv p2, .val (.long (Int64.ofNat qn)), .second, .val (.long (Int64.ofNat uu)), .second, rv b2, rv ts5, iv (Int32.ofNat ln), .val (.long (Int64.ofNat (own_acc fd ln 4))), .second, .unset, .unset] [(.ref ts5)]))
      refine Go.pre (fun _ k => XS.iconst X21.here hx rfl (hb hby at_163) k) ?_
      show Go p e below _ (T21.setTop (mkF m 164 #[.val (.long p0), .second, .val (.long p1), .second, iv p2, .val (.long (Int64.ofNat qn)), .second, .val (.long (Int64.ofNat uu)), .second, rv b2, rv ts5, iv (Int32.ofNat ln), .val (.long (Int64.ofNat (own_acc fd ln 4))), .second, .unset, .unset] [(.int (5 : Int32)), (.ref ts5)]))
      refine Go.pre (fun _ k => XS.lload X21.here hx rfl (hb hby at_164) rfl k) ?_
      show Go p e below _ (T21.setTop (mkF m 166 #[.val (.long p0), .second, .val (.long p1), .second, iv p2, .val (.long (Int64.ofNat qn)), .second, .val (.long (Int64.ofNat uu)), .second, rv b2, rv ts5, iv (Int32.ofNat ln), .val (.long (Int64.ofNat (own_acc fd ln 4))), .second, .unset, .unset] [(.long (Int64.ofNat (own_acc fd ln 4))), (.int (5 : Int32)), (.ref ts5)]))
      obtain ⟨_, _, ⟨T22, L22, k22, n22⟩, -, X22, ⟨Lc22, hQ22, l22, y22, z22⟩, st22⟩ := Jvm.LawKit.callS X21 hx (y := (⟨"com/example/inferred_grant/inferredgrant/benchmark/SettingRequestUserPinLaw", "step", "(Ljava/lang/String;IJ)J"⟩ : MethodName)) hown5 (mvT hZ5 (hw _ (List.mem_of_getElem? (i := 203) rfl))) (mvT hZ5 (hw _ (List.mem_of_getElem? (i := 204) rfl))) (mvT hZ5 (hw _ (List.mem_of_getElem? (i := 205) rfl))) (mvT hZ5 (hw _ (List.mem_of_getElem? (i := 206) rfl))) (by decide) (backOf (W := 0) (rm_stp l Z a0 hw [] ts5 r5 kr5 us 5 ln fd (own_acc fd ln 4) fm cs T5.heap n0 (Nat.le_trans (Nat.le_trans (Nat.le_trans (Nat.le_trans Z0 E2.1) E3.1) K4.1) K5.1) ((((O.ext E2).ext E3).keep K4 (allS g_b2 all0)).keep K5 all0) SC hcs SF hfm (by omega) (by decide) (by decide) (Nat.lt_of_lt_of_le (own_acc_lt hfd 4) (Nat.le_of_ble_eq_true rfl)) hus ⟨uE5, uC5, uV5, uA5⟩) hZ5 (hw _ (List.mem_of_getElem? (i := 206) rfl)) (hw _ (List.mem_of_getElem? (i := 205) rfl)) (by decide) (by decide)) (g := (mkF m 166 #[.val (.long p0), .second, .val (.long p1), .second, iv p2, .val (.long (Int64.ofNat qn)), .second, .val (.long (Int64.ofNat uu)), .second, rv b2, rv ts5, iv (Int32.ofNat ln), .val (.long (Int64.ofNat (own_acc fd ln 4))), .second, .unset, .unset] [(.long (Int64.ofNat (own_acc fd ln 4))), (.int (5 : Int32)), (.ref ts5)])) rfl (by rw [hml]; rfl) (argsL := [(.ref ts5), (.int (5 : Int32)), (.long (Int64.ofNat (own_acc fd ln 4)))]) (rest := []) (lenOf pd_26 rfl) rfl (by show 2 * 0 + _ ≤ _; exact Nat.le_of_eq rfl) (hb hby at_166) (fun _ _ => ⟨rfl, eh21, (by decide : 9 + 0 ≤ _), (by decide : 63 + 0 ≤ _)⟩)
      dsimp only [Pt.U, Pt.locs, Pt.cells, Pt.slots] at X22 l22 y22 z22 st22 hQ22
      subst l22 y22 z22
      refine Go.pre st22 ?_
      obtain ⟨rfl, N22q, eh22⟩ := hQ22
      have N22 := Fr.app N21 N22q
      show Go p e below _ (T22.setTop (mkF m 169 #[.val (.long p0), .second, .val (.long p1), .second, iv p2, .val (.long (Int64.ofNat qn)), .second, .val (.long (Int64.ofNat uu)), .second, rv b2, rv ts5, iv (Int32.ofNat ln), .val (.long (Int64.ofNat (own_acc fd ln 4))), .second, .unset, .unset] [(.long (Int64.ofNat (if 5 < ln then own_acc fd ln 4 * 10 + fd 5 else own_acc fd ln 4)))]))
      rw [show (if 5 < ln then own_acc fd ln 4 * 10 + fd 5 else own_acc fd ln 4) = own_acc fd ln 5 from rfl]
      show Go p e below _ (T22.setTop (mkF m 169 #[.val (.long p0), .second, .val (.long p1), .second, iv p2, .val (.long (Int64.ofNat qn)), .second, .val (.long (Int64.ofNat uu)), .second, rv b2, rv ts5, iv (Int32.ofNat ln), .val (.long (Int64.ofNat (own_acc fd ln 4))), .second, .unset, .unset] [(.long (Int64.ofNat (own_acc fd ln 5)))]))
      refine Go.pre (fun _ k => XS.lstore X22.here hx rfl (hb hby at_169) rfl (l' := #[.val (.long p0), .second, .val (.long p1), .second, iv p2, .val (.long (Int64.ofNat qn)), .second, .val (.long (Int64.ofNat uu)), .second, rv b2, rv ts5, iv (Int32.ofNat ln), .val (.long (Int64.ofNat (own_acc fd ln 5))), .second, .unset, .unset]) rfl k) ?_
      show Go p e below _ (T22.setTop (mkF m 171 #[.val (.long p0), .second, .val (.long p1), .second, iv p2, .val (.long (Int64.ofNat qn)), .second, .val (.long (Int64.ofNat uu)), .second, rv b2, rv ts5, iv (Int32.ofNat ln), .val (.long (Int64.ofNat (own_acc fd ln 5))), .second, .unset, .unset] []))
      refine Go.pre (fun _ k => XS.aload X22.here hx rfl (hb hby at_171) rfl rfl k) ?_
      show Go p e below _ (T22.setTop (mkF m 173 #[.val (.long p0), .second, .val (.long p1), .second, iv p2, .val (.long (Int64.ofNat qn)), .second, .val (.long (Int64.ofNat uu)), .second, rv b2, rv ts5, iv (Int32.ofNat ln), .val (.long (Int64.ofNat (own_acc fd ln 5))), .second, .unset, .unset] [(.ref ts5)]))
      refine Go.pre (fun _ k => XS.bipush X22.here hx rfl (hb hby at_173) k) ?_
      show Go p e below _ (T22.setTop (mkF m 175 #[.val (.long p0), .second, .val (.long p1), .second, iv p2, .val (.long (Int64.ofNat qn)), .second, .val (.long (Int64.ofNat uu)), .second, rv b2, rv ts5, iv (Int32.ofNat ln), .val (.long (Int64.ofNat (own_acc fd ln 5))), .second, .unset, .unset] [(.int (6 : Int32)), (.ref ts5)]))
      refine Go.pre (fun _ k => XS.lload X22.here hx rfl (hb hby at_175) rfl k) ?_
      show Go p e below _ (T22.setTop (mkF m 177 #[.val (.long p0), .second, .val (.long p1), .second, iv p2, .val (.long (Int64.ofNat qn)), .second, .val (.long (Int64.ofNat uu)), .second, rv b2, rv ts5, iv (Int32.ofNat ln), .val (.long (Int64.ofNat (own_acc fd ln 5))), .second, .unset, .unset] [(.long (Int64.ofNat (own_acc fd ln 5))), (.int (6 : Int32)), (.ref ts5)]))
      obtain ⟨_, _, ⟨T23, L23, k23, n23⟩, -, X23, ⟨Lc23, hQ23, l23, y23, z23⟩, st23⟩ := Jvm.LawKit.callS X22 hx (y := (⟨"com/example/inferred_grant/inferredgrant/benchmark/SettingRequestUserPinLaw", "step", "(Ljava/lang/String;IJ)J"⟩ : MethodName)) hown5 (mvT hZ5 (hw _ (List.mem_of_getElem? (i := 203) rfl))) (mvT hZ5 (hw _ (List.mem_of_getElem? (i := 204) rfl))) (mvT hZ5 (hw _ (List.mem_of_getElem? (i := 205) rfl))) (mvT hZ5 (hw _ (List.mem_of_getElem? (i := 206) rfl))) (by decide) (backOf (W := 0) (rm_stp l Z a0 hw [] ts5 r5 kr5 us 6 ln fd (own_acc fd ln 5) fm cs T5.heap n0 (Nat.le_trans (Nat.le_trans (Nat.le_trans (Nat.le_trans Z0 E2.1) E3.1) K4.1) K5.1) ((((O.ext E2).ext E3).keep K4 (allS g_b2 all0)).keep K5 all0) SC hcs SF hfm (by omega) (by decide) (by decide) (Nat.lt_of_lt_of_le (own_acc_lt hfd 5) (Nat.le_of_ble_eq_true rfl)) hus ⟨uE5, uC5, uV5, uA5⟩) hZ5 (hw _ (List.mem_of_getElem? (i := 206) rfl)) (hw _ (List.mem_of_getElem? (i := 205) rfl)) (by decide) (by decide)) (g := (mkF m 177 #[.val (.long p0), .second, .val (.long p1), .second, iv p2, .val (.long (Int64.ofNat qn)), .second, .val (.long (Int64.ofNat uu)), .second, rv b2, rv ts5, iv (Int32.ofNat ln), .val (.long (Int64.ofNat (own_acc fd ln 5))), .second, .unset, .unset] [(.long (Int64.ofNat (own_acc fd ln 5))), (.int (6 : Int32)), (.ref ts5)])) rfl (by rw [hml]; rfl) (argsL := [(.ref ts5), (.int (6 : Int32)), (.long (Int64.ofNat (own_acc fd ln 5)))]) (rest := []) (lenOf pd_26 rfl) rfl (by show 2 * 0 + _ ≤ _; exact Nat.le_of_eq rfl) (hb hby at_177) (fun _ _ => ⟨rfl, eh22, (by decide : 9 + 0 ≤ _), (by decide : 63 + 0 ≤ _)⟩)
      dsimp only [Pt.U, Pt.locs, Pt.cells, Pt.slots] at X23 l23 y23 z23 st23 hQ23
      subst l23 y23 z23
      refine Go.pre st23 ?_
      obtain ⟨rfl, N23q, eh23⟩ := hQ23
      have N23 := Fr.app N22 N23q
      show Go p e below _ (T23.setTop (mkF m 180 #[.val (.long p0), .second, .val (.long p1), .second, iv p2, .val (.long (Int64.ofNat qn)), .second, .val (.long (Int64.ofNat uu)), .second, rv b2, rv ts5, iv (Int32.ofNat ln), .val (.long (Int64.ofNat (own_acc fd ln 5))), .second, .unset, .unset] [(.long (Int64.ofNat (if 6 < ln then own_acc fd ln 5 * 10 + fd 6 else own_acc fd ln 5)))]))
      rw [show (if 6 < ln then own_acc fd ln 5 * 10 + fd 6 else own_acc fd ln 5) = own_acc fd ln 6 from rfl]
      show Go p e below _ (T23.setTop (mkF m 180 #[.val (.long p0), .second, .val (.long p1), .second, iv p2, .val (.long (Int64.ofNat qn)), .second, .val (.long (Int64.ofNat uu)), .second, rv b2, rv ts5, iv (Int32.ofNat ln), .val (.long (Int64.ofNat (own_acc fd ln 5))), .second, .unset, .unset] [(.long (Int64.ofNat (own_acc fd ln 6)))]))
      refine Go.pre (fun _ k => XS.lstore X23.here hx rfl (hb hby at_180) rfl (l' := #[.val (.long p0), .second, .val (.long p1), .second, iv p2, .val (.long (Int64.ofNat qn)), .second, .val (.long (Int64.ofNat uu)), .second, rv b2, rv ts5, iv (Int32.ofNat ln), .val (.long (Int64.ofNat (own_acc fd ln 6))), .second, .unset, .unset]) rfl k) ?_
      show Go p e below _ (T23.setTop (mkF m 182 #[.val (.long p0), .second, .val (.long p1), .second, iv p2, .val (.long (Int64.ofNat qn)), .second, .val (.long (Int64.ofNat uu)), .second, rv b2, rv ts5, iv (Int32.ofNat ln), .val (.long (Int64.ofNat (own_acc fd ln 6))), .second, .unset, .unset] []))
      refine Go.pre (fun _ k => XS.aload X23.here hx rfl (hb hby at_182) rfl rfl k) ?_
      show Go p e below _ (T23.setTop (mkF m 184 #[.val (.long p0), .second, .val (.long p1), .second, iv p2, .val (.long (Int64.ofNat qn)), .second, .val (.long (Int64.ofNat uu)), .second, rv b2, rv ts5, iv (Int32.ofNat ln), .val (.long (Int64.ofNat (own_acc fd ln 6))), .second, .unset, .unset] [(.ref ts5)]))
      refine Go.pre (fun _ k => XS.bipush X23.here hx rfl (hb hby at_184) k) ?_
      show Go p e below _ (T23.setTop (mkF m 186 #[.val (.long p0), .second, .val (.long p1), .second, iv p2, .val (.long (Int64.ofNat qn)), .second, .val (.long (Int64.ofNat uu)), .second, rv b2, rv ts5, iv (Int32.ofNat ln), .val (.long (Int64.ofNat (own_acc fd ln 6))), .second, .unset, .unset] [(.int (7 : Int32)), (.ref ts5)]))
      refine Go.pre (fun _ k => XS.lload X23.here hx rfl (hb hby at_186) rfl k) ?_
      show Go p e below _ (T23.setTop (mkF m 188 #[.val (.long p0), .second, .val (.long p1), .second, iv p2, .val (.long (Int64.ofNat qn)), .second, .val (.long (Int64.ofNat uu)), .second, rv b2, rv ts5, iv (Int32.ofNat ln), .val (.long (Int64.ofNat (own_acc fd ln 6))), .second, .unset, .unset] [(.long (Int64.ofNat (own_acc fd ln 6))), (.int (7 : Int32)), (.ref ts5)]))
      obtain ⟨_, _, ⟨T24, L24, k24, n24⟩, -, X24, ⟨Lc24, hQ24, l24, y24, z24⟩, st24⟩ := Jvm.LawKit.callS X23 hx (y := (⟨"com/example/inferred_grant/inferredgrant/benchmark/SettingRequestUserPinLaw", "step", "(Ljava/lang/String;IJ)J"⟩ : MethodName)) hown5 (mvT hZ5 (hw _ (List.mem_of_getElem? (i := 203) rfl))) (mvT hZ5 (hw _ (List.mem_of_getElem? (i := 204) rfl))) (mvT hZ5 (hw _ (List.mem_of_getElem? (i := 205) rfl))) (mvT hZ5 (hw _ (List.mem_of_getElem? (i := 206) rfl))) (by decide) (backOf (W := 0) (rm_stp l Z a0 hw [] ts5 r5 kr5 us 7 ln fd (own_acc fd ln 6) fm cs T5.heap n0 (Nat.le_trans (Nat.le_trans (Nat.le_trans (Nat.le_trans Z0 E2.1) E3.1) K4.1) K5.1) ((((O.ext E2).ext E3).keep K4 (allS g_b2 all0)).keep K5 all0) SC hcs SF hfm (by omega) (by decide) (by decide) (Nat.lt_of_lt_of_le (own_acc_lt hfd 6) (Nat.le_of_ble_eq_true rfl)) hus ⟨uE5, uC5, uV5, uA5⟩) hZ5 (hw _ (List.mem_of_getElem? (i := 206) rfl)) (hw _ (List.mem_of_getElem? (i := 205) rfl)) (by decide) (by decide)) (g := (mkF m 188 #[.val (.long p0), .second, .val (.long p1), .second, iv p2, .val (.long (Int64.ofNat qn)), .second, .val (.long (Int64.ofNat uu)), .second, rv b2, rv ts5, iv (Int32.ofNat ln), .val (.long (Int64.ofNat (own_acc fd ln 6))), .second, .unset, .unset] [(.long (Int64.ofNat (own_acc fd ln 6))), (.int (7 : Int32)), (.ref ts5)])) rfl (by rw [hml]; rfl) (argsL := [(.ref ts5), (.int (7 : Int32)), (.long (Int64.ofNat (own_acc fd ln 6)))]) (rest := []) (lenOf pd_26 rfl) rfl (by show 2 * 0 + _ ≤ _; exact Nat.le_of_eq rfl) (hb hby at_188) (fun _ _ => ⟨rfl, eh23, (by decide : 9 + 0 ≤ _), (by decide : 63 + 0 ≤ _)⟩)
      dsimp only [Pt.U, Pt.locs, Pt.cells, Pt.slots] at X24 l24 y24 z24 st24 hQ24
      subst l24 y24 z24
      refine Go.pre st24 ?_
      obtain ⟨rfl, N24q, eh24⟩ := hQ24
      have N24 := Fr.app N23 N24q
      show Go p e below _ (T24.setTop (mkF m 191 #[.val (.long p0), .second, .val (.long p1), .second, iv p2, .val (.long (Int64.ofNat qn)), .second, .val (.long (Int64.ofNat uu)), .second, rv b2, rv ts5, iv (Int32.ofNat ln), .val (.long (Int64.ofNat (own_acc fd ln 6))), .second, .unset, .unset] [(.long (Int64.ofNat (if 7 < ln then own_acc fd ln 6 * 10 + fd 7 else own_acc fd ln 6)))]))
      rw [show (if 7 < ln then own_acc fd ln 6 * 10 + fd 7 else own_acc fd ln 6) = own_acc fd ln 7 from rfl]
      show Go p e below _ (T24.setTop (mkF m 191 #[.val (.long p0), .second, .val (.long p1), .second, iv p2, .val (.long (Int64.ofNat qn)), .second, .val (.long (Int64.ofNat uu)), .second, rv b2, rv ts5, iv (Int32.ofNat ln), .val (.long (Int64.ofNat (own_acc fd ln 6))), .second, .unset, .unset] [(.long (Int64.ofNat (own_acc fd ln 7)))]))
      refine Go.pre (fun _ k => XS.lstore X24.here hx rfl (hb hby at_191) rfl (l' := #[.val (.long p0), .second, .val (.long p1), .second, iv p2, .val (.long (Int64.ofNat qn)), .second, .val (.long (Int64.ofNat uu)), .second, rv b2, rv ts5, iv (Int32.ofNat ln), .val (.long (Int64.ofNat (own_acc fd ln 7))), .second, .unset, .unset]) rfl k) ?_
      show Go p e below _ (T24.setTop (mkF m 193 #[.val (.long p0), .second, .val (.long p1), .second, iv p2, .val (.long (Int64.ofNat qn)), .second, .val (.long (Int64.ofNat uu)), .second, rv b2, rv ts5, iv (Int32.ofNat ln), .val (.long (Int64.ofNat (own_acc fd ln 7))), .second, .unset, .unset] []))
      refine Go.pre (fun _ k => XS.aload X24.here hx rfl (hb hby at_193) rfl rfl k) ?_
      show Go p e below _ (T24.setTop (mkF m 195 #[.val (.long p0), .second, .val (.long p1), .second, iv p2, .val (.long (Int64.ofNat qn)), .second, .val (.long (Int64.ofNat uu)), .second, rv b2, rv ts5, iv (Int32.ofNat ln), .val (.long (Int64.ofNat (own_acc fd ln 7))), .second, .unset, .unset] [(.ref ts5)]))
      refine Go.pre (fun _ k => XS.bipush X24.here hx rfl (hb hby at_195) k) ?_
      show Go p e below _ (T24.setTop (mkF m 197 #[.val (.long p0), .second, .val (.long p1), .second, iv p2, .val (.long (Int64.ofNat qn)), .second, .val (.long (Int64.ofNat uu)), .second, rv b2, rv ts5, iv (Int32.ofNat ln), .val (.long (Int64.ofNat (own_acc fd ln 7))), .second, .unset, .unset] [(.int (8 : Int32)), (.ref ts5)]))
      refine Go.pre (fun _ k => XS.lload X24.here hx rfl (hb hby at_197) rfl k) ?_
      show Go p e below _ (T24.setTop (mkF m 199 #[.val (.long p0), .second, .val (.long p1), .second, iv p2, .val (.long (Int64.ofNat qn)), .second, .val (.long (Int64.ofNat uu)), .second, rv b2, rv ts5, iv (Int32.ofNat ln), .val (.long (Int64.ofNat (own_acc fd ln 7))), .second, .unset, .unset] [(.long (Int64.ofNat (own_acc fd ln 7))), (.int (8 : Int32)), (.ref ts5)]))
      obtain ⟨_, _, ⟨T25, L25, k25, n25⟩, -, X25, ⟨Lc25, hQ25, l25, y25, z25⟩, st25⟩ := Jvm.LawKit.callS X24 hx (y := (⟨"com/example/inferred_grant/inferredgrant/benchmark/SettingRequestUserPinLaw", "step", "(Ljava/lang/String;IJ)J"⟩ : MethodName)) hown5 (mvT hZ5 (hw _ (List.mem_of_getElem? (i := 203) rfl))) (mvT hZ5 (hw _ (List.mem_of_getElem? (i := 204) rfl))) (mvT hZ5 (hw _ (List.mem_of_getElem? (i := 205) rfl))) (mvT hZ5 (hw _ (List.mem_of_getElem? (i := 206) rfl))) (by decide) (backOf (W := 0) (rm_stp l Z a0 hw [] ts5 r5 kr5 us 8 ln fd (own_acc fd ln 7) fm cs T5.heap n0 (Nat.le_trans (Nat.le_trans (Nat.le_trans (Nat.le_trans Z0 E2.1) E3.1) K4.1) K5.1) ((((O.ext E2).ext E3).keep K4 (allS g_b2 all0)).keep K5 all0) SC hcs SF hfm (by omega) (by decide) (by decide) (Nat.lt_of_lt_of_le (own_acc_lt hfd 7) (Nat.le_of_ble_eq_true rfl)) hus ⟨uE5, uC5, uV5, uA5⟩) hZ5 (hw _ (List.mem_of_getElem? (i := 206) rfl)) (hw _ (List.mem_of_getElem? (i := 205) rfl)) (by decide) (by decide)) (g := (mkF m 199 #[.val (.long p0), .second, .val (.long p1), .second, iv p2, .val (.long (Int64.ofNat qn)), .second, .val (.long (Int64.ofNat uu)), .second, rv b2, rv ts5, iv (Int32.ofNat ln), .val (.long (Int64.ofNat (own_acc fd ln 7))), .second, .unset, .unset] [(.long (Int64.ofNat (own_acc fd ln 7))), (.int (8 : Int32)), (.ref ts5)])) rfl (by rw [hml]; rfl) (argsL := [(.ref ts5), (.int (8 : Int32)), (.long (Int64.ofNat (own_acc fd ln 7)))]) (rest := []) (lenOf pd_26 rfl) rfl (by show 2 * 0 + _ ≤ _; exact Nat.le_of_eq rfl) (hb hby at_199) (fun _ _ => ⟨rfl, eh24, (by decide : 9 + 0 ≤ _), (by decide : 63 + 0 ≤ _)⟩)
      dsimp only [Pt.U, Pt.locs, Pt.cells, Pt.slots] at X25 l25 y25 z25 st25 hQ25
      subst l25 y25 z25
      refine Go.pre st25 ?_
      obtain ⟨rfl, N25q, eh25⟩ := hQ25
      have N25 := Fr.app N24 N25q
      show Go p e below _ (T25.setTop (mkF m 202 #[.val (.long p0), .second, .val (.long p1), .second, iv p2, .val (.long (Int64.ofNat qn)), .second, .val (.long (Int64.ofNat uu)), .second, rv b2, rv ts5, iv (Int32.ofNat ln), .val (.long (Int64.ofNat (own_acc fd ln 7))), .second, .unset, .unset] [(.long (Int64.ofNat (if 8 < ln then own_acc fd ln 7 * 10 + fd 8 else own_acc fd ln 7)))]))
      rw [show (if 8 < ln then own_acc fd ln 7 * 10 + fd 8 else own_acc fd ln 7) = own_acc fd ln 8 from rfl]
      show Go p e below _ (T25.setTop (mkF m 202 #[.val (.long p0), .second, .val (.long p1), .second, iv p2, .val (.long (Int64.ofNat qn)), .second, .val (.long (Int64.ofNat uu)), .second, rv b2, rv ts5, iv (Int32.ofNat ln), .val (.long (Int64.ofNat (own_acc fd ln 7))), .second, .unset, .unset] [(.long (Int64.ofNat (own_acc fd ln 8)))]))
      refine Go.pre (fun _ k => XS.lstore X25.here hx rfl (hb hby at_202) rfl (l' := #[.val (.long p0), .second, .val (.long p1), .second, iv p2, .val (.long (Int64.ofNat qn)), .second, .val (.long (Int64.ofNat uu)), .second, rv b2, rv ts5, iv (Int32.ofNat ln), .val (.long (Int64.ofNat (own_acc fd ln 8))), .second, .unset, .unset]) rfl k) ?_
      show Go p e below _ (T25.setTop (mkF m 204 #[.val (.long p0), .second, .val (.long p1), .second, iv p2, .val (.long (Int64.ofNat qn)), .second, .val (.long (Int64.ofNat uu)), .second, rv b2, rv ts5, iv (Int32.ofNat ln), .val (.long (Int64.ofNat (own_acc fd ln 8))), .second, .unset, .unset] []))
      rw [hacc]
      show Go p e below _ (T25.setTop (mkF m 204 #[.val (.long p0), .second, .val (.long p1), .second, iv p2, .val (.long (Int64.ofNat qn)), .second, .val (.long (Int64.ofNat uu)), .second, rv b2, rv ts5, iv (Int32.ofNat ln), .val (.long (Int64.ofNat nu)), .second, .unset, .unset] []))
      refine Go.pre (fun _ k => XS.lload X25.here hx rfl (hb hby at_204) rfl k) ?_
      show Go p e below _ (T25.setTop (mkF m 206 #[.val (.long p0), .second, .val (.long p1), .second, iv p2, .val (.long (Int64.ofNat qn)), .second, .val (.long (Int64.ofNat uu)), .second, rv b2, rv ts5, iv (Int32.ofNat ln), .val (.long (Int64.ofNat nu)), .second, .unset, .unset] [(.long (Int64.ofNat nu))]))
      refine Go.pre (fun _ k => XS.lconst X25.here hx rfl (hb hby at_206) k) ?_
      show Go p e below _ (T25.setTop (mkF m 207 #[.val (.long p0), .second, .val (.long p1), .second, iv p2, .val (.long (Int64.ofNat qn)), .second, .val (.long (Int64.ofNat uu)), .second, rv b2, rv ts5, iv (Int32.ofNat ln), .val (.long (Int64.ofNat nu)), .second, .unset, .unset] [(.long (0 : Int64)), (.long (Int64.ofNat nu))]))
      refine Go.pre (fun _ k => XS.lcmp X25.here hx rfl (hb hby at_207) rfl k) ?_
      show Go p e below _ (T25.setTop (mkF m 208 #[.val (.long p0), .second, .val (.long p1), .second, iv p2, .val (.long (Int64.ofNat qn)), .second, .val (.long (Int64.ofNat uu)), .second, rv b2, rv ts5, iv (Int32.ofNat ln), .val (.long (Int64.ofNat nu)), .second, .unset, .unset] [(.int (lcmpW (Int64.ofNat nu) (0 : Int64)))]))
      refine Go.pre (fun _ k => XS.ifYes X25.here hx rfl (pc0 := 208) (pc' := 213) rfl (hb hby at_208) rfl ((if0 _ _).trans (flt (own_ltF (own_nlneg (by omega)))).2.1) (by decide) (by decide) k) ?_
      show Go p e below _ (T25.setTop (mkF m 213 #[.val (.long p0), .second, .val (.long p1), .second, iv p2, .val (.long (Int64.ofNat qn)), .second, .val (.long (Int64.ofNat uu)), .second, rv b2, rv ts5, iv (Int32.ofNat ln), .val (.long (Int64.ofNat nu)), .second, .unset, .unset] []))
      refine Go.pre (X25.ldc2Long hx hown5 (mvT hZ5 (hw _ (List.mem_of_getElem? (i := 208) rfl))) (g := (mkF m 213 #[.val (.long p0), .second, .val (.long p1), .second, iv p2, .val (.long (Int64.ofNat qn)), .second, .val (.long (Int64.ofNat uu)), .second, rv b2, rv ts5, iv (Int32.ofNat ln), .val (.long (Int64.ofNat nu)), .second, .unset, .unset] [])) rfl (hb hby at_213)) ?_
      show Go p e below _ (T25.setTop (mkF m 216 #[.val (.long p0), .second, .val (.long p1), .second, iv p2, .val (.long (Int64.ofNat qn)), .second, .val (.long (Int64.ofNat uu)), .second, rv b2, rv ts5, iv (Int32.ofNat ln), .val (.long (Int64.ofNat nu)), .second, .unset, .unset] [(.long (7919 : Int64))]))
      refine Go.pre (fun _ k => XS.lload X25.here hx rfl (hb hby at_216) rfl k) ?_
      show Go p e below _ (T25.setTop (mkF m 218 #[.val (.long p0), .second, .val (.long p1), .second, iv p2, .val (.long (Int64.ofNat qn)), .second, .val (.long (Int64.ofNat uu)), .second, rv b2, rv ts5, iv (Int32.ofNat ln), .val (.long (Int64.ofNat nu)), .second, .unset, .unset] [(.long (Int64.ofNat qn)), (.long (7919 : Int64))]))
      refine Go.pre (fun _ k => XS.lmul X25.here hx rfl (hb hby at_218) rfl k) ?_
      show Go p e below _ (T25.setTop (mkF m 219 #[.val (.long p0), .second, .val (.long p1), .second, iv p2, .val (.long (Int64.ofNat qn)), .second, .val (.long (Int64.ofNat uu)), .second, rv b2, rv ts5, iv (Int32.ofNat ln), .val (.long (Int64.ofNat nu)), .second, .unset, .unset] [(.long ((Int64.ofNat 7919) * (Int64.ofNat qn)))]))
      rw [own_lmul]
      show Go p e below _ (T25.setTop (mkF m 219 #[.val (.long p0), .second, .val (.long p1), .second, iv p2, .val (.long (Int64.ofNat qn)), .second, .val (.long (Int64.ofNat uu)), .second, rv b2, rv ts5, iv (Int32.ofNat ln), .val (.long (Int64.ofNat nu)), .second, .unset, .unset] [(.long (Int64.ofNat (7919 * qn)))]))
      refine Go.pre (fun _ k => XS.lstore X25.here hx rfl (hb hby at_219) rfl (l' := #[.val (.long p0), .second, .val (.long p1), .second, iv p2, .val (.long (Int64.ofNat qn)), .second, .val (.long (Int64.ofNat uu)), .second, rv b2, rv ts5, iv (Int32.ofNat ln), .val (.long (Int64.ofNat nu)), .second, .val (.long (Int64.ofNat (7919 * qn))), .second]) rfl k) ?_
      show Go p e below _ (T25.setTop (mkF m 221 #[.val (.long p0), .second, .val (.long p1), .second, iv p2, .val (.long (Int64.ofNat qn)), .second, .val (.long (Int64.ofNat uu)), .second, rv b2, rv ts5, iv (Int32.ofNat ln), .val (.long (Int64.ofNat nu)), .second, .val (.long (Int64.ofNat (7919 * qn))), .second] []))
      refine Go.pre (fun _ k => XS.lload X25.here hx rfl (hb hby at_221) rfl k) ?_
      show Go p e below _ (T25.setTop (mkF m 223 #[.val (.long p0), .second, .val (.long p1), .second, iv p2, .val (.long (Int64.ofNat qn)), .second, .val (.long (Int64.ofNat uu)), .second, rv b2, rv ts5, iv (Int32.ofNat ln), .val (.long (Int64.ofNat nu)), .second, .val (.long (Int64.ofNat (7919 * qn))), .second] [(.long (Int64.ofNat nu))]))
      refine Go.pre (fun _ k => XS.lload X25.here hx rfl (hb hby at_223) rfl k) ?_
      show Go p e below _ (T25.setTop (mkF m 225 #[.val (.long p0), .second, .val (.long p1), .second, iv p2, .val (.long (Int64.ofNat qn)), .second, .val (.long (Int64.ofNat uu)), .second, rv b2, rv ts5, iv (Int32.ofNat ln), .val (.long (Int64.ofNat nu)), .second, .val (.long (Int64.ofNat (7919 * qn))), .second] [(.long (Int64.ofNat uu)), (.long (Int64.ofNat nu))]))
      refine Go.pre (fun _ k => XS.lcmp X25.here hx rfl (hb hby at_225) rfl k) ?_
      show Go p e below _ (T25.setTop (mkF m 226 #[.val (.long p0), .second, .val (.long p1), .second, iv p2, .val (.long (Int64.ofNat qn)), .second, .val (.long (Int64.ofNat uu)), .second, rv b2, rv ts5, iv (Int32.ofNat ln), .val (.long (Int64.ofNat nu)), .second, .val (.long (Int64.ofNat (7919 * qn))), .second] [(.int (lcmpW (Int64.ofNat nu) (Int64.ofNat uu)))]))
      refine Go.pre (fun _ k => XS.ifNo X25.here hx rfl (hb hby at_226) rfl ((if0 _ _).trans (tlt (own_ltT ((own_ll (by omega) (by omega)).mpr hlt))).2.1) k) ?_
      show Go p e below _ (T25.setTop (mkF m 229 #[.val (.long p0), .second, .val (.long p1), .second, iv p2, .val (.long (Int64.ofNat qn)), .second, .val (.long (Int64.ofNat uu)), .second, rv b2, rv ts5, iv (Int32.ofNat ln), .val (.long (Int64.ofNat nu)), .second, .val (.long (Int64.ofNat (7919 * qn))), .second] []))
      refine Go.pre (fun _ k => XS.lload X25.here hx rfl (hb hby at_229) rfl k) ?_
      show Go p e below _ (T25.setTop (mkF m 231 #[.val (.long p0), .second, .val (.long p1), .second, iv p2, .val (.long (Int64.ofNat qn)), .second, .val (.long (Int64.ofNat uu)), .second, rv b2, rv ts5, iv (Int32.ofNat ln), .val (.long (Int64.ofNat nu)), .second, .val (.long (Int64.ofNat (7919 * qn))), .second] [(.long (Int64.ofNat (7919 * qn)))]))
      refine Go.pre (fun _ k => XS.lload X25.here hx rfl (hb hby at_231) rfl k) ?_
      show Go p e below _ (T25.setTop (mkF m 233 #[.val (.long p0), .second, .val (.long p1), .second, iv p2, .val (.long (Int64.ofNat qn)), .second, .val (.long (Int64.ofNat uu)), .second, rv b2, rv ts5, iv (Int32.ofNat ln), .val (.long (Int64.ofNat nu)), .second, .val (.long (Int64.ofNat (7919 * qn))), .second] [(.long (Int64.ofNat nu)), (.long (Int64.ofNat (7919 * qn)))]))
      refine Go.pre (fun _ k => XS.lsub X25.here hx rfl (hb hby at_233) rfl k) ?_
      show Go p e below _ (T25.setTop (mkF m 234 #[.val (.long p0), .second, .val (.long p1), .second, iv p2, .val (.long (Int64.ofNat qn)), .second, .val (.long (Int64.ofNat uu)), .second, rv b2, rv ts5, iv (Int32.ofNat ln), .val (.long (Int64.ofNat nu)), .second, .val (.long (Int64.ofNat (7919 * qn))), .second] [(.long ((Int64.ofNat (7919 * qn)) - (Int64.ofNat nu)))]))
      rw [own_lsub hle]
      show Go p e below _ (T25.setTop (mkF m 234 #[.val (.long p0), .second, .val (.long p1), .second, iv p2, .val (.long (Int64.ofNat qn)), .second, .val (.long (Int64.ofNat uu)), .second, rv b2, rv ts5, iv (Int32.ofNat ln), .val (.long (Int64.ofNat nu)), .second, .val (.long (Int64.ofNat (7919 * qn))), .second] [(.long (Int64.ofNat (7919 * qn - nu)))]))
      refine Go.pre (fun _ k => XS.lload X25.here hx rfl (hb hby at_234) rfl k) ?_
      show Go p e below _ (T25.setTop (mkF m 236 #[.val (.long p0), .second, .val (.long p1), .second, iv p2, .val (.long (Int64.ofNat qn)), .second, .val (.long (Int64.ofNat uu)), .second, rv b2, rv ts5, iv (Int32.ofNat ln), .val (.long (Int64.ofNat nu)), .second, .val (.long (Int64.ofNat (7919 * qn))), .second] [(.long (Int64.ofNat uu)), (.long (Int64.ofNat (7919 * qn - nu)))]))
      refine Go.pre (fun _ k => XS.lrem X25.here hx rfl (hb hby at_236) rfl (own_lnz hu0 hu1) k) ?_
      show Go p e below _ (T25.setTop (mkF m 237 #[.val (.long p0), .second, .val (.long p1), .second, iv p2, .val (.long (Int64.ofNat qn)), .second, .val (.long (Int64.ofNat uu)), .second, rv b2, rv ts5, iv (Int32.ofNat ln), .val (.long (Int64.ofNat nu)), .second, .val (.long (Int64.ofNat (7919 * qn))), .second] [(.long ((Int64.ofNat (7919 * qn - nu)) - (Int64.ofNat (7919 * qn - nu)) / (Int64.ofNat uu) * (Int64.ofNat uu)))]))
      rw [own_lrem (by omega) hu1, hz0]
      show Go p e below _ (T25.setTop (mkF m 237 #[.val (.long p0), .second, .val (.long p1), .second, iv p2, .val (.long (Int64.ofNat qn)), .second, .val (.long (Int64.ofNat uu)), .second, rv b2, rv ts5, iv (Int32.ofNat ln), .val (.long (Int64.ofNat nu)), .second, .val (.long (Int64.ofNat (7919 * qn))), .second] [(.long (0 : Int64))]))
      refine Go.pre (fun _ k => XS.lconst X25.here hx rfl (hb hby at_237) k) ?_
      show Go p e below _ (T25.setTop (mkF m 238 #[.val (.long p0), .second, .val (.long p1), .second, iv p2, .val (.long (Int64.ofNat qn)), .second, .val (.long (Int64.ofNat uu)), .second, rv b2, rv ts5, iv (Int32.ofNat ln), .val (.long (Int64.ofNat nu)), .second, .val (.long (Int64.ofNat (7919 * qn))), .second] [(.long (0 : Int64)), (.long (0 : Int64))]))
      refine Go.pre (fun _ k => XS.lcmp X25.here hx rfl (hb hby at_238) rfl k) ?_
      show Go p e below _ (T25.setTop (mkF m 239 #[.val (.long p0), .second, .val (.long p1), .second, iv p2, .val (.long (Int64.ofNat qn)), .second, .val (.long (Int64.ofNat uu)), .second, rv b2, rv ts5, iv (Int32.ofNat ln), .val (.long (Int64.ofNat nu)), .second, .val (.long (Int64.ofNat (7919 * qn))), .second] [(.int (lcmpW (0 : Int64) (0 : Int64)))]))
      refine Go.pre (fun _ k => XS.ifNo X25.here hx rfl (hb hby at_239) rfl ((if0 _ _).trans (teq (own_eqT (by decide : (0 : Int64) = (0 : Int64)))).2) k) ?_
      show Go p e below _ (T25.setTop (mkF m 242 #[.val (.long p0), .second, .val (.long p1), .second, iv p2, .val (.long (Int64.ofNat qn)), .second, .val (.long (Int64.ofNat uu)), .second, rv b2, rv ts5, iv (Int32.ofNat ln), .val (.long (Int64.ofNat nu)), .second, .val (.long (Int64.ofNat (7919 * qn))), .second] []))
      refine Go.pre (fun _ k => XS.iconst X25.here hx rfl (hb hby at_242) k) ?_
      show Go p e below _ (T25.setTop (mkF m 243 #[.val (.long p0), .second, .val (.long p1), .second, iv p2, .val (.long (Int64.ofNat qn)), .second, .val (.long (Int64.ofNat uu)), .second, rv b2, rv ts5, iv (Int32.ofNat ln), .val (.long (Int64.ofNat nu)), .second, .val (.long (Int64.ofNat (7919 * qn))), .second] [(.int (1 : Int32))]))
      refine Go.pre (fun _ k => XS.goto X25.here hx rfl (pc0 := 243) (pc' := 247) rfl (hb hby at_243) (by decide) (by decide) k) ?_
      show Go p e below _ (T25.setTop (mkF m 247 #[.val (.long p0), .second, .val (.long p1), .second, iv p2, .val (.long (Int64.ofNat qn)), .second, .val (.long (Int64.ofNat uu)), .second, rv b2, rv ts5, iv (Int32.ofNat ln), .val (.long (Int64.ofNat nu)), .second, .val (.long (Int64.ofNat (7919 * qn))), .second] [(.int (1 : Int32))]))
      have hkf : T5.heap.size ≤ T25.heap.size := by rw [show T25.heap = T5.heap from eh25]; exact (Nat.le_refl T5.heap.size)
      obtain ⟨fs, hr, hrun, hended, hRE⟩ := Stand.leaveW (s := s) (vm₁ := T5.vm) X25 hS5 hkf (v := some (.int (1 : Int32))) (fun h => by rw [Bd.returns] at h; cases h)
      have CRf := CR5.trans (CHv.at (s := s) (vm0 := T5.vm) X25 hZ5 hEL CR5.1)
      refine Go.fin (retN X25 hx (t := .boolean) Bd.returns (by simp) (hb hby at_247) hr) ⟨hrun, hended, _, _, rfl, ?_, ?_, hRE.1, hRE.2.1, hRE.2.2.1, hRE.2.2.2.mono (by decide) (by decide)⟩
      · skip
        exact ⟨rfl, N25⟩
      · rw [hh]
        show CHr Z EL s.vm h0 T25.vm T25.heap
        rw [show T25.heap = T5.heap from eh25]
        exact CRf
  · skip
    refine Go.pre (fun _ k => XS.ifNo X0.here hx rfl (hb hby at_15) rfl ((if0 _ _).trans (feq hc15_1).1) k) ?_
    show Go p e below _ (s₁.setTop (mkF m 18 #[.val (.long p0), .second, .val (.long p1), .second, iv p2, .val (.long (Int64.ofNat qn)), .second, .unset, .unset, .unset, .unset, .unset, .unset, .unset, .unset, .unset] []))
    refine Go.pre (fun _ k => XS.lconst X0.here hx rfl (hb hby at_18) k) ?_
    show Go p e below _ (s₁.setTop (mkF m 19 #[.val (.long p0), .second, .val (.long p1), .second, iv p2, .val (.long (Int64.ofNat qn)), .second, .unset, .unset, .unset, .unset, .unset, .unset, .unset, .unset, .unset] [(.long (1 : Int64))]))
    refine Go.pre (fun _ k => XS.lloadN X0.here hx rfl (hb hby at_19) rfl k) ?_
    show Go p e below _ (s₁.setTop (mkF m 20 #[.val (.long p0), .second, .val (.long p1), .second, iv p2, .val (.long (Int64.ofNat qn)), .second, .unset, .unset, .unset, .unset, .unset, .unset, .unset, .unset, .unset] [(.long p1), (.long (1 : Int64))]))
    refine Go.pre (X0.ldc2Long hx hown (mvT hZ (hw _ (List.mem_of_getElem? (i := 209) rfl))) (g := (mkF m 20 #[.val (.long p0), .second, .val (.long p1), .second, iv p2, .val (.long (Int64.ofNat qn)), .second, .unset, .unset, .unset, .unset, .unset, .unset, .unset, .unset, .unset] [(.long p1), (.long (1 : Int64))])) rfl (hb hby at_20)) ?_
    show Go p e below _ (s₁.setTop (mkF m 23 #[.val (.long p0), .second, .val (.long p1), .second, iv p2, .val (.long (Int64.ofNat qn)), .second, .unset, .unset, .unset, .unset, .unset, .unset, .unset, .unset, .unset] [(.long (16777215 : Int64)), (.long p1), (.long (1 : Int64))]))
    refine Go.pre (fun _ k => XS.land X0.here hx rfl (hb hby at_23) rfl k) ?_
    show Go p e below _ (s₁.setTop (mkF m 24 #[.val (.long p0), .second, .val (.long p1), .second, iv p2, .val (.long (Int64.ofNat qn)), .second, .unset, .unset, .unset, .unset, .unset, .unset, .unset, .unset, .unset] [(.long (p1 &&& (16777215 : Int64))), (.long (1 : Int64))]))
    refine Go.pre (fun _ k => XS.ladd X0.here hx rfl (hb hby at_24) rfl k) ?_
    show Go p e below _ (s₁.setTop (mkF m 25 #[.val (.long p0), .second, .val (.long p1), .second, iv p2, .val (.long (Int64.ofNat qn)), .second, .unset, .unset, .unset, .unset, .unset, .unset, .unset, .unset, .unset] [(.long ((1 : Int64) + (p1 &&& (16777215 : Int64))))]))
    refine Go.pre (fun _ k => XS.goto X0.here hx rfl (pc0 := 25) (pc' := 35) rfl (hb hby at_25) (by decide) (by decide) k) ?_
    show Go p e below _ (s₁.setTop (mkF m 35 #[.val (.long p0), .second, .val (.long p1), .second, iv p2, .val (.long (Int64.ofNat qn)), .second, .unset, .unset, .unset, .unset, .unset, .unset, .unset, .unset, .unset] [(.long ((1 : Int64) + (p1 &&& (16777215 : Int64))))]))
    obtain ⟨cu, hcu, ec⟩ := own_m24 p1
    rw [ec]
    show Go p e below _ (s₁.setTop (mkF m 35 #[.val (.long p0), .second, .val (.long p1), .second, iv p2, .val (.long (Int64.ofNat qn)), .second, .unset, .unset, .unset, .unset, .unset, .unset, .unset, .unset, .unset] [(.long ((Int64.ofNat 1) + (Int64.ofNat cu)))]))
    rw [own_ladd]
    obtain ⟨uu, huu⟩ : ∃ z, z = 1 + cu := ⟨_, rfl⟩
    rw [← huu]
    have hu0 : 0 < uu := by omega
    have hu1 : uu < 2 ^ 63 := by omega
    obtain ⟨nu, hnu⟩ : ∃ z, z = 7919 * qn % uu := ⟨_, rfl⟩
    have hn : nu < 100000000 := by have := Nat.mod_le (7919 * qn) uu; omega
    have hle : nu ≤ 7919 * qn := by rw [hnu]; exact Nat.mod_le _ _
    have hlt : nu < uu := by rw [hnu]; exact Nat.mod_lt _ hu0
    have hz0 : (7919 * qn - nu) % uu = 0 := by rw [hnu]; exact own_mod_sub _ _
    show Go p e below _ (s₁.setTop (mkF m 35 #[.val (.long p0), .second, .val (.long p1), .second, iv p2, .val (.long (Int64.ofNat qn)), .second, .unset, .unset, .unset, .unset, .unset, .unset, .unset, .unset, .unset] [(.long (Int64.ofNat uu))]))
    refine Go.pre (fun _ k => XS.lstore X0.here hx rfl (hb hby at_35) rfl (l' := #[.val (.long p0), .second, .val (.long p1), .second, iv p2, .val (.long (Int64.ofNat qn)), .second, .val (.long (Int64.ofNat uu)), .second, .unset, .unset, .unset, .unset, .unset, .unset, .unset]) rfl k) ?_
    show Go p e below _ (s₁.setTop (mkF m 37 #[.val (.long p0), .second, .val (.long p1), .second, iv p2, .val (.long (Int64.ofNat qn)), .second, .val (.long (Int64.ofNat uu)), .second, .unset, .unset, .unset, .unset, .unset, .unset, .unset] []))
    obtain ⟨T26, h26, X26, e26, E26, A26, D26, U26, st26⟩ := newO X0 hx hZ hown (hw _ (List.mem_of_getElem? (i := 3) rfl)) (hw _ (List.mem_of_getElem? (i := 4) rfl)) (hw _ (List.mem_of_getElem? (i := 5) rfl)) e0 (g := (mkF m 37 #[.val (.long p0), .second, .val (.long p1), .second, iv p2, .val (.long (Int64.ofNat qn)), .second, .val (.long (Int64.ofNat uu)), .second, .unset, .unset, .unset, .unset, .unset, .unset, .unset] [])) rfl (hb hby at_37) (by decide) (by decide)
    obtain ⟨b26, q26⟩ : ∃ z, z = h0.size := ⟨_, rfl⟩
    rw [← q26] at A26 D26 st26
    have g_b26 : n0 ≤ b26 := Nat.le_trans Z0 (Nat.le_of_eq q26.symm)
    have sz_b26 : h0.size ≤ b26 := Nat.le_trans (Keep.refl h0 []).1 (Nat.le_of_eq q26.symm)
    refine Go.pre st26 ?_
    have KC26 : Keep h0 h26 [] := (Keep.refl h0 []).ext E26
    have CR26 := CR0.trans (CHr.ext E26 CR0.1)
    have F_name_b26 : Fld Z h26 b26 "com/example/inferred_grant/inferredgrant/benchmark/Setting" "name" "Ljava/lang/String;" .null := D26 (Or.inr (hw _ (List.mem_of_getElem? (i := 21) rfl))) (ty := (.object "java/lang/String")) (by decide)
    have F_roles_b26 : Fld Z h26 b26 "com/example/inferred_grant/inferredgrant/benchmark/Setting" "roles" "J" (.long (0 : Int64)) := D26 (Or.inr (hw _ (List.mem_of_getElem? (i := 23) rfl))) (ty := .long) (by decide)
    have F_classes_b26 : Fld Z h26 b26 "com/example/inferred_grant/inferredgrant/benchmark/Setting" "classes" "J" (.long (0 : Int64)) := D26 (Or.inr (hw _ (List.mem_of_getElem? (i := 25) rfl))) (ty := .long) (by decide)
    have F_users_b26 : Fld Z h26 b26 "com/example/inferred_grant/inferredgrant/benchmark/Setting" "users" "J" (.long (0 : Int64)) := D26 (Or.inr (hw _ (List.mem_of_getElem? (i := 27) rfl))) (ty := .long) (by decide)
    have F_objects_b26 : Fld Z h26 b26 "com/example/inferred_grant/inferredgrant/benchmark/Setting" "objects" "J" (.long (0 : Int64)) := D26 (Or.inr (hw _ (List.mem_of_getElem? (i := 29) rfl))) (ty := .long) (by decide)
    have F_grants_b26 : Fld Z h26 b26 "com/example/inferred_grant/inferredgrant/benchmark/Setting" "grants" "J" (.long (0 : Int64)) := D26 (Or.inr (hw _ (List.mem_of_getElem? (i := 31) rfl))) (ty := .long) (by decide)
    have F_permits_b26 : Fld Z h26 b26 "com/example/inferred_grant/inferredgrant/benchmark/Setting" "permits" "I" (.int (0 : Int32)) := D26 (Or.inr (hw _ (List.mem_of_getElem? (i := 33) rfl))) (ty := .int) (by decide)
    have sf_b26 := Safe.exa (EL := EL) hZ.alike A26 (by decide) (by decide)
    show Go p e below _ (T26.setTop (mkF m 40 #[.val (.long p0), .second, .val (.long p1), .second, iv p2, .val (.long (Int64.ofNat qn)), .second, .val (.long (Int64.ofNat uu)), .second, .unset, .unset, .unset, .unset, .unset, .unset, .unset] [(.ref b26)]))
    refine Go.pre (fun _ k => XS.dup X26.here hx rfl (hb hby at_40) rfl rfl k) ?_
    show Go p e below _ (T26.setTop (mkF m 41 #[.val (.long p0), .second, .val (.long p1), .second, iv p2, .val (.long (Int64.ofNat qn)), .second, .val (.long (Int64.ofNat uu)), .second, .unset, .unset, .unset, .unset, .unset, .unset, .unset] [(.ref b26), (.ref b26)]))
    obtain ⟨sa27, T27, h27, k27', X27, e27, E27, hS27, hk27, hZ27, hown27, C27, -, st27⟩ := ldcOH (s := s) (vm0 := s.vm) X26 hx hZ hown (hw _ (List.mem_of_getElem? (i := 6) rfl)) (fun d hd => hw d (own_sat d hd)) e26 (k0 := 0) ((State.WarmedH.refl s).since 0) (Nat.zero_le _) hEL CR26.1 (g := (mkF m 41 #[.val (.long p0), .second, .val (.long p1), .second, iv p2, .val (.long (Int64.ofNat qn)), .second, .val (.long (Int64.ofNat uu)), .second, .unset, .unset, .unset, .unset, .unset, .unset, .unset] [(.ref b26), (.ref b26)])) rfl (hb hby at_41) (n := 4) (by decide) (by decide) (by decide) (by decide)
    refine Go.pre st27 ?_
    have KC27 : Keep h0 h27 [] := KC26.ext E27
    have CR27 := CR26.trans C27
    have sf_b26_27 := C27.safe A26.lt sf_b26
    show Go p e below _ (T27.setTop (mkF m 43 #[.val (.long p0), .second, .val (.long p1), .second, iv p2, .val (.long (Int64.ofNat qn)), .second, .val (.long (Int64.ofNat uu)), .second, .unset, .unset, .unset, .unset, .unset, .unset, .unset] [(.ref sa27), (.ref b26), (.ref b26)]))
    refine Go.pre (fun _ k => XS.lconst X27.here hx rfl (hb hby at_43) k) ?_
    show Go p e below _ (T27.setTop (mkF m 44 #[.val (.long p0), .second, .val (.long p1), .second, iv p2, .val (.long (Int64.ofNat qn)), .second, .val (.long (Int64.ofNat uu)), .second, .unset, .unset, .unset, .unset, .unset, .unset, .unset] [(.long (1 : Int64)), (.ref sa27), (.ref b26), (.ref b26)]))
    refine Go.pre (fun _ k => XS.lconst X27.here hx rfl (hb hby at_44) k) ?_
    show Go p e below _ (T27.setTop (mkF m 45 #[.val (.long p0), .second, .val (.long p1), .second, iv p2, .val (.long (Int64.ofNat qn)), .second, .val (.long (Int64.ofNat uu)), .second, .unset, .unset, .unset, .unset, .unset, .unset, .unset] [(.long (1 : Int64)), (.long (1 : Int64)), (.ref sa27), (.ref b26), (.ref b26)]))
    refine Go.pre (fun _ k => XS.lload X27.here hx rfl (hb hby at_45) rfl k) ?_
    show Go p e below _ (T27.setTop (mkF m 47 #[.val (.long p0), .second, .val (.long p1), .second, iv p2, .val (.long (Int64.ofNat qn)), .second, .val (.long (Int64.ofNat uu)), .second, .unset, .unset, .unset, .unset, .unset, .unset, .unset] [(.long (Int64.ofNat uu)), (.long (1 : Int64)), (.long (1 : Int64)), (.ref sa27), (.ref b26), (.ref b26)]))
    refine Go.pre (fun _ k => XS.lconst X27.here hx rfl (hb hby at_47) k) ?_
    show Go p e below _ (T27.setTop (mkF m 48 #[.val (.long p0), .second, .val (.long p1), .second, iv p2, .val (.long (Int64.ofNat qn)), .second, .val (.long (Int64.ofNat uu)), .second, .unset, .unset, .unset, .unset, .unset, .unset, .unset] [(.long (1 : Int64)), (.long (Int64.ofNat uu)), (.long (1 : Int64)), (.long (1 : Int64)), (.ref sa27), (.ref b26), (.ref b26)]))
    refine Go.pre (fun _ k => XS.lconst X27.here hx rfl (hb hby at_48) k) ?_
    show Go p e below _ (T27.setTop (mkF m 49 #[.val (.long p0), .second, .val (.long p1), .second, iv p2, .val (.long (Int64.ofNat qn)), .second, .val (.long (Int64.ofNat uu)), .second, .unset, .unset, .unset, .unset, .unset, .unset, .unset] [(.long (1 : Int64)), (.long (1 : Int64)), (.long (Int64.ofNat uu)), (.long (1 : Int64)), (.long (1 : Int64)), (.ref sa27), (.ref b26), (.ref b26)]))
    refine Go.pre (fun _ k => XS.iconst X27.here hx rfl (hb hby at_49) k) ?_
    show Go p e below _ (T27.setTop (mkF m 50 #[.val (.long p0), .second, .val (.long p1), .second, iv p2, .val (.long (Int64.ofNat qn)), .second, .val (.long (Int64.ofNat uu)), .second, .unset, .unset, .unset, .unset, .unset, .unset, .unset] [(.int (0 : Int32)), (.long (1 : Int64)), (.long (1 : Int64)), (.long (Int64.ofNat uu)), (.long (1 : Int64)), (.long (1 : Int64)), (.ref sa27), (.ref b26), (.ref b26)]))
    obtain ⟨_, _, ⟨T28, L28, k28, n28⟩, -, X28, ⟨Lc28, hQ28, l28, y28, z28⟩, st28⟩ := X27.specialBack hx (y := (⟨"com/example/inferred_grant/inferredgrant/benchmark/Setting", "<init>", "(Ljava/lang/String;JJJJJI)V"⟩ : MethodName)) rfl hown27 (mvT hZ27 (hw _ (List.mem_of_getElem? (i := 14) rfl))) (mvT hZ27 (hw _ (List.mem_of_getElem? (i := 15) rfl))) (mvT hZ27 (hw _ (List.mem_of_getElem? (i := 16) rfl))) (by decide) (backOf (W := 1) (rm_sin l Z a0 hw [] b26 sa27 uu h27 n0 (Nat.le_trans (Nat.le_trans Z0 E26.1) E27.1) ((O.ext E26).ext E27) (A26.ext E27) (F_name_b26.ext E27) (F_roles_b26.ext E27) (F_classes_b26.ext E27) (F_users_b26.ext E27) (F_objects_b26.ext E27) (F_grants_b26.ext E27) (F_permits_b26.ext E27) g_b26) hZ27 (hw _ (List.mem_of_getElem? (i := 16) rfl)) (hw _ (List.mem_of_getElem? (i := 5) rfl)) (by decide) (by decide)) (g := (mkF m 50 #[.val (.long p0), .second, .val (.long p1), .second, iv p2, .val (.long (Int64.ofNat qn)), .second, .val (.long (Int64.ofNat uu)), .second, .unset, .unset, .unset, .unset, .unset, .unset, .unset] [(.int (0 : Int32)), (.long (1 : Int64)), (.long (1 : Int64)), (.long (Int64.ofNat uu)), (.long (1 : Int64)), (.long (1 : Int64)), (.ref sa27), (.ref b26), (.ref b26)])) rfl (by rw [hml]; rfl) (Steps.refl _) (a := b26) (argsL := [(.ref sa27), (.long (1 : Int64)), (.long (1 : Int64)), (.long (Int64.ofNat uu)), (.long (1 : Int64)), (.long (1 : Int64)), (.int (0 : Int32))]) (rest := [(.ref b26)]) (lenOf pd_25 rfl) rfl (by show 2 * 0 + _ ≤ _; exact Nat.le_of_eq rfl) (hb hby at_50) (fun _ _ => ⟨rfl, e27, (by decide : 3 + 0 ≤ _), (by decide : 15 + 0 ≤ _)⟩)
    dsimp only [Pt.U, Pt.locs, Pt.cells, Pt.slots] at X28 l28 y28 z28 st28 hQ28
    subst l28 y28 z28
    refine Go.pre (own_cut st28) ?_
    obtain ⟨rfl, N28q, K28, uE28, uU28⟩ := hQ28
    have N28 := Fr.app N0 N28q
    have KC28 : Keep h0 T28.heap [] := KC27.trans K28 (allS (Or.inr sz_b26) all0)
    have hs28 := ((sfS sf_b26_27 sf0) : ∀ x ∈ [b26], Safe Z EL _ _ x)
    have CR28 := CR27.trans (CHr.keep K28 hs28 CR27.1)
    have sf_b26_28 := Safe.keep K28 hs28 CR27.1 sf_b26_27
    show Go p e below _ (T28.setTop (mkF m 53 #[.val (.long p0), .second, .val (.long p1), .second, iv p2, .val (.long (Int64.ofNat qn)), .second, .val (.long (Int64.ofNat uu)), .second, .unset, .unset, .unset, .unset, .unset, .unset, .unset] [(.ref b26)]))
    refine Go.pre (fun _ k => XS.astore X28.here hx rfl (hb hby at_53) rfl rfl (l' := #[.val (.long p0), .second, .val (.long p1), .second, iv p2, .val (.long (Int64.ofNat qn)), .second, .val (.long (Int64.ofNat uu)), .second, rv b26, .unset, .unset, .unset, .unset, .unset, .unset]) rfl k) ?_
    show Go p e below _ (T28.setTop (mkF m 55 #[.val (.long p0), .second, .val (.long p1), .second, iv p2, .val (.long (Int64.ofNat qn)), .second, .val (.long (Int64.ofNat uu)), .second, rv b26, .unset, .unset, .unset, .unset, .unset, .unset] []))
    refine Go.pre (fun _ k => XS.aload X28.here hx rfl (hb hby at_55) rfl rfl k) ?_
    show Go p e below _ (T28.setTop (mkF m 57 #[.val (.long p0), .second, .val (.long p1), .second, iv p2, .val (.long (Int64.ofNat qn)), .second, .val (.long (Int64.ofNat uu)), .second, rv b26, .unset, .unset, .unset, .unset, .unset, .unset] [(.ref b26)]))
    refine Go.pre (fun _ k => XS.lload X28.here hx rfl (hb hby at_57) rfl k) ?_
    show Go p e below _ (T28.setTop (mkF m 59 #[.val (.long p0), .second, .val (.long p1), .second, iv p2, .val (.long (Int64.ofNat qn)), .second, .val (.long (Int64.ofNat uu)), .second, rv b26, .unset, .unset, .unset, .unset, .unset, .unset] [(.long (Int64.ofNat qn)), (.ref b26)]))
    have hkb29 : k27' ≤ T28.heap.size := by rw [show T28.heap = T28.heap from rfl]; exact (Nat.le_trans hk27 K28.1)
    obtain ⟨cq29, kq29, q29a, q29b, q29c⟩ := isOf hZ27 rfl uE28
    obtain ⟨_, _, ⟨T29, L29, k29, n29⟩, -, Xa29, hSa29, hle29, ⟨Lc29, hQ29, l29, y29, z29, C29⟩, st29⟩ := X28.virtualBackS hx (y := (⟨"com/example/inferred_grant/inferredgrant/benchmark/Setting", "requestUser", "(J)Ljava/lang/String;"⟩ : MethodName)) (z := (⟨"com/example/inferred_grant/inferredgrant/benchmark/Setting", "requestUser", "(J)Ljava/lang/String;"⟩ : MethodName)) hown27 (mvT hZ27 (hw _ (List.mem_of_getElem? (i := 34) rfl))) (mvT hZ27 (hw _ (List.mem_of_getElem? (i := 35) rfl))) (notFace_of_selects (args := #[]) (mvT hZ27 (hw _ (List.mem_of_getElem? (i := 37) rfl)))) (mvT hZ27 (hw _ (List.mem_of_getElem? (i := 37) rfl))) (mvT hZ27 (hw _ (List.mem_of_getElem? (i := 36) rfl))) (by decide) (backOfSH (s := s) (vm0 := T27.vm) (W := 0) (rm_rus l Z a0 hw [] b26 qn uu nu d1a d10a cs T28.heap n0 (Nat.le_trans (Nat.le_trans (Nat.le_trans Z0 E26.1) E27.1) K28.1) (((O.ext E26).ext E27).keep K28 (allS g_b26 all0)) SC hcs SD1 G1 SD10 G10 hEL hq hu0 hu1 hnu uE28 uU28) hZ27 (hw _ (List.mem_of_getElem? (i := 38) rfl)) (hw _ (List.mem_of_getElem? (i := 5) rfl)) (by decide) (by decide) hEL CR28.1) q29a q29c (g := (mkF m 59 #[.val (.long p0), .second, .val (.long p1), .second, iv p2, .val (.long (Int64.ofNat qn)), .second, .val (.long (Int64.ofNat uu)), .second, rv b26, .unset, .unset, .unset, .unset, .unset, .unset] [(.long (Int64.ofNat qn)), (.ref b26)])) rfl (by rw [hml]; rfl) (Steps.refl _) (argsL := [(.long (Int64.ofNat qn))]) (rest := []) (lenOf pd_24 rfl) rfl (by show 2 * 0 + _ ≤ _; exact Nat.le_of_eq rfl) (hb hby at_59) (fun _ _ => ⟨rfl, rfl, (by decide : 3 + 6 ≤ _), (by decide : 15 + 48 ≤ _)⟩)
    dsimp only [Pt.U, Pt.locs, Pt.cells, Pt.slots] at Xa29 hSa29 hle29 l29 y29 z29 st29 hQ29 C29
    subst l29 y29 z29
    obtain ⟨X29, hS29, hZ29, hown29⟩ := rebS (s := s) (vm0 := T27.vm) hS27 hkb29 Xa29 hSa29 hle29 hZ27 hown27
    refine Go.pre (own_cut st29) ?_
    obtain ⟨ts29, r29, kr29, rfl, N29q, K29, z29', S29⟩ := hQ29
    have N29 := Fr.app N28 N29q
    have KC29 : Keep h0 T29.heap [] := KC28.trans K29 all0
    have CR29 := CR28.trans C29
    obtain ⟨ln, fd, us, S29, hl2, hl9, hus0, hus, hfd, hfd1, hacc⟩ := own_read hn S29
    obtain ⟨uE29, uC29, uV29, uA29⟩ := S29
    have g_ts29 : n0 ≤ ts29 := Nat.le_trans (Nat.le_trans (Nat.le_trans (Nat.le_trans Z0 E26.1) E27.1) K28.1) z29'
    have sz_ts29 : h0.size ≤ ts29 := Nat.le_trans KC28.1 z29'
    show Go p e below _ (T29.setTop (mkF m 62 #[.val (.long p0), .second, .val (.long p1), .second, iv p2, .val (.long (Int64.ofNat qn)), .second, .val (.long (Int64.ofNat uu)), .second, rv b26, .unset, .unset, .unset, .unset, .unset, .unset] [(.ref ts29)]))
    refine Go.pre (fun _ k => XS.astore X29.here hx rfl (hb hby at_62) rfl rfl (l' := #[.val (.long p0), .second, .val (.long p1), .second, iv p2, .val (.long (Int64.ofNat qn)), .second, .val (.long (Int64.ofNat uu)), .second, rv b26, rv ts29, .unset, .unset, .unset, .unset, .unset]) rfl k) ?_
    show Go p e below _ (T29.setTop (mkF m 64 #[.val (.long p0), .second, .val (.long p1), .second, iv p2, .val (.long (Int64.ofNat qn)), .second, .val (.long (Int64.ofNat uu)), .second, rv b26, rv ts29, .unset, .unset, .unset, .unset, .unset] []))
    refine Go.pre (fun _ k => XS.aload X29.here hx rfl (hb hby at_64) rfl rfl k) ?_
    show Go p e below _ (T29.setTop (mkF m 66 #[.val (.long p0), .second, .val (.long p1), .second, iv p2, .val (.long (Int64.ofNat qn)), .second, .val (.long (Int64.ofNat uu)), .second, rv b26, rv ts29, .unset, .unset, .unset, .unset, .unset] [(.ref ts29)]))
    obtain ⟨cq30, kq30, q30a, q30b, q30c⟩ := isOf hZ29 rfl uE29
    obtain ⟨_, _, ⟨T30, L30, k30, n30⟩, -, X30, ⟨Lc30, hQ30, l30, y30, z30⟩, st30⟩ := X29.virtualBack hx (y := (⟨"java/lang/String", "length", "()I"⟩ : MethodName)) (z := (⟨"java/lang/String", "length", "()I"⟩ : MethodName)) hown29 (mvT hZ29 (hw _ (List.mem_of_getElem? (i := 180) rfl))) (mvT hZ29 (hw _ (List.mem_of_getElem? (i := 73) rfl))) (notFace_of_selects (args := #[]) (mvT hZ29 (hw _ (List.mem_of_getElem? (i := 75) rfl)))) (mvT hZ29 (hw _ (List.mem_of_getElem? (i := 75) rfl))) (mvT hZ29 (hw _ (List.mem_of_getElem? (i := 74) rfl))) (by decide) (backOf (W := 0) (rm_length l Z a0 hw [] ts29 r29 kr29 (Int32.ofNat ln) us cs T29.heap n0 (Nat.le_trans (Nat.le_trans (Nat.le_trans (Nat.le_trans Z0 E26.1) E27.1) K28.1) K29.1) ((((O.ext E26).ext E27).keep K28 (allS g_b26 all0)).keep K29 all0) SC hcs ⟨uE29, uC29, uV29, uA29⟩) hZ29 (hw _ (List.mem_of_getElem? (i := 76) rfl)) (hw _ (List.mem_of_getElem? (i := 7) rfl)) (by decide) (by decide)) q30a q30c (g := (mkF m 66 #[.val (.long p0), .second, .val (.long p1), .second, iv p2, .val (.long (Int64.ofNat qn)), .second, .val (.long (Int64.ofNat uu)), .second, rv b26, rv ts29, .unset, .unset, .unset, .unset, .unset] [(.ref ts29)])) rfl (by rw [hml]; rfl) (Steps.refl _) (argsL := []) (rest := []) (lenOf pd_1 rfl) rfl (by show 2 * 0 + _ ≤ _; exact Nat.le_of_eq rfl) (hb hby at_66) (fun _ _ => ⟨rfl, rfl, (by decide : 9 + 0 ≤ _), (by decide : 63 + 0 ≤ _)⟩)
    dsimp only [Pt.U, Pt.locs, Pt.cells, Pt.slots] at X30 l30 y30 z30 st30 hQ30
    subst l30 y30 z30
    refine Go.pre (own_cut st30) ?_
    obtain ⟨rfl, N30q, eh30⟩ := hQ30
    have N30 := Fr.app N29 N30q
    show Go p e below _ (T30.setTop (mkF m 69 #[.val (.long p0), .second, .val (.long p1), .second, iv p2, .val (.long (Int64.ofNat qn)), .second, .val (.long (Int64.ofNat uu)), .second, rv b26, rv ts29, .unset, .unset, .unset, .unset, .unset] [(.int (Int32.ofNat ln))]))
    refine Go.pre (fun _ k => XS.istore X30.here hx rfl (hb hby at_69) rfl (l' := #[.val (.long p0), .second, .val (.long p1), .second, iv p2, .val (.long (Int64.ofNat qn)), .second, .val (.long (Int64.ofNat uu)), .second, rv b26, rv ts29, iv (Int32.ofNat ln), .unset, .unset, .unset, .unset]) rfl k) ?_
    show Go p e below _ (T30.setTop (mkF m 71 #[.val (.long p0), .second, .val (.long p1), .second, iv p2, .val (.long (Int64.ofNat qn)), .second, .val (.long (Int64.ofNat uu)), .second, rv b26, rv ts29, iv (Int32.ofNat ln), .unset, .unset, .unset, .unset] []))
    refine Go.pre (fun _ k => XS.iload X30.here hx rfl (hb hby at_71) rfl k) ?_
    show Go p e below _ (T30.setTop (mkF m 73 #[.val (.long p0), .second, .val (.long p1), .second, iv p2, .val (.long (Int64.ofNat qn)), .second, .val (.long (Int64.ofNat uu)), .second, rv b26, rv ts29, iv (Int32.ofNat ln), .unset, .unset, .unset, .unset] [(.int (Int32.ofNat ln))]))
    refine Go.pre (fun _ k => XS.iconst X30.here hx rfl (hb hby at_73) k) ?_
    show Go p e below _ (T30.setTop (mkF m 74 #[.val (.long p0), .second, .val (.long p1), .second, iv p2, .val (.long (Int64.ofNat qn)), .second, .val (.long (Int64.ofNat uu)), .second, rv b26, rv ts29, iv (Int32.ofNat ln), .unset, .unset, .unset, .unset] [(.int (2 : Int32)), (.int (Int32.ofNat ln))]))
    refine Go.pre (fun _ k => XS.icmpNo X30.here hx rfl (hb hby at_74) rfl (flt (fun q => absurd ((own_ol (a := ln) (b := 2) (by omega) (by omega)).mp q) (by omega))).1 k) ?_
    show Go p e below _ (T30.setTop (mkF m 77 #[.val (.long p0), .second, .val (.long p1), .second, iv p2, .val (.long (Int64.ofNat qn)), .second, .val (.long (Int64.ofNat uu)), .second, rv b26, rv ts29, iv (Int32.ofNat ln), .unset, .unset, .unset, .unset] []))
    refine Go.pre (fun _ k => XS.iload X30.here hx rfl (hb hby at_77) rfl k) ?_
    show Go p e below _ (T30.setTop (mkF m 79 #[.val (.long p0), .second, .val (.long p1), .second, iv p2, .val (.long (Int64.ofNat qn)), .second, .val (.long (Int64.ofNat uu)), .second, rv b26, rv ts29, iv (Int32.ofNat ln), .unset, .unset, .unset, .unset] [(.int (Int32.ofNat ln))]))
    refine Go.pre (fun _ k => XS.bipush X30.here hx rfl (hb hby at_79) k) ?_
    show Go p e below _ (T30.setTop (mkF m 81 #[.val (.long p0), .second, .val (.long p1), .second, iv p2, .val (.long (Int64.ofNat qn)), .second, .val (.long (Int64.ofNat uu)), .second, rv b26, rv ts29, iv (Int32.ofNat ln), .unset, .unset, .unset, .unset] [(.int (9 : Int32)), (.int (Int32.ofNat ln))]))
    refine Go.pre (fun _ k => XS.icmpYes X30.here hx rfl (pc0 := 81) (pc' := 86) rfl (hb hby at_81) rfl (flt (fun q => absurd ((own_ol (a := 9) (b := ln) (by omega) (by omega)).mp q) (by omega))).2.2.2 (by decide) (by decide) k) ?_
    show Go p e below _ (T30.setTop (mkF m 86 #[.val (.long p0), .second, .val (.long p1), .second, iv p2, .val (.long (Int64.ofNat qn)), .second, .val (.long (Int64.ofNat uu)), .second, rv b26, rv ts29, iv (Int32.ofNat ln), .unset, .unset, .unset, .unset] []))
    refine Go.pre (fun _ k => XS.aload X30.here hx rfl (hb hby at_86) rfl rfl k) ?_
    show Go p e below _ (T30.setTop (mkF m 88 #[.val (.long p0), .second, .val (.long p1), .second, iv p2, .val (.long (Int64.ofNat qn)), .second, .val (.long (Int64.ofNat uu)), .second, rv b26, rv ts29, iv (Int32.ofNat ln), .unset, .unset, .unset, .unset] [(.ref ts29)]))
    refine Go.pre (fun _ k => XS.iconst X30.here hx rfl (hb hby at_88) k) ?_
    show Go p e below _ (T30.setTop (mkF m 89 #[.val (.long p0), .second, .val (.long p1), .second, iv p2, .val (.long (Int64.ofNat qn)), .second, .val (.long (Int64.ofNat uu)), .second, rv b26, rv ts29, iv (Int32.ofNat ln), .unset, .unset, .unset, .unset] [(.int (0 : Int32)), (.ref ts29)]))
    obtain ⟨cq31, kq31, q31a, q31b, q31c⟩ := isOf hZ29 eh30 uE29
    obtain ⟨_, _, ⟨T31, L31, k31, n31⟩, -, X31, ⟨Lc31, hQ31, l31, y31, z31⟩, st31⟩ := X30.virtualBack hx (y := (⟨"java/lang/String", "charAt", "(I)C"⟩ : MethodName)) (z := (⟨"java/lang/String", "charAt", "(I)C"⟩ : MethodName)) hown29 (mvT hZ29 (hw _ (List.mem_of_getElem? (i := 181) rfl))) (mvT hZ29 (hw _ (List.mem_of_getElem? (i := 182) rfl))) (notFace_of_selects (args := #[]) (mvT hZ29 (hw _ (List.mem_of_getElem? (i := 184) rfl)))) (mvT hZ29 (hw _ (List.mem_of_getElem? (i := 184) rfl))) (mvT hZ29 (hw _ (List.mem_of_getElem? (i := 183) rfl))) (by decide) (backOf (W := 0) (rm_cha l Z a0 hw [] ts29 r29 kr29 us 0 ln 117 fm cs T29.heap n0 (Nat.le_trans (Nat.le_trans (Nat.le_trans (Nat.le_trans Z0 E26.1) E27.1) K28.1) K29.1) ((((O.ext E26).ext E27).keep K28 (allS g_b26 all0)).keep K29 all0) SC hcs SF hfm (by omega) (by omega) hus0 (by decide) ⟨uE29, uC29, uV29, uA29⟩) hZ29 (hw _ (List.mem_of_getElem? (i := 185) rfl)) (hw _ (List.mem_of_getElem? (i := 7) rfl)) (by decide) (by decide)) q31a q31c (g := (mkF m 89 #[.val (.long p0), .second, .val (.long p1), .second, iv p2, .val (.long (Int64.ofNat qn)), .second, .val (.long (Int64.ofNat uu)), .second, rv b26, rv ts29, iv (Int32.ofNat ln), .unset, .unset, .unset, .unset] [(.int (0 : Int32)), (.ref ts29)])) rfl (by rw [hml]; rfl) (Steps.refl _) (argsL := [(.int (0 : Int32))]) (rest := []) (lenOf pd_19 rfl) rfl (by show 2 * 0 + _ ≤ _; exact Nat.le_of_eq rfl) (hb hby at_89) (fun _ _ => ⟨rfl, eh30, (by decide : 9 + 0 ≤ _), (by decide : 63 + 0 ≤ _)⟩)
    dsimp only [Pt.U, Pt.locs, Pt.cells, Pt.slots] at X31 l31 y31 z31 st31 hQ31
    subst l31 y31 z31
    refine Go.pre (own_cut st31) ?_
    obtain ⟨rfl, N31q, eh31⟩ := hQ31
    have N31 := Fr.app N30 N31q
    show Go p e below _ (T31.setTop (mkF m 92 #[.val (.long p0), .second, .val (.long p1), .second, iv p2, .val (.long (Int64.ofNat qn)), .second, .val (.long (Int64.ofNat uu)), .second, rv b26, rv ts29, iv (Int32.ofNat ln), .unset, .unset, .unset, .unset] [(.int (117 : Int32))]))
    refine Go.pre (fun _ k => XS.bipush X31.here hx rfl (hb hby at_92) k) ?_
    show Go p e below _ (T31.setTop (mkF m 94 #[.val (.long p0), .second, .val (.long p1), .second, iv p2, .val (.long (Int64.ofNat qn)), .second, .val (.long (Int64.ofNat uu)), .second, rv b26, rv ts29, iv (Int32.ofNat ln), .unset, .unset, .unset, .unset] [(.int (117 : Int32)), (.int (117 : Int32))]))
    refine Go.pre (fun _ k => XS.icmpYes X31.here hx rfl (pc0 := 94) (pc' := 99) rfl (hb hby at_94) rfl (teq (by decide : (117 : Int32) = (117 : Int32))).1 (by decide) (by decide) k) ?_
    show Go p e below _ (T31.setTop (mkF m 99 #[.val (.long p0), .second, .val (.long p1), .second, iv p2, .val (.long (Int64.ofNat qn)), .second, .val (.long (Int64.ofNat uu)), .second, rv b26, rv ts29, iv (Int32.ofNat ln), .unset, .unset, .unset, .unset] []))
    refine Go.pre (fun _ k => XS.iload X31.here hx rfl (hb hby at_99) rfl k) ?_
    show Go p e below _ (T31.setTop (mkF m 101 #[.val (.long p0), .second, .val (.long p1), .second, iv p2, .val (.long (Int64.ofNat qn)), .second, .val (.long (Int64.ofNat uu)), .second, rv b26, rv ts29, iv (Int32.ofNat ln), .unset, .unset, .unset, .unset] [(.int (Int32.ofNat ln))]))
    refine Go.pre (fun _ k => XS.iconst X31.here hx rfl (hb hby at_101) k) ?_
    show Go p e below _ (T31.setTop (mkF m 102 #[.val (.long p0), .second, .val (.long p1), .second, iv p2, .val (.long (Int64.ofNat qn)), .second, .val (.long (Int64.ofNat uu)), .second, rv b26, rv ts29, iv (Int32.ofNat ln), .unset, .unset, .unset, .unset] [(.int (2 : Int32)), (.int (Int32.ofNat ln))]))
    by_cases hc102_32 : 2 < ln
    · skip
      refine Go.pre (fun _ k => XS.icmpNo X31.here hx rfl (hb hby at_102) rfl (tlt ((own_ol (a := 2) (b := ln) (by omega) (by omega)).mpr hc102_32)).2.2.2 k) ?_
      show Go p e below _ (T31.setTop (mkF m 105 #[.val (.long p0), .second, .val (.long p1), .second, iv p2, .val (.long (Int64.ofNat qn)), .second, .val (.long (Int64.ofNat uu)), .second, rv b26, rv ts29, iv (Int32.ofNat ln), .unset, .unset, .unset, .unset] []))
      refine Go.pre (fun _ k => XS.aload X31.here hx rfl (hb hby at_105) rfl rfl k) ?_
      show Go p e below _ (T31.setTop (mkF m 107 #[.val (.long p0), .second, .val (.long p1), .second, iv p2, .val (.long (Int64.ofNat qn)), .second, .val (.long (Int64.ofNat uu)), .second, rv b26, rv ts29, iv (Int32.ofNat ln), .unset, .unset, .unset, .unset] [(.ref ts29)]))
      refine Go.pre (fun _ k => XS.iconst X31.here hx rfl (hb hby at_107) k) ?_
      show Go p e below _ (T31.setTop (mkF m 108 #[.val (.long p0), .second, .val (.long p1), .second, iv p2, .val (.long (Int64.ofNat qn)), .second, .val (.long (Int64.ofNat uu)), .second, rv b26, rv ts29, iv (Int32.ofNat ln), .unset, .unset, .unset, .unset] [(.int (1 : Int32)), (.ref ts29)]))
      obtain ⟨cq33, kq33, q33a, q33b, q33c⟩ := isOf hZ29 eh31 uE29
      obtain ⟨_, _, ⟨T33, L33, k33, n33⟩, -, X33, ⟨Lc33, hQ33, l33, y33, z33⟩, st33⟩ := X31.virtualBack hx (y := (⟨"java/lang/String", "charAt", "(I)C"⟩ : MethodName)) (z := (⟨"java/lang/String", "charAt", "(I)C"⟩ : MethodName)) hown29 (mvT hZ29 (hw _ (List.mem_of_getElem? (i := 181) rfl))) (mvT hZ29 (hw _ (List.mem_of_getElem? (i := 182) rfl))) (notFace_of_selects (args := #[]) (mvT hZ29 (hw _ (List.mem_of_getElem? (i := 184) rfl)))) (mvT hZ29 (hw _ (List.mem_of_getElem? (i := 184) rfl))) (mvT hZ29 (hw _ (List.mem_of_getElem? (i := 183) rfl))) (by decide) (backOf (W := 0) (rm_cha l Z a0 hw [] ts29 r29 kr29 us 1 ln (48 + fd 1) fm cs T29.heap n0 (Nat.le_trans (Nat.le_trans (Nat.le_trans (Nat.le_trans Z0 E26.1) E27.1) K28.1) K29.1) ((((O.ext E26).ext E27).keep K28 (allS g_b26 all0)).keep K29 all0) SC hcs SF hfm (by omega) (by omega) (hus 1 (by decide) (by omega)).1 (by have := hfd 1; omega) ⟨uE29, uC29, uV29, uA29⟩) hZ29 (hw _ (List.mem_of_getElem? (i := 185) rfl)) (hw _ (List.mem_of_getElem? (i := 7) rfl)) (by decide) (by decide)) q33a q33c (g := (mkF m 108 #[.val (.long p0), .second, .val (.long p1), .second, iv p2, .val (.long (Int64.ofNat qn)), .second, .val (.long (Int64.ofNat uu)), .second, rv b26, rv ts29, iv (Int32.ofNat ln), .unset, .unset, .unset, .unset] [(.int (1 : Int32)), (.ref ts29)])) rfl (by rw [hml]; rfl) (Steps.refl _) (argsL := [(.int (1 : Int32))]) (rest := []) (lenOf pd_19 rfl) rfl (by show 2 * 0 + _ ≤ _; exact Nat.le_of_eq rfl) (hb hby at_108) (fun _ _ => ⟨rfl, eh31, (by decide : 9 + 0 ≤ _), (by decide : 63 + 0 ≤ _)⟩)
      dsimp only [Pt.U, Pt.locs, Pt.cells, Pt.slots] at X33 l33 y33 z33 st33 hQ33
      subst l33 y33 z33
      refine Go.pre (own_cut st33) ?_
      obtain ⟨rfl, N33q, eh33⟩ := hQ33
      have N33 := Fr.app N31 N33q
      show Go p e below _ (T33.setTop (mkF m 111 #[.val (.long p0), .second, .val (.long p1), .second, iv p2, .val (.long (Int64.ofNat qn)), .second, .val (.long (Int64.ofNat uu)), .second, rv b26, rv ts29, iv (Int32.ofNat ln), .unset, .unset, .unset, .unset] [(.int (Int32.ofNat (48 + fd 1)))]))
      refine Go.pre (fun _ k => XS.bipush X33.here hx rfl (hb hby at_111) k) ?_
      show Go p e below _ (T33.setTop (mkF m 113 #[.val (.long p0), .second, .val (.long p1), .second, iv p2, .val (.long (Int64.ofNat qn)), .second, .val (.long (Int64.ofNat uu)), .second, rv b26, rv ts29, iv (Int32.ofNat ln), .unset, .unset, .unset, .unset] [(.int (48 : Int32)), (.int (Int32.ofNat (48 + fd 1)))]))
      refine Go.pre (fun _ k => XS.icmpYes X33.here hx rfl (pc0 := 113) (pc' := 118) rfl (hb hby at_113) rfl (feq (fun q => absurd ((own_oe (a := 48 + fd 1) (b := 48) (by have := hfd 1; omega) (by omega)).mp q) (by have := hfd1 hc102_32; omega))).2 (by decide) (by decide) k) ?_
      show Go p e below _ (T33.setTop (mkF m 118 #[.val (.long p0), .second, .val (.long p1), .second, iv p2, .val (.long (Int64.ofNat qn)), .second, .val (.long (Int64.ofNat uu)), .second, rv b26, rv ts29, iv (Int32.ofNat ln), .unset, .unset, .unset, .unset] []))
      refine Go.pre (fun _ k => XS.lconst X33.here hx rfl (hb hby at_118) k) ?_
      show Go p e below _ (T33.setTop (mkF m 119 #[.val (.long p0), .second, .val (.long p1), .second, iv p2, .val (.long (Int64.ofNat qn)), .second, .val (.long (Int64.ofNat uu)), .second, rv b26, rv ts29, iv (Int32.ofNat ln), .unset, .unset, .unset, .unset] [(.long (Int64.ofNat (own_acc fd ln 0)))]))
      refine Go.pre (fun _ k => XS.lstore X33.here hx rfl (hb hby at_119) rfl (l' := #[.val (.long p0), .second, .val (.long p1), .second, iv p2, .val (.long (Int64.ofNat qn)), .second, .val (.long (Int64.ofNat uu)), .second, rv b26, rv ts29, iv (Int32.ofNat ln), .val (.long (Int64.ofNat (own_acc fd ln 0))), .second, .unset, .unset]) rfl k) ?_
      show Go p e below _ (T33.setTop (mkF m 121 #[.val (.long p0), .second, .val (.long p1), .second, iv p2, .val (.long (Int64.ofNat qn)), .second, .val (.long (Int64.ofNat uu)), .second, rv b26, rv ts29, iv (Int32.ofNat ln), .val (.long (Int64.ofNat (own_acc fd ln 0))), .second, .unset, .unset] []))
      refine Go.pre (fun _ k => XS.aload X33.here hx rfl (hb hby at_121) rfl rfl k) ?_
      show Go p e below _ (T33.setTop (mkF m 123 #[.val (.long p0), .second, .val (.long p1), .second, iv p2, .val (.long (Int64.ofNat qn)), .second, .val (.long (Int64.ofNat uu)), .second, rv b26, rv ts29, iv (Int32.ofNat ln), .val (.long (Int64.ofNat (own_acc fd ln 0))), .second, .unset, .unset] [(.ref ts29)]))
      refine Go.pre (fun _ k => XS.iconst X33.here hx rfl (hb hby at_123) k) ?_
      show Go p e below _ (T33.setTop (mkF m 124 #[.val (.long p0), .second, .val (.long p1), .second, iv p2, .val (.long (Int64.ofNat qn)), .second, .val (.long (Int64.ofNat uu)), .second, rv b26, rv ts29, iv (Int32.ofNat ln), .val (.long (Int64.ofNat (own_acc fd ln 0))), .second, .unset, .unset] [(.int (1 : Int32)), (.ref ts29)]))
      refine Go.pre (fun _ k => XS.lload X33.here hx rfl (hb hby at_124) rfl k) ?_
      show Go p e below _ (T33.setTop (mkF m 126 #[.val (.long p0), .second, .val (.long p1), .second, iv p2, .val (.long (Int64.ofNat qn)), .second, .val (.long (Int64.ofNat uu)), .second, rv b26, rv ts29, iv (Int32.ofNat ln), .val (.long (Int64.ofNat (own_acc fd ln 0))), .second, .unset, .unset] [(.long (Int64.ofNat (own_acc fd ln 0))), (.int (1 : Int32)), (.ref ts29)]))
      obtain ⟨_, _, ⟨T34, L34, k34, n34⟩, -, X34, ⟨Lc34, hQ34, l34, y34, z34⟩, st34⟩ := Jvm.LawKit.callS X33 hx (y := (⟨"com/example/inferred_grant/inferredgrant/benchmark/SettingRequestUserPinLaw", "step", "(Ljava/lang/String;IJ)J"⟩ : MethodName)) hown29 (mvT hZ29 (hw _ (List.mem_of_getElem? (i := 203) rfl))) (mvT hZ29 (hw _ (List.mem_of_getElem? (i := 204) rfl))) (mvT hZ29 (hw _ (List.mem_of_getElem? (i := 205) rfl))) (mvT hZ29 (hw _ (List.mem_of_getElem? (i := 206) rfl))) (by decide) (backOf (W := 0) (rm_stp l Z a0 hw [] ts29 r29 kr29 us 1 ln fd (own_acc fd ln 0) fm cs T29.heap n0 (Nat.le_trans (Nat.le_trans (Nat.le_trans (Nat.le_trans Z0 E26.1) E27.1) K28.1) K29.1) ((((O.ext E26).ext E27).keep K28 (allS g_b26 all0)).keep K29 all0) SC hcs SF hfm (by omega) (by decide) (by decide) (Nat.lt_of_lt_of_le (own_acc_lt hfd 0) (Nat.le_of_ble_eq_true rfl)) hus ⟨uE29, uC29, uV29, uA29⟩) hZ29 (hw _ (List.mem_of_getElem? (i := 206) rfl)) (hw _ (List.mem_of_getElem? (i := 205) rfl)) (by decide) (by decide)) (g := (mkF m 126 #[.val (.long p0), .second, .val (.long p1), .second, iv p2, .val (.long (Int64.ofNat qn)), .second, .val (.long (Int64.ofNat uu)), .second, rv b26, rv ts29, iv (Int32.ofNat ln), .val (.long (Int64.ofNat (own_acc fd ln 0))), .second, .unset, .unset] [(.long (Int64.ofNat (own_acc fd ln 0))), (.int (1 : Int32)), (.ref ts29)])) rfl (by rw [hml]; rfl) (argsL := [(.ref ts29), (.int (1 : Int32)), (.long (Int64.ofNat (own_acc fd ln 0)))]) (rest := []) (lenOf pd_26 rfl) rfl (by show 2 * 0 + _ ≤ _; exact Nat.le_of_eq rfl) (hb hby at_126) (fun _ _ => ⟨rfl, eh33, (by decide : 9 + 0 ≤ _), (by decide : 63 + 0 ≤ _)⟩)
      dsimp only [Pt.U, Pt.locs, Pt.cells, Pt.slots] at X34 l34 y34 z34 st34 hQ34
      subst l34 y34 z34
      refine Go.pre st34 ?_
      obtain ⟨rfl, N34q, eh34⟩ := hQ34
      have N34 := Fr.app N33 N34q
      show Go p e below _ (T34.setTop (mkF m 129 #[.val (.long p0), .second, .val (.long p1), .second, iv p2, .val (.long (Int64.ofNat qn)), .second, .val (.long (Int64.ofNat uu)), .second, rv b26, rv ts29, iv (Int32.ofNat ln), .val (.long (Int64.ofNat (own_acc fd ln 0))), .second, .unset, .unset] [(.long (Int64.ofNat (if 1 < ln then own_acc fd ln 0 * 10 + fd 1 else own_acc fd ln 0)))]))
      rw [show (if 1 < ln then own_acc fd ln 0 * 10 + fd 1 else own_acc fd ln 0) = own_acc fd ln 1 from rfl]
      show Go p e below _ (T34.setTop (mkF m 129 #[.val (.long p0), .second, .val (.long p1), .second, iv p2, .val (.long (Int64.ofNat qn)), .second, .val (.long (Int64.ofNat uu)), .second, rv b26, rv ts29, iv (Int32.ofNat ln), .val (.long (Int64.ofNat (own_acc fd ln 0))), .second, .unset, .unset] [(.long (Int64.ofNat (own_acc fd ln 1)))]))
      refine Go.pre (fun _ k => XS.lstore X34.here hx rfl (hb hby at_129) rfl (l' := #[.val (.long p0), .second, .val (.long p1), .second, iv p2, .val (.long (Int64.ofNat qn)), .second, .val (.long (Int64.ofNat uu)), .second, rv b26, rv ts29, iv (Int32.ofNat ln), .val (.long (Int64.ofNat (own_acc fd ln 1))), .second, .unset, .unset]) rfl k) ?_
      show Go p e below _ (T34.setTop (mkF m 131 #[.val (.long p0), .second, .val (.long p1), .second, iv p2, .val (.long (Int64.ofNat qn)), .second, .val (.long (Int64.ofNat uu)), .second, rv b26, rv ts29, iv (Int32.ofNat ln), .val (.long (Int64.ofNat (own_acc fd ln 1))), .second, .unset, .unset] []))
      refine Go.pre (fun _ k => XS.aload X34.here hx rfl (hb hby at_131) rfl rfl k) ?_
      show Go p e below _ (T34.setTop (mkF m 133 #[.val (.long p0), .second, .val (.long p1), .second, iv p2, .val (.long (Int64.ofNat qn)), .second, .val (.long (Int64.ofNat uu)), .second, rv b26, rv ts29, iv (Int32.ofNat ln), .val (.long (Int64.ofNat (own_acc fd ln 1))), .second, .unset, .unset] [(.ref ts29)]))
      refine Go.pre (fun _ k => XS.iconst X34.here hx rfl (hb hby at_133) k) ?_
      show Go p e below _ (T34.setTop (mkF m 134 #[.val (.long p0), .second, .val (.long p1), .second, iv p2, .val (.long (Int64.ofNat qn)), .second, .val (.long (Int64.ofNat uu)), .second, rv b26, rv ts29, iv (Int32.ofNat ln), .val (.long (Int64.ofNat (own_acc fd ln 1))), .second, .unset, .unset] [(.int (2 : Int32)), (.ref ts29)]))
      refine Go.pre (fun _ k => XS.lload X34.here hx rfl (hb hby at_134) rfl k) ?_
      show Go p e below _ (T34.setTop (mkF m 136 #[.val (.long p0), .second, .val (.long p1), .second, iv p2, .val (.long (Int64.ofNat qn)), .second, .val (.long (Int64.ofNat uu)), .second, rv b26, rv ts29, iv (Int32.ofNat ln), .val (.long (Int64.ofNat (own_acc fd ln 1))), .second, .unset, .unset] [(.long (Int64.ofNat (own_acc fd ln 1))), (.int (2 : Int32)), (.ref ts29)]))
      obtain ⟨_, _, ⟨T35, L35, k35, n35⟩, -, X35, ⟨Lc35, hQ35, l35, y35, z35⟩, st35⟩ := Jvm.LawKit.callS X34 hx (y := (⟨"com/example/inferred_grant/inferredgrant/benchmark/SettingRequestUserPinLaw", "step", "(Ljava/lang/String;IJ)J"⟩ : MethodName)) hown29 (mvT hZ29 (hw _ (List.mem_of_getElem? (i := 203) rfl))) (mvT hZ29 (hw _ (List.mem_of_getElem? (i := 204) rfl))) (mvT hZ29 (hw _ (List.mem_of_getElem? (i := 205) rfl))) (mvT hZ29 (hw _ (List.mem_of_getElem? (i := 206) rfl))) (by decide) (backOf (W := 0) (rm_stp l Z a0 hw [] ts29 r29 kr29 us 2 ln fd (own_acc fd ln 1) fm cs T29.heap n0 (Nat.le_trans (Nat.le_trans (Nat.le_trans (Nat.le_trans Z0 E26.1) E27.1) K28.1) K29.1) ((((O.ext E26).ext E27).keep K28 (allS g_b26 all0)).keep K29 all0) SC hcs SF hfm (by omega) (by decide) (by decide) (Nat.lt_of_lt_of_le (own_acc_lt hfd 1) (Nat.le_of_ble_eq_true rfl)) hus ⟨uE29, uC29, uV29, uA29⟩) hZ29 (hw _ (List.mem_of_getElem? (i := 206) rfl)) (hw _ (List.mem_of_getElem? (i := 205) rfl)) (by decide) (by decide)) (g := (mkF m 136 #[.val (.long p0), .second, .val (.long p1), .second, iv p2, .val (.long (Int64.ofNat qn)), .second, .val (.long (Int64.ofNat uu)), .second, rv b26, rv ts29, iv (Int32.ofNat ln), .val (.long (Int64.ofNat (own_acc fd ln 1))), .second, .unset, .unset] [(.long (Int64.ofNat (own_acc fd ln 1))), (.int (2 : Int32)), (.ref ts29)])) rfl (by rw [hml]; rfl) (argsL := [(.ref ts29), (.int (2 : Int32)), (.long (Int64.ofNat (own_acc fd ln 1)))]) (rest := []) (lenOf pd_26 rfl) rfl (by show 2 * 0 + _ ≤ _; exact Nat.le_of_eq rfl) (hb hby at_136) (fun _ _ => ⟨rfl, eh34, (by decide : 9 + 0 ≤ _), (by decide : 63 + 0 ≤ _)⟩)
      dsimp only [Pt.U, Pt.locs, Pt.cells, Pt.slots] at X35 l35 y35 z35 st35 hQ35
      subst l35 y35 z35
      refine Go.pre st35 ?_
      obtain ⟨rfl, N35q, eh35⟩ := hQ35
      have N35 := Fr.app N34 N35q
      show Go p e below _ (T35.setTop (mkF m 139 #[.val (.long p0), .second, .val (.long p1), .second, iv p2, .val (.long (Int64.ofNat qn)), .second, .val (.long (Int64.ofNat uu)), .second, rv b26, rv ts29, iv (Int32.ofNat ln), .val (.long (Int64.ofNat (own_acc fd ln 1))), .second, .unset, .unset] [(.long (Int64.ofNat (if 2 < ln then own_acc fd ln 1 * 10 + fd 2 else own_acc fd ln 1)))]))
      rw [show (if 2 < ln then own_acc fd ln 1 * 10 + fd 2 else own_acc fd ln 1) = own_acc fd ln 2 from rfl]
      show Go p e below _ (T35.setTop (mkF m 139 #[.val (.long p0), .second, .val (.long p1), .second, iv p2, .val (.long (Int64.ofNat qn)), .second, .val (.long (Int64.ofNat uu)), .second, rv b26, rv ts29, iv (Int32.ofNat ln), .val (.long (Int64.ofNat (own_acc fd ln 1))), .second, .unset, .unset] [(.long (Int64.ofNat (own_acc fd ln 2)))]))
      refine Go.pre (fun _ k => XS.lstore X35.here hx rfl (hb hby at_139) rfl (l' := #[.val (.long p0), .second, .val (.long p1), .second, iv p2, .val (.long (Int64.ofNat qn)), .second, .val (.long (Int64.ofNat uu)), .second, rv b26, rv ts29, iv (Int32.ofNat ln), .val (.long (Int64.ofNat (own_acc fd ln 2))), .second, .unset, .unset]) rfl k) ?_
      show Go p e below _ (T35.setTop (mkF m 141 #[.val (.long p0), .second, .val (.long p1), .second, iv p2, .val (.long (Int64.ofNat qn)), .second, .val (.long (Int64.ofNat uu)), .second, rv b26, rv ts29, iv (Int32.ofNat ln), .val (.long (Int64.ofNat (own_acc fd ln 2))), .second, .unset, .unset] []))
      refine Go.pre (fun _ k => XS.aload X35.here hx rfl (hb hby at_141) rfl rfl k) ?_
      show Go p e below _ (T35.setTop (mkF m 143 #[.val (.long p0), .second, .val (.long p1), .second, iv p2, .val (.long (Int64.ofNat qn)), .second, .val (.long (Int64.ofNat uu)), .second, rv b26, rv ts29, iv (Int32.ofNat ln), .val (.long (Int64.ofNat (own_acc fd ln 2))), .second, .unset, .unset] [(.ref ts29)]))
      refine Go.pre (fun _ k => XS.iconst X35.here hx rfl (hb hby at_143) k) ?_
      show Go p e below _ (T35.setTop (mkF m 144 #[.val (.long p0), .second, .val (.long p1), .second, iv p2, .val (.long (Int64.ofNat qn)), .second, .val (.long (Int64.ofNat uu)), .second, rv b26, rv ts29, iv (Int32.ofNat ln), .val (.long (Int64.ofNat (own_acc fd ln 2))), .second, .unset, .unset] [(.int (3 : Int32)), (.ref ts29)]))
      refine Go.pre (fun _ k => XS.lload X35.here hx rfl (hb hby at_144) rfl k) ?_
      show Go p e below _ (T35.setTop (mkF m 146 #[.val (.long p0), .second, .val (.long p1), .second, iv p2, .val (.long (Int64.ofNat qn)), .second, .val (.long (Int64.ofNat uu)), .second, rv b26, rv ts29, iv (Int32.ofNat ln), .val (.long (Int64.ofNat (own_acc fd ln 2))), .second, .unset, .unset] [(.long (Int64.ofNat (own_acc fd ln 2))), (.int (3 : Int32)), (.ref ts29)]))
      obtain ⟨_, _, ⟨T36, L36, k36, n36⟩, -, X36, ⟨Lc36, hQ36, l36, y36, z36⟩, st36⟩ := Jvm.LawKit.callS X35 hx (y := (⟨"com/example/inferred_grant/inferredgrant/benchmark/SettingRequestUserPinLaw", "step", "(Ljava/lang/String;IJ)J"⟩ : MethodName)) hown29 (mvT hZ29 (hw _ (List.mem_of_getElem? (i := 203) rfl))) (mvT hZ29 (hw _ (List.mem_of_getElem? (i := 204) rfl))) (mvT hZ29 (hw _ (List.mem_of_getElem? (i := 205) rfl))) (mvT hZ29 (hw _ (List.mem_of_getElem? (i := 206) rfl))) (by decide) (backOf (W := 0) (rm_stp l Z a0 hw [] ts29 r29 kr29 us 3 ln fd (own_acc fd ln 2) fm cs T29.heap n0 (Nat.le_trans (Nat.le_trans (Nat.le_trans (Nat.le_trans Z0 E26.1) E27.1) K28.1) K29.1) ((((O.ext E26).ext E27).keep K28 (allS g_b26 all0)).keep K29 all0) SC hcs SF hfm (by omega) (by decide) (by decide) (Nat.lt_of_lt_of_le (own_acc_lt hfd 2) (Nat.le_of_ble_eq_true rfl)) hus ⟨uE29, uC29, uV29, uA29⟩) hZ29 (hw _ (List.mem_of_getElem? (i := 206) rfl)) (hw _ (List.mem_of_getElem? (i := 205) rfl)) (by decide) (by decide)) (g := (mkF m 146 #[.val (.long p0), .second, .val (.long p1), .second, iv p2, .val (.long (Int64.ofNat qn)), .second, .val (.long (Int64.ofNat uu)), .second, rv b26, rv ts29, iv (Int32.ofNat ln), .val (.long (Int64.ofNat (own_acc fd ln 2))), .second, .unset, .unset] [(.long (Int64.ofNat (own_acc fd ln 2))), (.int (3 : Int32)), (.ref ts29)])) rfl (by rw [hml]; rfl) (argsL := [(.ref ts29), (.int (3 : Int32)), (.long (Int64.ofNat (own_acc fd ln 2)))]) (rest := []) (lenOf pd_26 rfl) rfl (by show 2 * 0 + _ ≤ _; exact Nat.le_of_eq rfl) (hb hby at_146) (fun _ _ => ⟨rfl, eh35, (by decide : 9 + 0 ≤ _), (by decide : 63 + 0 ≤ _)⟩)
      dsimp only [Pt.U, Pt.locs, Pt.cells, Pt.slots] at X36 l36 y36 z36 st36 hQ36
      subst l36 y36 z36
      refine Go.pre st36 ?_
      obtain ⟨rfl, N36q, eh36⟩ := hQ36
      have N36 := Fr.app N35 N36q
      show Go p e below _ (T36.setTop (mkF m 149 #[.val (.long p0), .second, .val (.long p1), .second, iv p2, .val (.long (Int64.ofNat qn)), .second, .val (.long (Int64.ofNat uu)), .second, rv b26, rv ts29, iv (Int32.ofNat ln), .val (.long (Int64.ofNat (own_acc fd ln 2))), .second, .unset, .unset] [(.long (Int64.ofNat (if 3 < ln then own_acc fd ln 2 * 10 + fd 3 else own_acc fd ln 2)))]))
      rw [show (if 3 < ln then own_acc fd ln 2 * 10 + fd 3 else own_acc fd ln 2) = own_acc fd ln 3 from rfl]
      show Go p e below _ (T36.setTop (mkF m 149 #[.val (.long p0), .second, .val (.long p1), .second, iv p2, .val (.long (Int64.ofNat qn)), .second, .val (.long (Int64.ofNat uu)), .second, rv b26, rv ts29, iv (Int32.ofNat ln), .val (.long (Int64.ofNat (own_acc fd ln 2))), .second, .unset, .unset] [(.long (Int64.ofNat (own_acc fd ln 3)))]))
      refine Go.pre (fun _ k => XS.lstore X36.here hx rfl (hb hby at_149) rfl (l' := #[.val (.long p0), .second, .val (.long p1), .second, iv p2, .val (.long (Int64.ofNat qn)), .second, .val (.long (Int64.ofNat uu)), .second, rv b26, rv ts29, iv (Int32.ofNat ln), .val (.long (Int64.ofNat (own_acc fd ln 3))), .second, .unset, .unset]) rfl k) ?_
      show Go p e below _ (T36.setTop (mkF m 151 #[.val (.long p0), .second, .val (.long p1), .second, iv p2, .val (.long (Int64.ofNat qn)), .second, .val (.long (Int64.ofNat uu)), .second, rv b26, rv ts29, iv (Int32.ofNat ln), .val (.long (Int64.ofNat (own_acc fd ln 3))), .second, .unset, .unset] []))
      refine Go.pre (fun _ k => XS.aload X36.here hx rfl (hb hby at_151) rfl rfl k) ?_
      show Go p e below _ (T36.setTop (mkF m 153 #[.val (.long p0), .second, .val (.long p1), .second, iv p2, .val (.long (Int64.ofNat qn)), .second, .val (.long (Int64.ofNat uu)), .second, rv b26, rv ts29, iv (Int32.ofNat ln), .val (.long (Int64.ofNat (own_acc fd ln 3))), .second, .unset, .unset] [(.ref ts29)]))
      refine Go.pre (fun _ k => XS.iconst X36.here hx rfl (hb hby at_153) k) ?_
      show Go p e below _ (T36.setTop (mkF m 154 #[.val (.long p0), .second, .val (.long p1), .second, iv p2, .val (.long (Int64.ofNat qn)), .second, .val (.long (Int64.ofNat uu)), .second, rv b26, rv ts29, iv (Int32.ofNat ln), .val (.long (Int64.ofNat (own_acc fd ln 3))), .second, .unset, .unset] [(.int (4 : Int32)), (.ref ts29)]))
      refine Go.pre (fun _ k => XS.lload X36.here hx rfl (hb hby at_154) rfl k) ?_
      show Go p e below _ (T36.setTop (mkF m 156 #[.val (.long p0), .second, .val (.long p1), .second, iv p2, .val (.long (Int64.ofNat qn)), .second, .val (.long (Int64.ofNat uu)), .second, rv b26, rv ts29, iv (Int32.ofNat ln), .val (.long (Int64.ofNat (own_acc fd ln 3))), .second, .unset, .unset] [(.long (Int64.ofNat (own_acc fd ln 3))), (.int (4 : Int32)), (.ref ts29)]))
      obtain ⟨_, _, ⟨T37, L37, k37, n37⟩, -, X37, ⟨Lc37, hQ37, l37, y37, z37⟩, st37⟩ := Jvm.LawKit.callS X36 hx (y := (⟨"com/example/inferred_grant/inferredgrant/benchmark/SettingRequestUserPinLaw", "step", "(Ljava/lang/String;IJ)J"⟩ : MethodName)) hown29 (mvT hZ29 (hw _ (List.mem_of_getElem? (i := 203) rfl))) (mvT hZ29 (hw _ (List.mem_of_getElem? (i := 204) rfl))) (mvT hZ29 (hw _ (List.mem_of_getElem? (i := 205) rfl))) (mvT hZ29 (hw _ (List.mem_of_getElem? (i := 206) rfl))) (by decide) (backOf (W := 0) (rm_stp l Z a0 hw [] ts29 r29 kr29 us 4 ln fd (own_acc fd ln 3) fm cs T29.heap n0 (Nat.le_trans (Nat.le_trans (Nat.le_trans (Nat.le_trans Z0 E26.1) E27.1) K28.1) K29.1) ((((O.ext E26).ext E27).keep K28 (allS g_b26 all0)).keep K29 all0) SC hcs SF hfm (by omega) (by decide) (by decide) (Nat.lt_of_lt_of_le (own_acc_lt hfd 3) (Nat.le_of_ble_eq_true rfl)) hus ⟨uE29, uC29, uV29, uA29⟩) hZ29 (hw _ (List.mem_of_getElem? (i := 206) rfl)) (hw _ (List.mem_of_getElem? (i := 205) rfl)) (by decide) (by decide)) (g := (mkF m 156 #[.val (.long p0), .second, .val (.long p1), .second, iv p2, .val (.long (Int64.ofNat qn)), .second, .val (.long (Int64.ofNat uu)), .second, rv b26, rv ts29, iv (Int32.ofNat ln), .val (.long (Int64.ofNat (own_acc fd ln 3))), .second, .unset, .unset] [(.long (Int64.ofNat (own_acc fd ln 3))), (.int (4 : Int32)), (.ref ts29)])) rfl (by rw [hml]; rfl) (argsL := [(.ref ts29), (.int (4 : Int32)), (.long (Int64.ofNat (own_acc fd ln 3)))]) (rest := []) (lenOf pd_26 rfl) rfl (by show 2 * 0 + _ ≤ _; exact Nat.le_of_eq rfl) (hb hby at_156) (fun _ _ => ⟨rfl, eh36, (by decide : 9 + 0 ≤ _), (by decide : 63 + 0 ≤ _)⟩)
      dsimp only [Pt.U, Pt.locs, Pt.cells, Pt.slots] at X37 l37 y37 z37 st37 hQ37
      subst l37 y37 z37
      refine Go.pre st37 ?_
      obtain ⟨rfl, N37q, eh37⟩ := hQ37
      have N37 := Fr.app N36 N37q
      show Go p e below _ (T37.setTop (mkF m 159 #[.val (.long p0), .second, .val (.long p1), .second, iv p2, .val (.long (Int64.ofNat qn)), .second, .val (.long (Int64.ofNat uu)), .second, rv b26, rv ts29, iv (Int32.ofNat ln), .val (.long (Int64.ofNat (own_acc fd ln 3))), .second, .unset, .unset] [(.long (Int64.ofNat (if 4 < ln then own_acc fd ln 3 * 10 + fd 4 else own_acc fd ln 3)))]))
      rw [show (if 4 < ln then own_acc fd ln 3 * 10 + fd 4 else own_acc fd ln 3) = own_acc fd ln 4 from rfl]
      show Go p e below _ (T37.setTop (mkF m 159 #[.val (.long p0), .second, .val (.long p1), .second, iv p2, .val (.long (Int64.ofNat qn)), .second, .val (.long (Int64.ofNat uu)), .second, rv b26, rv ts29, iv (Int32.ofNat ln), .val (.long (Int64.ofNat (own_acc fd ln 3))), .second, .unset, .unset] [(.long (Int64.ofNat (own_acc fd ln 4)))]))
      refine Go.pre (fun _ k => XS.lstore X37.here hx rfl (hb hby at_159) rfl (l' := #[.val (.long p0), .second, .val (.long p1), .second, iv p2, .val (.long (Int64.ofNat qn)), .second, .val (.long (Int64.ofNat uu)), .second, rv b26, rv ts29, iv (Int32.ofNat ln), .val (.long (Int64.ofNat (own_acc fd ln 4))), .second, .unset, .unset]) rfl k) ?_
      show Go p e below _ (T37.setTop (mkF m 161 #[.val (.long p0), .second, .val (.long p1), .second, iv p2, .val (.long (Int64.ofNat qn)), .second, .val (.long (Int64.ofNat uu)), .second, rv b26, rv ts29, iv (Int32.ofNat ln), .val (.long (Int64.ofNat (own_acc fd ln 4))), .second, .unset, .unset] []))
      refine Go.pre (fun _ k => XS.aload X37.here hx rfl (hb hby at_161) rfl rfl k) ?_
      show Go p e below _ (T37.setTop (mkF m 163 #[.val (.long p0), .second, .val (.long p1), .second, iv p2, .val (.long (Int64.ofNat qn)), .second, .val (.long (Int64.ofNat uu)), .second, rv b26, rv ts29, iv (Int32.ofNat ln), .val (.long (Int64.ofNat (own_acc fd ln 4))), .second, .unset, .unset] [(.ref ts29)]))
      refine Go.pre (fun _ k => XS.iconst X37.here hx rfl (hb hby at_163) k) ?_
      show Go p e below _ (T37.setTop (mkF m 164 #[.val (.long p0), .second, .val (.long p1), .second, iv p2, .val (.long (Int64.ofNat qn)), .second, .val (.long (Int64.ofNat uu)), .second, rv b26, rv ts29, iv (Int32.ofNat ln), .val (.long (Int64.ofNat (own_acc fd ln 4))), .second, .unset, .unset] [(.int (5 : Int32)), (.ref ts29)]))
      refine Go.pre (fun _ k => XS.lload X37.here hx rfl (hb hby at_164) rfl k) ?_
      show Go p e below _ (T37.setTop (mkF m 166 #[.val (.long p0), .second, .val (.long p1), .second, iv p2, .val (.long (Int64.ofNat qn)), .second, .val (.long (Int64.ofNat uu)), .second, rv b26, rv ts29, iv (Int32.ofNat ln), .val (.long (Int64.ofNat (own_acc fd ln 4))), .second, .unset, .unset] [(.long (Int64.ofNat (own_acc fd ln 4))), (.int (5 : Int32)), (.ref ts29)]))
      obtain ⟨_, _, ⟨T38, L38, k38, n38⟩, -, X38, ⟨Lc38, hQ38, l38, y38, z38⟩, st38⟩ := Jvm.LawKit.callS X37 hx (y := (⟨"com/example/inferred_grant/inferredgrant/benchmark/SettingRequestUserPinLaw", "step", "(Ljava/lang/String;IJ)J"⟩ : MethodName)) hown29 (mvT hZ29 (hw _ (List.mem_of_getElem? (i := 203) rfl))) (mvT hZ29 (hw _ (List.mem_of_getElem? (i := 204) rfl))) (mvT hZ29 (hw _ (List.mem_of_getElem? (i := 205) rfl))) (mvT hZ29 (hw _ (List.mem_of_getElem? (i := 206) rfl))) (by decide) (backOf (W := 0) (rm_stp l Z a0 hw [] ts29 r29 kr29 us 5 ln fd (own_acc fd ln 4) fm cs T29.heap n0 (Nat.le_trans (Nat.le_trans (Nat.le_trans (Nat.le_trans Z0 E26.1) E27.1) K28.1) K29.1) ((((O.ext E26).ext E27).keep K28 (allS g_b26 all0)).keep K29 all0) SC hcs SF hfm (by omega) (by decide) (by decide) (Nat.lt_of_lt_of_le (own_acc_lt hfd 4) (Nat.le_of_ble_eq_true rfl)) hus ⟨uE29, uC29, uV29, uA29⟩) hZ29 (hw _ (List.mem_of_getElem? (i := 206) rfl)) (hw _ (List.mem_of_getElem? (i := 205) rfl)) (by decide) (by decide)) (g := (mkF m 166 #[.val (.long p0), .second, .val (.long p1), .second, iv p2, .val (.long (Int64.ofNat qn)), .second, .val (.long (Int64.ofNat uu)), .second, rv b26, rv ts29, iv (Int32.ofNat ln), .val (.long (Int64.ofNat (own_acc fd ln 4))), .second, .unset, .unset] [(.long (Int64.ofNat (own_acc fd ln 4))), (.int (5 : Int32)), (.ref ts29)])) rfl (by rw [hml]; rfl) (argsL := [(.ref ts29), (.int (5 : Int32)), (.long (Int64.ofNat (own_acc fd ln 4)))]) (rest := []) (lenOf pd_26 rfl) rfl (by show 2 * 0 + _ ≤ _; exact Nat.le_of_eq rfl) (hb hby at_166) (fun _ _ => ⟨rfl, eh37, (by decide : 9 + 0 ≤ _), (by decide : 63 + 0 ≤ _)⟩)
      dsimp only [Pt.U, Pt.locs, Pt.cells, Pt.slots] at X38 l38 y38 z38 st38 hQ38
      subst l38 y38 z38
      refine Go.pre st38 ?_
      obtain ⟨rfl, N38q, eh38⟩ := hQ38
      have N38 := Fr.app N37 N38q
      show Go p e below _ (T38.setTop (mkF m 169 #[.val (.long p0), .second, .val (.long p1), .second, iv p2, .val (.long (Int64.ofNat qn)), .second, .val (.long (Int64.ofNat uu)), .second, rv b26, rv ts29, iv (Int32.ofNat ln), .val (.long (Int64.ofNat (own_acc fd ln 4))), .second, .unset, .unset] [(.long (Int64.ofNat (if 5 < ln then own_acc fd ln 4 * 10 + fd 5 else own_acc fd ln 4)))]))
      rw [show (if 5 < ln then own_acc fd ln 4 * 10 + fd 5 else own_acc fd ln 4) = own_acc fd ln 5 from rfl]
      show Go p e below _ (T38.setTop (mkF m 169 #[.val (.long p0), .second, .val (.long p1), .second, iv p2, .val (.long (Int64.ofNat qn)), .second, .val (.long (Int64.ofNat uu)), .second, rv b26, rv ts29, iv (Int32.ofNat ln), .val (.long (Int64.ofNat (own_acc fd ln 4))), .second, .unset, .unset] [(.long (Int64.ofNat (own_acc fd ln 5)))]))
      refine Go.pre (fun _ k => XS.lstore X38.here hx rfl (hb hby at_169) rfl (l' := #[.val (.long p0), .second, .val (.long p1), .second, iv p2, .val (.long (Int64.ofNat qn)), .second, .val (.long (Int64.ofNat uu)), .second, rv b26, rv ts29, iv (Int32.ofNat ln), .val (.long (Int64.ofNat (own_acc fd ln 5))), .second, .unset, .unset]) rfl k) ?_
      show Go p e below _ (T38.setTop (mkF m 171 #[.val (.long p0), .second, .val (.long p1), .second, iv p2, .val (.long (Int64.ofNat qn)), .second, .val (.long (Int64.ofNat uu)), .second, rv b26, rv ts29, iv (Int32.ofNat ln), .val (.long (Int64.ofNat (own_acc fd ln 5))), .second, .unset, .unset] []))
      refine Go.pre (fun _ k => XS.aload X38.here hx rfl (hb hby at_171) rfl rfl k) ?_
      show Go p e below _ (T38.setTop (mkF m 173 #[.val (.long p0), .second, .val (.long p1), .second, iv p2, .val (.long (Int64.ofNat qn)), .second, .val (.long (Int64.ofNat uu)), .second, rv b26, rv ts29, iv (Int32.ofNat ln), .val (.long (Int64.ofNat (own_acc fd ln 5))), .second, .unset, .unset] [(.ref ts29)]))
      refine Go.pre (fun _ k => XS.bipush X38.here hx rfl (hb hby at_173) k) ?_
      show Go p e below _ (T38.setTop (mkF m 175 #[.val (.long p0), .second, .val (.long p1), .second, iv p2, .val (.long (Int64.ofNat qn)), .second, .val (.long (Int64.ofNat uu)), .second, rv b26, rv ts29, iv (Int32.ofNat ln), .val (.long (Int64.ofNat (own_acc fd ln 5))), .second, .unset, .unset] [(.int (6 : Int32)), (.ref ts29)]))
      refine Go.pre (fun _ k => XS.lload X38.here hx rfl (hb hby at_175) rfl k) ?_
      show Go p e below _ (T38.setTop (mkF m 177 #[.val (.long p0), .second, .val (.long p1), .second, iv p2, .val (.long (Int64.ofNat qn)), .second, .val (.long (Int64.ofNat uu)), .second, rv b26, rv ts29, iv (Int32.ofNat ln), .val (.long (Int64.ofNat (own_acc fd ln 5))), .second, .unset, .unset] [(.long (Int64.ofNat (own_acc fd ln 5))), (.int (6 : Int32)), (.ref ts29)]))
      obtain ⟨_, _, ⟨T39, L39, k39, n39⟩, -, X39, ⟨Lc39, hQ39, l39, y39, z39⟩, st39⟩ := Jvm.LawKit.callS X38 hx (y := (⟨"com/example/inferred_grant/inferredgrant/benchmark/SettingRequestUserPinLaw", "step", "(Ljava/lang/String;IJ)J"⟩ : MethodName)) hown29 (mvT hZ29 (hw _ (List.mem_of_getElem? (i := 203) rfl))) (mvT hZ29 (hw _ (List.mem_of_getElem? (i := 204) rfl))) (mvT hZ29 (hw _ (List.mem_of_getElem? (i := 205) rfl))) (mvT hZ29 (hw _ (List.mem_of_getElem? (i := 206) rfl))) (by decide) (backOf (W := 0) (rm_stp l Z a0 hw [] ts29 r29 kr29 us 6 ln fd (own_acc fd ln 5) fm cs T29.heap n0 (Nat.le_trans (Nat.le_trans (Nat.le_trans (Nat.le_trans Z0 E26.1) E27.1) K28.1) K29.1) ((((O.ext E26).ext E27).keep K28 (allS g_b26 all0)).keep K29 all0) SC hcs SF hfm (by omega) (by decide) (by decide) (Nat.lt_of_lt_of_le (own_acc_lt hfd 5) (Nat.le_of_ble_eq_true rfl)) hus ⟨uE29, uC29, uV29, uA29⟩) hZ29 (hw _ (List.mem_of_getElem? (i := 206) rfl)) (hw _ (List.mem_of_getElem? (i := 205) rfl)) (by decide) (by decide)) (g := (mkF m 177 #[.val (.long p0), .second, .val (.long p1), .second, iv p2, .val (.long (Int64.ofNat qn)), .second, .val (.long (Int64.ofNat uu)), .second, rv b26, rv ts29, iv (Int32.ofNat ln), .val (.long (Int64.ofNat (own_acc fd ln 5))), .second, .unset, .unset] [(.long (Int64.ofNat (own_acc fd ln 5))), (.int (6 : Int32)), (.ref ts29)])) rfl (by rw [hml]; rfl) (argsL := [(.ref ts29), (.int (6 : Int32)), (.long (Int64.ofNat (own_acc fd ln 5)))]) (rest := []) (lenOf pd_26 rfl) rfl (by show 2 * 0 + _ ≤ _; exact Nat.le_of_eq rfl) (hb hby at_177) (fun _ _ => ⟨rfl, eh38, (by decide : 9 + 0 ≤ _), (by decide : 63 + 0 ≤ _)⟩)
      dsimp only [Pt.U, Pt.locs, Pt.cells, Pt.slots] at X39 l39 y39 z39 st39 hQ39
      subst l39 y39 z39
      refine Go.pre st39 ?_
      obtain ⟨rfl, N39q, eh39⟩ := hQ39
      have N39 := Fr.app N38 N39q
      show Go p e below _ (T39.setTop (mkF m 180 #[.val (.long p0), .second, .val (.long p1), .second, iv p2, .val (.long (Int64.ofNat qn)), .second, .val (.long (Int64.ofNat uu)), .second, rv b26, rv ts29, iv (Int32.ofNat ln), .val (.long (Int64.ofNat (own_acc fd ln 5))), .second, .unset, .unset] [(.long (Int64.ofNat (if 6 < ln then own_acc fd ln 5 * 10 + fd 6 else own_acc fd ln 5)))]))
      rw [show (if 6 < ln then own_acc fd ln 5 * 10 + fd 6 else own_acc fd ln 5) = own_acc fd ln 6 from rfl]
      show Go p e below _ (T39.setTop (mkF m 180 #[.val (.long p0), .second, .val (.long p1), .second, iv p2, .val (.long (Int64.ofNat qn)), .second, .val (.long (Int64.ofNat uu)), .second, rv b26, rv ts29, iv (Int32.ofNat ln), .val (.long (Int64.ofNat (own_acc fd ln 5))), .second, .unset, .unset] [(.long (Int64.ofNat (own_acc fd ln 6)))]))
      refine Go.pre (fun _ k => XS.lstore X39.here hx rfl (hb hby at_180) rfl (l' := #[.val (.long p0), .second, .val (.long p1), .second, iv p2, .val (.long (Int64.ofNat qn)), .second, .val (.long (Int64.ofNat uu)), .second, rv b26, rv ts29, iv (Int32.ofNat ln), .val (.long (Int64.ofNat (own_acc fd ln 6))), .second, .unset, .unset]) rfl k) ?_
      show Go p e below _ (T39.setTop (mkF m 182 #[.val (.long p0), .second, .val (.long p1), .second, iv p2, .val (.long (Int64.ofNat qn)), .second, .val (.long (Int64.ofNat uu)), .second, rv b26, rv ts29, iv (Int32.ofNat ln), .val (.long (Int64.ofNat (own_acc fd ln 6))), .second, .unset, .unset] []))
      refine Go.pre (fun _ k => XS.aload X39.here hx rfl (hb hby at_182) rfl rfl k) ?_
      show Go p e below _ (T39.setTop (mkF m 184 #[.val (.long p0), .second, .val (.long p1), .second, iv p2, .val (.long (Int64.ofNat qn)), .second, .val (.long (Int64.ofNat uu)), .second, rv b26, rv ts29, iv (Int32.ofNat ln), .val (.long (Int64.ofNat (own_acc fd ln 6))), .second, .unset, .unset] [(.ref ts29)]))
      refine Go.pre (fun _ k => XS.bipush X39.here hx rfl (hb hby at_184) k) ?_
      show Go p e below _ (T39.setTop (mkF m 186 #[.val (.long p0), .second, .val (.long p1), .second, iv p2, .val (.long (Int64.ofNat qn)), .second, .val (.long (Int64.ofNat uu)), .second, rv b26, rv ts29, iv (Int32.ofNat ln), .val (.long (Int64.ofNat (own_acc fd ln 6))), .second, .unset, .unset] [(.int (7 : Int32)), (.ref ts29)]))
      refine Go.pre (fun _ k => XS.lload X39.here hx rfl (hb hby at_186) rfl k) ?_
      show Go p e below _ (T39.setTop (mkF m 188 #[.val (.long p0), .second, .val (.long p1), .second, iv p2, .val (.long (Int64.ofNat qn)), .second, .val (.long (Int64.ofNat uu)), .second, rv b26, rv ts29, iv (Int32.ofNat ln), .val (.long (Int64.ofNat (own_acc fd ln 6))), .second, .unset, .unset] [(.long (Int64.ofNat (own_acc fd ln 6))), (.int (7 : Int32)), (.ref ts29)]))
      obtain ⟨_, _, ⟨T40, L40, k40, n40⟩, -, X40, ⟨Lc40, hQ40, l40, y40, z40⟩, st40⟩ := Jvm.LawKit.callS X39 hx (y := (⟨"com/example/inferred_grant/inferredgrant/benchmark/SettingRequestUserPinLaw", "step", "(Ljava/lang/String;IJ)J"⟩ : MethodName)) hown29 (mvT hZ29 (hw _ (List.mem_of_getElem? (i := 203) rfl))) (mvT hZ29 (hw _ (List.mem_of_getElem? (i := 204) rfl))) (mvT hZ29 (hw _ (List.mem_of_getElem? (i := 205) rfl))) (mvT hZ29 (hw _ (List.mem_of_getElem? (i := 206) rfl))) (by decide) (backOf (W := 0) (rm_stp l Z a0 hw [] ts29 r29 kr29 us 7 ln fd (own_acc fd ln 6) fm cs T29.heap n0 (Nat.le_trans (Nat.le_trans (Nat.le_trans (Nat.le_trans Z0 E26.1) E27.1) K28.1) K29.1) ((((O.ext E26).ext E27).keep K28 (allS g_b26 all0)).keep K29 all0) SC hcs SF hfm (by omega) (by decide) (by decide) (Nat.lt_of_lt_of_le (own_acc_lt hfd 6) (Nat.le_of_ble_eq_true rfl)) hus ⟨uE29, uC29, uV29, uA29⟩) hZ29 (hw _ (List.mem_of_getElem? (i := 206) rfl)) (hw _ (List.mem_of_getElem? (i := 205) rfl)) (by decide) (by decide)) (g := (mkF m 188 #[.val (.long p0), .second, .val (.long p1), .second, iv p2, .val (.long (Int64.ofNat qn)), .second, .val (.long (Int64.ofNat uu)), .second, rv b26, rv ts29, iv (Int32.ofNat ln), .val (.long (Int64.ofNat (own_acc fd ln 6))), .second, .unset, .unset] [(.long (Int64.ofNat (own_acc fd ln 6))), (.int (7 : Int32)), (.ref ts29)])) rfl (by rw [hml]; rfl) (argsL := [(.ref ts29), (.int (7 : Int32)), (.long (Int64.ofNat (own_acc fd ln 6)))]) (rest := []) (lenOf pd_26 rfl) rfl (by show 2 * 0 + _ ≤ _; exact Nat.le_of_eq rfl) (hb hby at_188) (fun _ _ => ⟨rfl, eh39, (by decide : 9 + 0 ≤ _), (by decide : 63 + 0 ≤ _)⟩)
      dsimp only [Pt.U, Pt.locs, Pt.cells, Pt.slots] at X40 l40 y40 z40 st40 hQ40
      subst l40 y40 z40
      refine Go.pre st40 ?_
      obtain ⟨rfl, N40q, eh40⟩ := hQ40
      have N40 := Fr.app N39 N40q
      show Go p e below _ (T40.setTop (mkF m 191 #[.val (.long p0), .second, .val (.long p1), .second, iv p2, .val (.long (Int64.ofNat qn)), .second, .val (.long (Int64.ofNat uu)), .second, rv b26, rv ts29, iv (Int32.ofNat ln), .val (.long (Int64.ofNat (own_acc fd ln 6))), .second, .unset, .unset] [(.long (Int64.ofNat (if 7 < ln then own_acc fd ln 6 * 10 + fd 7 else own_acc fd ln 6)))]))
      rw [show (if 7 < ln then own_acc fd ln 6 * 10 + fd 7 else own_acc fd ln 6) = own_acc fd ln 7 from rfl]
      show Go p e below _ (T40.setTop (mkF m 191 #[.val (.long p0), .second, .val (.long p1), .second, iv p2, .val (.long (Int64.ofNat qn)), .second, .val (.long (Int64.ofNat uu)), .second, rv b26, rv ts29, iv (Int32.ofNat ln), .val (.long (Int64.ofNat (own_acc fd ln 6))), .second, .unset, .unset] [(.long (Int64.ofNat (own_acc fd ln 7)))]))
      refine Go.pre (fun _ k => XS.lstore X40.here hx rfl (hb hby at_191) rfl (l' := #[.val (.long p0), .second, .val (.long p1), .second, iv p2, .val (.long (Int64.ofNat qn)), .second, .val (.long (Int64.ofNat uu)), .second, rv b26, rv ts29, iv (Int32.ofNat ln), .val (.long (Int64.ofNat (own_acc fd ln 7))), .second, .unset, .unset]) rfl k) ?_
      show Go p e below _ (T40.setTop (mkF m 193 #[.val (.long p0), .second, .val (.long p1), .second, iv p2, .val (.long (Int64.ofNat qn)), .second, .val (.long (Int64.ofNat uu)), .second, rv b26, rv ts29, iv (Int32.ofNat ln), .val (.long (Int64.ofNat (own_acc fd ln 7))), .second, .unset, .unset] []))
      refine Go.pre (fun _ k => XS.aload X40.here hx rfl (hb hby at_193) rfl rfl k) ?_
      show Go p e below _ (T40.setTop (mkF m 195 #[.val (.long p0), .second, .val (.long p1), .second, iv p2, .val (.long (Int64.ofNat qn)), .second, .val (.long (Int64.ofNat uu)), .second, rv b26, rv ts29, iv (Int32.ofNat ln), .val (.long (Int64.ofNat (own_acc fd ln 7))), .second, .unset, .unset] [(.ref ts29)]))
      refine Go.pre (fun _ k => XS.bipush X40.here hx rfl (hb hby at_195) k) ?_
      show Go p e below _ (T40.setTop (mkF m 197 #[.val (.long p0), .second, .val (.long p1), .second, iv p2, .val (.long (Int64.ofNat qn)), .second, .val (.long (Int64.ofNat uu)), .second, rv b26, rv ts29, iv (Int32.ofNat ln), .val (.long (Int64.ofNat (own_acc fd ln 7))), .second, .unset, .unset] [(.int (8 : Int32)), (.ref ts29)]))
      refine Go.pre (fun _ k => XS.lload X40.here hx rfl (hb hby at_197) rfl k) ?_
      show Go p e below _ (T40.setTop (mkF m 199 #[.val (.long p0), .second, .val (.long p1), .second, iv p2, .val (.long (Int64.ofNat qn)), .second, .val (.long (Int64.ofNat uu)), .second, rv b26, rv ts29, iv (Int32.ofNat ln), .val (.long (Int64.ofNat (own_acc fd ln 7))), .second, .unset, .unset] [(.long (Int64.ofNat (own_acc fd ln 7))), (.int (8 : Int32)), (.ref ts29)]))
      obtain ⟨_, _, ⟨T41, L41, k41, n41⟩, -, X41, ⟨Lc41, hQ41, l41, y41, z41⟩, st41⟩ := Jvm.LawKit.callS X40 hx (y := (⟨"com/example/inferred_grant/inferredgrant/benchmark/SettingRequestUserPinLaw", "step", "(Ljava/lang/String;IJ)J"⟩ : MethodName)) hown29 (mvT hZ29 (hw _ (List.mem_of_getElem? (i := 203) rfl))) (mvT hZ29 (hw _ (List.mem_of_getElem? (i := 204) rfl))) (mvT hZ29 (hw _ (List.mem_of_getElem? (i := 205) rfl))) (mvT hZ29 (hw _ (List.mem_of_getElem? (i := 206) rfl))) (by decide) (backOf (W := 0) (rm_stp l Z a0 hw [] ts29 r29 kr29 us 8 ln fd (own_acc fd ln 7) fm cs T29.heap n0 (Nat.le_trans (Nat.le_trans (Nat.le_trans (Nat.le_trans Z0 E26.1) E27.1) K28.1) K29.1) ((((O.ext E26).ext E27).keep K28 (allS g_b26 all0)).keep K29 all0) SC hcs SF hfm (by omega) (by decide) (by decide) (Nat.lt_of_lt_of_le (own_acc_lt hfd 7) (Nat.le_of_ble_eq_true rfl)) hus ⟨uE29, uC29, uV29, uA29⟩) hZ29 (hw _ (List.mem_of_getElem? (i := 206) rfl)) (hw _ (List.mem_of_getElem? (i := 205) rfl)) (by decide) (by decide)) (g := (mkF m 199 #[.val (.long p0), .second, .val (.long p1), .second, iv p2, .val (.long (Int64.ofNat qn)), .second, .val (.long (Int64.ofNat uu)), .second, rv b26, rv ts29, iv (Int32.ofNat ln), .val (.long (Int64.ofNat (own_acc fd ln 7))), .second, .unset, .unset] [(.long (Int64.ofNat (own_acc fd ln 7))), (.int (8 : Int32)), (.ref ts29)])) rfl (by rw [hml]; rfl) (argsL := [(.ref ts29), (.int (8 : Int32)), (.long (Int64.ofNat (own_acc fd ln 7)))]) (rest := []) (lenOf pd_26 rfl) rfl (by show 2 * 0 + _ ≤ _; exact Nat.le_of_eq rfl) (hb hby at_199) (fun _ _ => ⟨rfl, eh40, (by decide : 9 + 0 ≤ _), (by decide : 63 + 0 ≤ _)⟩)
      dsimp only [Pt.U, Pt.locs, Pt.cells, Pt.slots] at X41 l41 y41 z41 st41 hQ41
      subst l41 y41 z41
      refine Go.pre st41 ?_
      obtain ⟨rfl, N41q, eh41⟩ := hQ41
      have N41 := Fr.app N40 N41q
      show Go p e below _ (T41.setTop (mkF m 202 #[.val (.long p0), .second, .val (.long p1), .second, iv p2, .val (.long (Int64.ofNat qn)), .second, .val (.long (Int64.ofNat uu)), .second, rv b26, rv ts29, iv (Int32.ofNat ln), .val (.long (Int64.ofNat (own_acc fd ln 7))), .second, .unset, .unset] [(.long (Int64.ofNat (if 8 < ln then own_acc fd ln 7 * 10 + fd 8 else own_acc fd ln 7)))]))
      rw [show (if 8 < ln then own_acc fd ln 7 * 10 + fd 8 else own_acc fd ln 7) = own_acc fd ln 8 from rfl]
      show Go p e below _ (T41.setTop (mkF m 202 #[.val (.long p0), .second, .val (.long p1), .second, iv p2, .val (.long (Int64.ofNat qn)), .second, .val (.long (Int64.ofNat uu)), .second, rv b26, rv ts29, iv (Int32.ofNat ln), .val (.long (Int64.ofNat (own_acc fd ln 7))), .second, .unset, .unset] [(.long (Int64.ofNat (own_acc fd ln 8)))]))
      refine Go.pre (fun _ k => XS.lstore X41.here hx rfl (hb hby at_202) rfl (l' := #[.val (.long p0), .second, .val (.long p1), .second, iv p2, .val (.long (Int64.ofNat qn)), .second, .val (.long (Int64.ofNat uu)), .second, rv b26, rv ts29, iv (Int32.ofNat ln), .val (.long (Int64.ofNat (own_acc fd ln 8))), .second, .unset, .unset]) rfl k) ?_
      show Go p e below _ (T41.setTop (mkF m 204 #[.val (.long p0), .second, .val (.long p1), .second, iv p2, .val (.long (Int64.ofNat qn)), .second, .val (.long (Int64.ofNat uu)), .second, rv b26, rv ts29, iv (Int32.ofNat ln), .val (.long (Int64.ofNat (own_acc fd ln 8))), .second, .unset, .unset] []))
      rw [hacc]
      show Go p e below _ (T41.setTop (mkF m 204 #[.val (.long p0), .second, .val (.long p1), .second, iv p2, .val (.long (Int64.ofNat qn)), .second, .val (.long (Int64.ofNat uu)), .second, rv b26, rv ts29, iv (Int32.ofNat ln), .val (.long (Int64.ofNat nu)), .second, .unset, .unset] []))
      refine Go.pre (fun _ k => XS.lload X41.here hx rfl (hb hby at_204) rfl k) ?_
      show Go p e below _ (T41.setTop (mkF m 206 #[.val (.long p0), .second, .val (.long p1), .second, iv p2, .val (.long (Int64.ofNat qn)), .second, .val (.long (Int64.ofNat uu)), .second, rv b26, rv ts29, iv (Int32.ofNat ln), .val (.long (Int64.ofNat nu)), .second, .unset, .unset] [(.long (Int64.ofNat nu))]))
      refine Go.pre (fun _ k => XS.lconst X41.here hx rfl (hb hby at_206) k) ?_
      show Go p e below _ (T41.setTop (mkF m 207 #[.val (.long p0), .second, .val (.long p1), .second, iv p2, .val (.long (Int64.ofNat qn)), .second, .val (.long (Int64.ofNat uu)), .second, rv b26, rv ts29, iv (Int32.ofNat ln), .val (.long (Int64.ofNat nu)), .second, .unset, .unset] [(.long (0 : Int64)), (.long (Int64.ofNat nu))]))
      refine Go.pre (fun _ k => XS.lcmp X41.here hx rfl (hb hby at_207) rfl k) ?_
      show Go p e below _ (T41.setTop (mkF m 208 #[.val (.long p0), .second, .val (.long p1), .second, iv p2, .val (.long (Int64.ofNat qn)), .second, .val (.long (Int64.ofNat uu)), .second, rv b26, rv ts29, iv (Int32.ofNat ln), .val (.long (Int64.ofNat nu)), .second, .unset, .unset] [(.int (lcmpW (Int64.ofNat nu) (0 : Int64)))]))
      refine Go.pre (fun _ k => XS.ifYes X41.here hx rfl (pc0 := 208) (pc' := 213) rfl (hb hby at_208) rfl ((if0 _ _).trans (flt (own_ltF (own_nlneg (by omega)))).2.1) (by decide) (by decide) k) ?_
      show Go p e below _ (T41.setTop (mkF m 213 #[.val (.long p0), .second, .val (.long p1), .second, iv p2, .val (.long (Int64.ofNat qn)), .second, .val (.long (Int64.ofNat uu)), .second, rv b26, rv ts29, iv (Int32.ofNat ln), .val (.long (Int64.ofNat nu)), .second, .unset, .unset] []))
      refine Go.pre (X41.ldc2Long hx hown29 (mvT hZ29 (hw _ (List.mem_of_getElem? (i := 208) rfl))) (g := (mkF m 213 #[.val (.long p0), .second, .val (.long p1), .second, iv p2, .val (.long (Int64.ofNat qn)), .second, .val (.long (Int64.ofNat uu)), .second, rv b26, rv ts29, iv (Int32.ofNat ln), .val (.long (Int64.ofNat nu)), .second, .unset, .unset] [])) rfl (hb hby at_213)) ?_
      show Go p e below _ (T41.setTop (mkF m 216 #[.val (.long p0), .second, .val (.long p1), .second, iv p2, .val (.long (Int64.ofNat qn)), .second, .val (.long (Int64.ofNat uu)), .second, rv b26, rv ts29, iv (Int32.ofNat ln), .val (.long (Int64.ofNat nu)), .second, .unset, .unset] [(.long (7919 : Int64))]))
      refine Go.pre (fun _ k => XS.lload X41.here hx rfl (hb hby at_216) rfl k) ?_
      show Go p e below _ (T41.setTop (mkF m 218 #[.val (.long p0), .second, .val (.long p1), .second, iv p2, .val (.long (Int64.ofNat qn)), .second, .val (.long (Int64.ofNat uu)), .second, rv b26, rv ts29, iv (Int32.ofNat ln), .val (.long (Int64.ofNat nu)), .second, .unset, .unset] [(.long (Int64.ofNat qn)), (.long (7919 : Int64))]))
      refine Go.pre (fun _ k => XS.lmul X41.here hx rfl (hb hby at_218) rfl k) ?_
      show Go p e below _ (T41.setTop (mkF m 219 #[.val (.long p0), .second, .val (.long p1), .second, iv p2, .val (.long (Int64.ofNat qn)), .second, .val (.long (Int64.ofNat uu)), .second, rv b26, rv ts29, iv (Int32.ofNat ln), .val (.long (Int64.ofNat nu)), .second, .unset, .unset] [(.long ((Int64.ofNat 7919) * (Int64.ofNat qn)))]))
      rw [own_lmul]
      show Go p e below _ (T41.setTop (mkF m 219 #[.val (.long p0), .second, .val (.long p1), .second, iv p2, .val (.long (Int64.ofNat qn)), .second, .val (.long (Int64.ofNat uu)), .second, rv b26, rv ts29, iv (Int32.ofNat ln), .val (.long (Int64.ofNat nu)), .second, .unset, .unset] [(.long (Int64.ofNat (7919 * qn)))]))
      refine Go.pre (fun _ k => XS.lstore X41.here hx rfl (hb hby at_219) rfl (l' := #[.val (.long p0), .second, .val (.long p1), .second, iv p2, .val (.long (Int64.ofNat qn)), .second, .val (.long (Int64.ofNat uu)), .second, rv b26, rv ts29, iv (Int32.ofNat ln), .val (.long (Int64.ofNat nu)), .second, .val (.long (Int64.ofNat (7919 * qn))), .second]) rfl k) ?_
      show Go p e below _ (T41.setTop (mkF m 221 #[.val (.long p0), .second, .val (.long p1), .second, iv p2, .val (.long (Int64.ofNat qn)), .second, .val (.long (Int64.ofNat uu)), .second, rv b26, rv ts29, iv (Int32.ofNat ln), .val (.long (Int64.ofNat nu)), .second, .val (.long (Int64.ofNat (7919 * qn))), .second] []))
      refine Go.pre (fun _ k => XS.lload X41.here hx rfl (hb hby at_221) rfl k) ?_
      show Go p e below _ (T41.setTop (mkF m 223 #[.val (.long p0), .second, .val (.long p1), .second, iv p2, .val (.long (Int64.ofNat qn)), .second, .val (.long (Int64.ofNat uu)), .second, rv b26, rv ts29, iv (Int32.ofNat ln), .val (.long (Int64.ofNat nu)), .second, .val (.long (Int64.ofNat (7919 * qn))), .second] [(.long (Int64.ofNat nu))]))
      refine Go.pre (fun _ k => XS.lload X41.here hx rfl (hb hby at_223) rfl k) ?_
      show Go p e below _ (T41.setTop (mkF m 225 #[.val (.long p0), .second, .val (.long p1), .second, iv p2, .val (.long (Int64.ofNat qn)), .second, .val (.long (Int64.ofNat uu)), .second, rv b26, rv ts29, iv (Int32.ofNat ln), .val (.long (Int64.ofNat nu)), .second, .val (.long (Int64.ofNat (7919 * qn))), .second] [(.long (Int64.ofNat uu)), (.long (Int64.ofNat nu))]))
      refine Go.pre (fun _ k => XS.lcmp X41.here hx rfl (hb hby at_225) rfl k) ?_
      show Go p e below _ (T41.setTop (mkF m 226 #[.val (.long p0), .second, .val (.long p1), .second, iv p2, .val (.long (Int64.ofNat qn)), .second, .val (.long (Int64.ofNat uu)), .second, rv b26, rv ts29, iv (Int32.ofNat ln), .val (.long (Int64.ofNat nu)), .second, .val (.long (Int64.ofNat (7919 * qn))), .second] [(.int (lcmpW (Int64.ofNat nu) (Int64.ofNat uu)))]))
      refine Go.pre (fun _ k => XS.ifNo X41.here hx rfl (hb hby at_226) rfl ((if0 _ _).trans (tlt (own_ltT ((own_ll (by omega) (by omega)).mpr hlt))).2.1) k) ?_
      show Go p e below _ (T41.setTop (mkF m 229 #[.val (.long p0), .second, .val (.long p1), .second, iv p2, .val (.long (Int64.ofNat qn)), .second, .val (.long (Int64.ofNat uu)), .second, rv b26, rv ts29, iv (Int32.ofNat ln), .val (.long (Int64.ofNat nu)), .second, .val (.long (Int64.ofNat (7919 * qn))), .second] []))
      refine Go.pre (fun _ k => XS.lload X41.here hx rfl (hb hby at_229) rfl k) ?_
      show Go p e below _ (T41.setTop (mkF m 231 #[.val (.long p0), .second, .val (.long p1), .second, iv p2, .val (.long (Int64.ofNat qn)), .second, .val (.long (Int64.ofNat uu)), .second, rv b26, rv ts29, iv (Int32.ofNat ln), .val (.long (Int64.ofNat nu)), .second, .val (.long (Int64.ofNat (7919 * qn))), .second] [(.long (Int64.ofNat (7919 * qn)))]))
      refine Go.pre (fun _ k => XS.lload X41.here hx rfl (hb hby at_231) rfl k) ?_
      show Go p e below _ (T41.setTop (mkF m 233 #[.val (.long p0), .second, .val (.long p1), .second, iv p2, .val (.long (Int64.ofNat qn)), .second, .val (.long (Int64.ofNat uu)), .second, rv b26, rv ts29, iv (Int32.ofNat ln), .val (.long (Int64.ofNat nu)), .second, .val (.long (Int64.ofNat (7919 * qn))), .second] [(.long (Int64.ofNat nu)), (.long (Int64.ofNat (7919 * qn)))]))
      refine Go.pre (fun _ k => XS.lsub X41.here hx rfl (hb hby at_233) rfl k) ?_
      show Go p e below _ (T41.setTop (mkF m 234 #[.val (.long p0), .second, .val (.long p1), .second, iv p2, .val (.long (Int64.ofNat qn)), .second, .val (.long (Int64.ofNat uu)), .second, rv b26, rv ts29, iv (Int32.ofNat ln), .val (.long (Int64.ofNat nu)), .second, .val (.long (Int64.ofNat (7919 * qn))), .second] [(.long ((Int64.ofNat (7919 * qn)) - (Int64.ofNat nu)))]))
      rw [own_lsub hle]
      show Go p e below _ (T41.setTop (mkF m 234 #[.val (.long p0), .second, .val (.long p1), .second, iv p2, .val (.long (Int64.ofNat qn)), .second, .val (.long (Int64.ofNat uu)), .second, rv b26, rv ts29, iv (Int32.ofNat ln), .val (.long (Int64.ofNat nu)), .second, .val (.long (Int64.ofNat (7919 * qn))), .second] [(.long (Int64.ofNat (7919 * qn - nu)))]))
      refine Go.pre (fun _ k => XS.lload X41.here hx rfl (hb hby at_234) rfl k) ?_
      show Go p e below _ (T41.setTop (mkF m 236 #[.val (.long p0), .second, .val (.long p1), .second, iv p2, .val (.long (Int64.ofNat qn)), .second, .val (.long (Int64.ofNat uu)), .second, rv b26, rv ts29, iv (Int32.ofNat ln), .val (.long (Int64.ofNat nu)), .second, .val (.long (Int64.ofNat (7919 * qn))), .second] [(.long (Int64.ofNat uu)), (.long (Int64.ofNat (7919 * qn - nu)))]))
      refine Go.pre (fun _ k => XS.lrem X41.here hx rfl (hb hby at_236) rfl (own_lnz hu0 hu1) k) ?_
      show Go p e below _ (T41.setTop (mkF m 237 #[.val (.long p0), .second, .val (.long p1), .second, iv p2, .val (.long (Int64.ofNat qn)), .second, .val (.long (Int64.ofNat uu)), .second, rv b26, rv ts29, iv (Int32.ofNat ln), .val (.long (Int64.ofNat nu)), .second, .val (.long (Int64.ofNat (7919 * qn))), .second] [(.long ((Int64.ofNat (7919 * qn - nu)) - (Int64.ofNat (7919 * qn - nu)) / (Int64.ofNat uu) * (Int64.ofNat uu)))]))
      rw [own_lrem (by omega) hu1, hz0]
      show Go p e below _ (T41.setTop (mkF m 237 #[.val (.long p0), .second, .val (.long p1), .second, iv p2, .val (.long (Int64.ofNat qn)), .second, .val (.long (Int64.ofNat uu)), .second, rv b26, rv ts29, iv (Int32.ofNat ln), .val (.long (Int64.ofNat nu)), .second, .val (.long (Int64.ofNat (7919 * qn))), .second] [(.long (0 : Int64))]))
      refine Go.pre (fun _ k => XS.lconst X41.here hx rfl (hb hby at_237) k) ?_
      show Go p e below _ (T41.setTop (mkF m 238 #[.val (.long p0), .second, .val (.long p1), .second, iv p2, .val (.long (Int64.ofNat qn)), .second, .val (.long (Int64.ofNat uu)), .second, rv b26, rv ts29, iv (Int32.ofNat ln), .val (.long (Int64.ofNat nu)), .second, .val (.long (Int64.ofNat (7919 * qn))), .second] [(.long (0 : Int64)), (.long (0 : Int64))]))
      refine Go.pre (fun _ k => XS.lcmp X41.here hx rfl (hb hby at_238) rfl k) ?_
      show Go p e below _ (T41.setTop (mkF m 239 #[.val (.long p0), .second, .val (.long p1), .second, iv p2, .val (.long (Int64.ofNat qn)), .second, .val (.long (Int64.ofNat uu)), .second, rv b26, rv ts29, iv (Int32.ofNat ln), .val (.long (Int64.ofNat nu)), .second, .val (.long (Int64.ofNat (7919 * qn))), .second] [(.int (lcmpW (0 : Int64) (0 : Int64)))]))
      refine Go.pre (fun _ k => XS.ifNo X41.here hx rfl (hb hby at_239) rfl ((if0 _ _).trans (teq (own_eqT (by decide : (0 : Int64) = (0 : Int64)))).2) k) ?_
      show Go p e below _ (T41.setTop (mkF m 242 #[.val (.long p0), .second, .val (.long p1), .second, iv p2, .val (.long (Int64.ofNat qn)), .second, .val (.long (Int64.ofNat uu)), .second, rv b26, rv ts29, iv (Int32.ofNat ln), .val (.long (Int64.ofNat nu)), .second, .val (.long (Int64.ofNat (7919 * qn))), .second] []))
      refine Go.pre (fun _ k => XS.iconst X41.here hx rfl (hb hby at_242) k) ?_
      show Go p e below _ (T41.setTop (mkF m 243 #[.val (.long p0), .second, .val (.long p1), .second, iv p2, .val (.long (Int64.ofNat qn)), .second, .val (.long (Int64.ofNat uu)), .second, rv b26, rv ts29, iv (Int32.ofNat ln), .val (.long (Int64.ofNat nu)), .second, .val (.long (Int64.ofNat (7919 * qn))), .second] [(.int (1 : Int32))]))
      refine Go.pre (fun _ k => XS.goto X41.here hx rfl (pc0 := 243) (pc' := 247) rfl (hb hby at_243) (by decide) (by decide) k) ?_
      show Go p e below _ (T41.setTop (mkF m 247 #[.val (.long p0), .second, .val (.long p1), .second, iv p2, .val (.long (Int64.ofNat qn)), .second, .val (.long (Int64.ofNat uu)), .second, rv b26, rv ts29, iv (Int32.ofNat ln), .val (.long (Int64.ofNat nu)), .second, .val (.long (Int64.ofNat (7919 * qn))), .second] [(.int (1 : Int32))]))
      have hkf : T29.heap.size ≤ T41.heap.size := by rw [show T41.heap = T29.heap from eh41]; exact (Nat.le_refl T29.heap.size)
      obtain ⟨fs, hr, hrun, hended, hRE⟩ := Stand.leaveW (s := s) (vm₁ := T29.vm) X41 hS29 hkf (v := some (.int (1 : Int32))) (fun h => by rw [Bd.returns] at h; cases h)
      have CRf := CR29.trans (CHv.at (s := s) (vm0 := T29.vm) X41 hZ29 hEL CR29.1)
      refine Go.fin (retN X41 hx (t := .boolean) Bd.returns (by simp) (hb hby at_247) hr) ⟨hrun, hended, _, _, rfl, ?_, ?_, hRE.1, hRE.2.1, hRE.2.2.1, hRE.2.2.2.mono (by decide) (by decide)⟩
      · skip
        exact ⟨rfl, N41⟩
      · rw [hh]
        show CHr Z EL s.vm h0 T41.vm T41.heap
        rw [show T41.heap = T29.heap from eh41]
        exact CRf
    · skip
      refine Go.pre (fun _ k => XS.icmpYes X31.here hx rfl (pc0 := 102) (pc' := 118) rfl (hb hby at_102) rfl (flt (fun q => hc102_32 ((own_ol (a := 2) (b := ln) (by omega) (by omega)).mp q))).2.2.2 (by decide) (by decide) k) ?_
      show Go p e below _ (T31.setTop (mkF m 118 #[.val (.long p0), .second, .val (.long p1), .second, iv p2, .val (.long (Int64.ofNat qn)), .second, .val (.long (Int64.ofNat uu)), .second, rv b26, rv ts29, iv (Int32.ofNat ln), .unset, .unset, .unset, .unset] []))
      refine Go.pre (fun _ k => XS.lconst X31.here hx rfl (hb hby at_118) k) ?_
      show Go p e below _ (T31.setTop (mkF m 119 #[.val (.long p0), .second, .val (.long p1), .second, iv p2, .val (.long (Int64.ofNat qn)), .second, .val (.long (Int64.ofNat uu)), .second, rv b26, rv ts29, iv (Int32.ofNat ln), .unset, .unset, .unset, .unset] [(.long (Int64.ofNat (own_acc fd ln 0)))]))
      refine Go.pre (fun _ k => XS.lstore X31.here hx rfl (hb hby at_119) rfl (l' := #[.val (.long p0), .second, .val (.long p1), .second, iv p2, .val (.long (Int64.ofNat qn)), .second, .val (.long (Int64.ofNat uu)), .second, rv b26, rv ts29, iv (Int32.ofNat ln), .val (.long (Int64.ofNat (own_acc fd ln 0))), .second, .unset, .unset]) rfl k) ?_
      show Go p e below _ (T31.setTop (mkF m 121 #[.val (.long p0), .second, .val (.long p1), .second, iv p2, .val (.long (Int64.ofNat qn)), .second, .val (.long (Int64.ofNat uu)), .second, rv b26, rv ts29, iv (Int32.ofNat ln), .val (.long (Int64.ofNat (own_acc fd ln 0))), .second, .unset, .unset] []))
      refine Go.pre (fun _ k => XS.aload X31.here hx rfl (hb hby at_121) rfl rfl k) ?_
      show Go p e below _ (T31.setTop (mkF m 123 #[.val (.long p0), .second, .val (.long p1), .second, iv p2, .val (.long (Int64.ofNat qn)), .second, .val (.long (Int64.ofNat uu)), .second, rv b26, rv ts29, iv (Int32.ofNat ln), .val (.long (Int64.ofNat (own_acc fd ln 0))), .second, .unset, .unset] [(.ref ts29)]))
      refine Go.pre (fun _ k => XS.iconst X31.here hx rfl (hb hby at_123) k) ?_
      show Go p e below _ (T31.setTop (mkF m 124 #[.val (.long p0), .second, .val (.long p1), .second, iv p2, .val (.long (Int64.ofNat qn)), .second, .val (.long (Int64.ofNat uu)), .second, rv b26, rv ts29, iv (Int32.ofNat ln), .val (.long (Int64.ofNat (own_acc fd ln 0))), .second, .unset, .unset] [(.int (1 : Int32)), (.ref ts29)]))
      refine Go.pre (fun _ k => XS.lload X31.here hx rfl (hb hby at_124) rfl k) ?_
      show Go p e below _ (T31.setTop (mkF m 126 #[.val (.long p0), .second, .val (.long p1), .second, iv p2, .val (.long (Int64.ofNat qn)), .second, .val (.long (Int64.ofNat uu)), .second, rv b26, rv ts29, iv (Int32.ofNat ln), .val (.long (Int64.ofNat (own_acc fd ln 0))), .second, .unset, .unset] [(.long (Int64.ofNat (own_acc fd ln 0))), (.int (1 : Int32)), (.ref ts29)]))
      obtain ⟨_, _, ⟨T42, L42, k42, n42⟩, -, X42, ⟨Lc42, hQ42, l42, y42, z42⟩, st42⟩ := Jvm.LawKit.callS X31 hx (y := (⟨"com/example/inferred_grant/inferredgrant/benchmark/SettingRequestUserPinLaw", "step", "(Ljava/lang/String;IJ)J"⟩ : MethodName)) hown29 (mvT hZ29 (hw _ (List.mem_of_getElem? (i := 203) rfl))) (mvT hZ29 (hw _ (List.mem_of_getElem? (i := 204) rfl))) (mvT hZ29 (hw _ (List.mem_of_getElem? (i := 205) rfl))) (mvT hZ29 (hw _ (List.mem_of_getElem? (i := 206) rfl))) (by decide) (backOf (W := 0) (rm_stp l Z a0 hw [] ts29 r29 kr29 us 1 ln fd (own_acc fd ln 0) fm cs T29.heap n0 (Nat.le_trans (Nat.le_trans (Nat.le_trans (Nat.le_trans Z0 E26.1) E27.1) K28.1) K29.1) ((((O.ext E26).ext E27).keep K28 (allS g_b26 all0)).keep K29 all0) SC hcs SF hfm (by omega) (by decide) (by decide) (Nat.lt_of_lt_of_le (own_acc_lt hfd 0) (Nat.le_of_ble_eq_true rfl)) hus ⟨uE29, uC29, uV29, uA29⟩) hZ29 (hw _ (List.mem_of_getElem? (i := 206) rfl)) (hw _ (List.mem_of_getElem? (i := 205) rfl)) (by decide) (by decide)) (g := (mkF m 126 #[.val (.long p0), .second, .val (.long p1), .second, iv p2, .val (.long (Int64.ofNat qn)), .second, .val (.long (Int64.ofNat uu)), .second, rv b26, rv ts29, iv (Int32.ofNat ln), .val (.long (Int64.ofNat (own_acc fd ln 0))), .second, .unset, .unset] [(.long (Int64.ofNat (own_acc fd ln 0))), (.int (1 : Int32)), (.ref ts29)])) rfl (by rw [hml]; rfl) (argsL := [(.ref ts29), (.int (1 : Int32)), (.long (Int64.ofNat (own_acc fd ln 0)))]) (rest := []) (lenOf pd_26 rfl) rfl (by show 2 * 0 + _ ≤ _; exact Nat.le_of_eq rfl) (hb hby at_126) (fun _ _ => ⟨rfl, eh31, (by decide : 9 + 0 ≤ _), (by decide : 63 + 0 ≤ _)⟩)
      dsimp only [Pt.U, Pt.locs, Pt.cells, Pt.slots] at X42 l42 y42 z42 st42 hQ42
      subst l42 y42 z42
      refine Go.pre st42 ?_
      obtain ⟨rfl, N42q, eh42⟩ := hQ42
      have N42 := Fr.app N31 N42q
      show Go p e below _ (T42.setTop (mkF m 129 #[.val (.long p0), .second, .val (.long p1), .second, iv p2, .val (.long (Int64.ofNat qn)), .second, .val (.long (Int64.ofNat uu)), .second, rv b26, rv ts29, iv (Int32.ofNat ln), .val (.long (Int64.ofNat (own_acc fd ln 0))), .second, .unset, .unset] [(.long (Int64.ofNat (if 1 < ln then own_acc fd ln 0 * 10 + fd 1 else own_acc fd ln 0)))]))
      rw [show (if 1 < ln then own_acc fd ln 0 * 10 + fd 1 else own_acc fd ln 0) = own_acc fd ln 1 from rfl]
      show Go p e below _ (T42.setTop (mkF m 129 #[.val (.long p0), .second, .val (.long p1), .second, iv p2, .val (.long (Int64.ofNat qn)), .second, .val (.long (Int64.ofNat uu)), .second, rv b26, rv ts29, iv (Int32.ofNat ln), .val (.long (Int64.ofNat (own_acc fd ln 0))), .second, .unset, .unset] [(.long (Int64.ofNat (own_acc fd ln 1)))]))
      refine Go.pre (fun _ k => XS.lstore X42.here hx rfl (hb hby at_129) rfl (l' := #[.val (.long p0), .second, .val (.long p1), .second, iv p2, .val (.long (Int64.ofNat qn)), .second, .val (.long (Int64.ofNat uu)), .second, rv b26, rv ts29, iv (Int32.ofNat ln), .val (.long (Int64.ofNat (own_acc fd ln 1))), .second, .unset, .unset]) rfl k) ?_
      show Go p e below _ (T42.setTop (mkF m 131 #[.val (.long p0), .second, .val (.long p1), .second, iv p2, .val (.long (Int64.ofNat qn)), .second, .val (.long (Int64.ofNat uu)), .second, rv b26, rv ts29, iv (Int32.ofNat ln), .val (.long (Int64.ofNat (own_acc fd ln 1))), .second, .unset, .unset] []))
      refine Go.pre (fun _ k => XS.aload X42.here hx rfl (hb hby at_131) rfl rfl k) ?_
      show Go p e below _ (T42.setTop (mkF m 133 #[.val (.long p0), .second, .val (.long p1), .second, iv p2, .val (.long (Int64.ofNat qn)), .second, .val (.long (Int64.ofNat uu)), .second, rv b26, rv ts29, iv (Int32.ofNat ln), .val (.long (Int64.ofNat (own_acc fd ln 1))), .second, .unset, .unset] [(.ref ts29)]))
      refine Go.pre (fun _ k => XS.iconst X42.here hx rfl (hb hby at_133) k) ?_
      show Go p e below _ (T42.setTop (mkF m 134 #[.val (.long p0), .second, .val (.long p1), .second, iv p2, .val (.long (Int64.ofNat qn)), .second, .val (.long (Int64.ofNat uu)), .second, rv b26, rv ts29, iv (Int32.ofNat ln), .val (.long (Int64.ofNat (own_acc fd ln 1))), .second, .unset, .unset] [(.int (2 : Int32)), (.ref ts29)]))
      refine Go.pre (fun _ k => XS.lload X42.here hx rfl (hb hby at_134) rfl k) ?_
      show Go p e below _ (T42.setTop (mkF m 136 #[.val (.long p0), .second, .val (.long p1), .second, iv p2, .val (.long (Int64.ofNat qn)), .second, .val (.long (Int64.ofNat uu)), .second, rv b26, rv ts29, iv (Int32.ofNat ln), .val (.long (Int64.ofNat (own_acc fd ln 1))), .second, .unset, .unset] [(.long (Int64.ofNat (own_acc fd ln 1))), (.int (2 : Int32)), (.ref ts29)]))
      obtain ⟨_, _, ⟨T43, L43, k43, n43⟩, -, X43, ⟨Lc43, hQ43, l43, y43, z43⟩, st43⟩ := Jvm.LawKit.callS X42 hx (y := (⟨"com/example/inferred_grant/inferredgrant/benchmark/SettingRequestUserPinLaw", "step", "(Ljava/lang/String;IJ)J"⟩ : MethodName)) hown29 (mvT hZ29 (hw _ (List.mem_of_getElem? (i := 203) rfl))) (mvT hZ29 (hw _ (List.mem_of_getElem? (i := 204) rfl))) (mvT hZ29 (hw _ (List.mem_of_getElem? (i := 205) rfl))) (mvT hZ29 (hw _ (List.mem_of_getElem? (i := 206) rfl))) (by decide) (backOf (W := 0) (rm_stp l Z a0 hw [] ts29 r29 kr29 us 2 ln fd (own_acc fd ln 1) fm cs T29.heap n0 (Nat.le_trans (Nat.le_trans (Nat.le_trans (Nat.le_trans Z0 E26.1) E27.1) K28.1) K29.1) ((((O.ext E26).ext E27).keep K28 (allS g_b26 all0)).keep K29 all0) SC hcs SF hfm (by omega) (by decide) (by decide) (Nat.lt_of_lt_of_le (own_acc_lt hfd 1) (Nat.le_of_ble_eq_true rfl)) hus ⟨uE29, uC29, uV29, uA29⟩) hZ29 (hw _ (List.mem_of_getElem? (i := 206) rfl)) (hw _ (List.mem_of_getElem? (i := 205) rfl)) (by decide) (by decide)) (g := (mkF m 136 #[.val (.long p0), .second, .val (.long p1), .second, iv p2, .val (.long (Int64.ofNat qn)), .second, .val (.long (Int64.ofNat uu)), .second, rv b26, rv ts29, iv (Int32.ofNat ln), .val (.long (Int64.ofNat (own_acc fd ln 1))), .second, .unset, .unset] [(.long (Int64.ofNat (own_acc fd ln 1))), (.int (2 : Int32)), (.ref ts29)])) rfl (by rw [hml]; rfl) (argsL := [(.ref ts29), (.int (2 : Int32)), (.long (Int64.ofNat (own_acc fd ln 1)))]) (rest := []) (lenOf pd_26 rfl) rfl (by show 2 * 0 + _ ≤ _; exact Nat.le_of_eq rfl) (hb hby at_136) (fun _ _ => ⟨rfl, eh42, (by decide : 9 + 0 ≤ _), (by decide : 63 + 0 ≤ _)⟩)
      dsimp only [Pt.U, Pt.locs, Pt.cells, Pt.slots] at X43 l43 y43 z43 st43 hQ43
      subst l43 y43 z43
      refine Go.pre st43 ?_
      obtain ⟨rfl, N43q, eh43⟩ := hQ43
      have N43 := Fr.app N42 N43q
      show Go p e below _ (T43.setTop (mkF m 139 #[.val (.long p0), .second, .val (.long p1), .second, iv p2, .val (.long (Int64.ofNat qn)), .second, .val (.long (Int64.ofNat uu)), .second, rv b26, rv ts29, iv (Int32.ofNat ln), .val (.long (Int64.ofNat (own_acc fd ln 1))), .second, .unset, .unset] [(.long (Int64.ofNat (if 2 < ln then own_acc fd ln 1 * 10 + fd 2 else own_acc fd ln 1)))]))
      rw [show (if 2 < ln then own_acc fd ln 1 * 10 + fd 2 else own_acc fd ln 1) = own_acc fd ln 2 from rfl]
      show Go p e below _ (T43.setTop (mkF m 139 #[.val (.long p0), .second, .val (.long p1), .second, iv p2, .val (.long (Int64.ofNat qn)), .second, .val (.long (Int64.ofNat uu)), .second, rv b26, rv ts29, iv (Int32.ofNat ln), .val (.long (Int64.ofNat (own_acc fd ln 1))), .second, .unset, .unset] [(.long (Int64.ofNat (own_acc fd ln 2)))]))
      refine Go.pre (fun _ k => XS.lstore X43.here hx rfl (hb hby at_139) rfl (l' := #[.val (.long p0), .second, .val (.long p1), .second, iv p2, .val (.long (Int64.ofNat qn)), .second, .val (.long (Int64.ofNat uu)), .second, rv b26, rv ts29, iv (Int32.ofNat ln), .val (.long (Int64.ofNat (own_acc fd ln 2))), .second, .unset, .unset]) rfl k) ?_
      show Go p e below _ (T43.setTop (mkF m 141 #[.val (.long p0), .second, .val (.long p1), .second, iv p2, .val (.long (Int64.ofNat qn)), .second, .val (.long (Int64.ofNat uu)), .second, rv b26, rv ts29, iv (Int32.ofNat ln), .val (.long (Int64.ofNat (own_acc fd ln 2))), .second, .unset, .unset] []))
      refine Go.pre (fun _ k => XS.aload X43.here hx rfl (hb hby at_141) rfl rfl k) ?_
      show Go p e below _ (T43.setTop (mkF m 143 #[.val (.long p0), .second, .val (.long p1), .second, iv p2, .val (.long (Int64.ofNat qn)), .second, .val (.long (Int64.ofNat uu)), .second, rv b26, rv ts29, iv (Int32.ofNat ln), .val (.long (Int64.ofNat (own_acc fd ln 2))), .second, .unset, .unset] [(.ref ts29)]))
      refine Go.pre (fun _ k => XS.iconst X43.here hx rfl (hb hby at_143) k) ?_
      show Go p e below _ (T43.setTop (mkF m 144 #[.val (.long p0), .second, .val (.long p1), .second, iv p2, .val (.long (Int64.ofNat qn)), .second, .val (.long (Int64.ofNat uu)), .second, rv b26, rv ts29, iv (Int32.ofNat ln), .val (.long (Int64.ofNat (own_acc fd ln 2))), .second, .unset, .unset] [(.int (3 : Int32)), (.ref ts29)]))
      refine Go.pre (fun _ k => XS.lload X43.here hx rfl (hb hby at_144) rfl k) ?_
      show Go p e below _ (T43.setTop (mkF m 146 #[.val (.long p0), .second, .val (.long p1), .second, iv p2, .val (.long (Int64.ofNat qn)), .second, .val (.long (Int64.ofNat uu)), .second, rv b26, rv ts29, iv (Int32.ofNat ln), .val (.long (Int64.ofNat (own_acc fd ln 2))), .second, .unset, .unset] [(.long (Int64.ofNat (own_acc fd ln 2))), (.int (3 : Int32)), (.ref ts29)]))
      obtain ⟨_, _, ⟨T44, L44, k44, n44⟩, -, X44, ⟨Lc44, hQ44, l44, y44, z44⟩, st44⟩ := Jvm.LawKit.callS X43 hx (y := (⟨"com/example/inferred_grant/inferredgrant/benchmark/SettingRequestUserPinLaw", "step", "(Ljava/lang/String;IJ)J"⟩ : MethodName)) hown29 (mvT hZ29 (hw _ (List.mem_of_getElem? (i := 203) rfl))) (mvT hZ29 (hw _ (List.mem_of_getElem? (i := 204) rfl))) (mvT hZ29 (hw _ (List.mem_of_getElem? (i := 205) rfl))) (mvT hZ29 (hw _ (List.mem_of_getElem? (i := 206) rfl))) (by decide) (backOf (W := 0) (rm_stp l Z a0 hw [] ts29 r29 kr29 us 3 ln fd (own_acc fd ln 2) fm cs T29.heap n0 (Nat.le_trans (Nat.le_trans (Nat.le_trans (Nat.le_trans Z0 E26.1) E27.1) K28.1) K29.1) ((((O.ext E26).ext E27).keep K28 (allS g_b26 all0)).keep K29 all0) SC hcs SF hfm (by omega) (by decide) (by decide) (Nat.lt_of_lt_of_le (own_acc_lt hfd 2) (Nat.le_of_ble_eq_true rfl)) hus ⟨uE29, uC29, uV29, uA29⟩) hZ29 (hw _ (List.mem_of_getElem? (i := 206) rfl)) (hw _ (List.mem_of_getElem? (i := 205) rfl)) (by decide) (by decide)) (g := (mkF m 146 #[.val (.long p0), .second, .val (.long p1), .second, iv p2, .val (.long (Int64.ofNat qn)), .second, .val (.long (Int64.ofNat uu)), .second, rv b26, rv ts29, iv (Int32.ofNat ln), .val (.long (Int64.ofNat (own_acc fd ln 2))), .second, .unset, .unset] [(.long (Int64.ofNat (own_acc fd ln 2))), (.int (3 : Int32)), (.ref ts29)])) rfl (by rw [hml]; rfl) (argsL := [(.ref ts29), (.int (3 : Int32)), (.long (Int64.ofNat (own_acc fd ln 2)))]) (rest := []) (lenOf pd_26 rfl) rfl (by show 2 * 0 + _ ≤ _; exact Nat.le_of_eq rfl) (hb hby at_146) (fun _ _ => ⟨rfl, eh43, (by decide : 9 + 0 ≤ _), (by decide : 63 + 0 ≤ _)⟩)
      dsimp only [Pt.U, Pt.locs, Pt.cells, Pt.slots] at X44 l44 y44 z44 st44 hQ44
      subst l44 y44 z44
      refine Go.pre st44 ?_
      obtain ⟨rfl, N44q, eh44⟩ := hQ44
      have N44 := Fr.app N43 N44q
      show Go p e below _ (T44.setTop (mkF m 149 #[.val (.long p0), .second, .val (.long p1), .second, iv p2, .val (.long (Int64.ofNat qn)), .second, .val (.long (Int64.ofNat uu)), .second, rv b26, rv ts29, iv (Int32.ofNat ln), .val (.long (Int64.ofNat (own_acc fd ln 2))), .second, .unset, .unset] [(.long (Int64.ofNat (if 3 < ln then own_acc fd ln 2 * 10 + fd 3 else own_acc fd ln 2)))]))
      rw [show (if 3 < ln then own_acc fd ln 2 * 10 + fd 3 else own_acc fd ln 2) = own_acc fd ln 3 from rfl]
      show Go p e below _ (T44.setTop (mkF m 149 #[.val (.long p0), .second, .val (.long p1), .second, iv p2, .val (.long (Int64.ofNat qn)), .second, .val (.long (Int64.ofNat uu)), .second, rv b26, rv ts29, iv (Int32.ofNat ln), .val (.long (Int64.ofNat (own_acc fd ln 2))), .second, .unset, .unset] [(.long (Int64.ofNat (own_acc fd ln 3)))]))
      refine Go.pre (fun _ k => XS.lstore X44.here hx rfl (hb hby at_149) rfl (l' := #[.val (.long p0), .second, .val (.long p1), .second, iv p2, .val (.long (Int64.ofNat qn)), .second, .val (.long (Int64.ofNat uu)), .second, rv b26, rv ts29, iv (Int32.ofNat ln), .val (.long (Int64.ofNat (own_acc fd ln 3))), .second, .unset, .unset]) rfl k) ?_
      show Go p e below _ (T44.setTop (mkF m 151 #[.val (.long p0), .second, .val (.long p1), .second, iv p2, .val (.long (Int64.ofNat qn)), .second, .val (.long (Int64.ofNat uu)), .second, rv b26, rv ts29, iv (Int32.ofNat ln), .val (.long (Int64.ofNat (own_acc fd ln 3))), .second, .unset, .unset] []))
      refine Go.pre (fun _ k => XS.aload X44.here hx rfl (hb hby at_151) rfl rfl k) ?_
      show Go p e below _ (T44.setTop (mkF m 153 #[.val (.long p0), .second, .val (.long p1), .second, iv p2, .val (.long (Int64.ofNat qn)), .second, .val (.long (Int64.ofNat uu)), .second, rv b26, rv ts29, iv (Int32.ofNat ln), .val (.long (Int64.ofNat (own_acc fd ln 3))), .second, .unset, .unset] [(.ref ts29)]))
      refine Go.pre (fun _ k => XS.iconst X44.here hx rfl (hb hby at_153) k) ?_
      show Go p e below _ (T44.setTop (mkF m 154 #[.val (.long p0), .second, .val (.long p1), .second, iv p2, .val (.long (Int64.ofNat qn)), .second, .val (.long (Int64.ofNat uu)), .second, rv b26, rv ts29, iv (Int32.ofNat ln), .val (.long (Int64.ofNat (own_acc fd ln 3))), .second, .unset, .unset] [(.int (4 : Int32)), (.ref ts29)]))
      refine Go.pre (fun _ k => XS.lload X44.here hx rfl (hb hby at_154) rfl k) ?_
      show Go p e below _ (T44.setTop (mkF m 156 #[.val (.long p0), .second, .val (.long p1), .second, iv p2, .val (.long (Int64.ofNat qn)), .second, .val (.long (Int64.ofNat uu)), .second, rv b26, rv ts29, iv (Int32.ofNat ln), .val (.long (Int64.ofNat (own_acc fd ln 3))), .second, .unset, .unset] [(.long (Int64.ofNat (own_acc fd ln 3))), (.int (4 : Int32)), (.ref ts29)]))
      obtain ⟨_, _, ⟨T45, L45, k45, n45⟩, -, X45, ⟨Lc45, hQ45, l45, y45, z45⟩, st45⟩ := Jvm.LawKit.callS X44 hx (y := (⟨"com/example/inferred_grant/inferredgrant/benchmark/SettingRequestUserPinLaw", "step", "(Ljava/lang/String;IJ)J"⟩ : MethodName)) hown29 (mvT hZ29 (hw _ (List.mem_of_getElem? (i := 203) rfl))) (mvT hZ29 (hw _ (List.mem_of_getElem? (i := 204) rfl))) (mvT hZ29 (hw _ (List.mem_of_getElem? (i := 205) rfl))) (mvT hZ29 (hw _ (List.mem_of_getElem? (i := 206) rfl))) (by decide) (backOf (W := 0) (rm_stp l Z a0 hw [] ts29 r29 kr29 us 4 ln fd (own_acc fd ln 3) fm cs T29.heap n0 (Nat.le_trans (Nat.le_trans (Nat.le_trans (Nat.le_trans Z0 E26.1) E27.1) K28.1) K29.1) ((((O.ext E26).ext E27).keep K28 (allS g_b26 all0)).keep K29 all0) SC hcs SF hfm (by omega) (by decide) (by decide) (Nat.lt_of_lt_of_le (own_acc_lt hfd 3) (Nat.le_of_ble_eq_true rfl)) hus ⟨uE29, uC29, uV29, uA29⟩) hZ29 (hw _ (List.mem_of_getElem? (i := 206) rfl)) (hw _ (List.mem_of_getElem? (i := 205) rfl)) (by decide) (by decide)) (g := (mkF m 156 #[.val (.long p0), .second, .val (.long p1), .second, iv p2, .val (.long (Int64.ofNat qn)), .second, .val (.long (Int64.ofNat uu)), .second, rv b26, rv ts29, iv (Int32.ofNat ln), .val (.long (Int64.ofNat (own_acc fd ln 3))), .second, .unset, .unset] [(.long (Int64.ofNat (own_acc fd ln 3))), (.int (4 : Int32)), (.ref ts29)])) rfl (by rw [hml]; rfl) (argsL := [(.ref ts29), (.int (4 : Int32)), (.long (Int64.ofNat (own_acc fd ln 3)))]) (rest := []) (lenOf pd_26 rfl) rfl (by show 2 * 0 + _ ≤ _; exact Nat.le_of_eq rfl) (hb hby at_156) (fun _ _ => ⟨rfl, eh44, (by decide : 9 + 0 ≤ _), (by decide : 63 + 0 ≤ _)⟩)
      dsimp only [Pt.U, Pt.locs, Pt.cells, Pt.slots] at X45 l45 y45 z45 st45 hQ45
      subst l45 y45 z45
      refine Go.pre st45 ?_
      obtain ⟨rfl, N45q, eh45⟩ := hQ45
      have N45 := Fr.app N44 N45q
      show Go p e below _ (T45.setTop (mkF m 159 #[.val (.long p0), .second, .val (.long p1), .second, iv p2, .val (.long (Int64.ofNat qn)), .second, .val (.long (Int64.ofNat uu)), .second, rv b26, rv ts29, iv (Int32.ofNat ln), .val (.long (Int64.ofNat (own_acc fd ln 3))), .second, .unset, .unset] [(.long (Int64.ofNat (if 4 < ln then own_acc fd ln 3 * 10 + fd 4 else own_acc fd ln 3)))]))
      rw [show (if 4 < ln then own_acc fd ln 3 * 10 + fd 4 else own_acc fd ln 3) = own_acc fd ln 4 from rfl]
      show Go p e below _ (T45.setTop (mkF m 159 #[.val (.long p0), .second, .val (.long p1), .second, iv p2, .val (.long (Int64.ofNat qn)), .second, .val (.long (Int64.ofNat uu)), .second, rv b26, rv ts29, iv (Int32.ofNat ln), .val (.long (Int64.ofNat (own_acc fd ln 3))), .second, .unset, .unset] [(.long (Int64.ofNat (own_acc fd ln 4)))]))
      refine Go.pre (fun _ k => XS.lstore X45.here hx rfl (hb hby at_159) rfl (l' := #[.val (.long p0), .second, .val (.long p1), .second, iv p2, .val (.long (Int64.ofNat qn)), .second, .val (.long (Int64.ofNat uu)), .second, rv b26, rv ts29, iv (Int32.ofNat ln), .val (.long (Int64.ofNat (own_acc fd ln 4))), .second, .unset, .unset]) rfl k) ?_
      show Go p e below _ (T45.setTop (mkF m 161 #[.val (.long p0), .second, .val (.long p1), .second, iv p2, .val (.long (Int64.ofNat qn)), .second, .val (.long (Int64.ofNat uu)), .second, rv b26, rv ts29, iv (Int32.ofNat ln), .val (.long (Int64.ofNat (own_acc fd ln 4))), .second, .unset, .unset] []))
      refine Go.pre (fun _ k => XS.aload X45.here hx rfl (hb hby at_161) rfl rfl k) ?_
      show Go p e below _ (T45.setTop (mkF m 163 #[.val (.long p0), .second, .val (.long p1), .second, iv p2, .val (.long (Int64.ofNat qn)), .second, .val (.long (Int64.ofNat uu)), .second, rv b26, rv ts29, iv (Int32.ofNat ln), .val (.long (Int64.ofNat (own_acc fd ln 4))), .second, .unset, .unset] [(.ref ts29)]))
      refine Go.pre (fun _ k => XS.iconst X45.here hx rfl (hb hby at_163) k) ?_
      show Go p e below _ (T45.setTop (mkF m 164 #[.val (.long p0), .second, .val (.long p1), .second, iv p2, .val (.long (Int64.ofNat qn)), .second, .val (.long (Int64.ofNat uu)), .second, rv b26, rv ts29, iv (Int32.ofNat ln), .val (.long (Int64.ofNat (own_acc fd ln 4))), .second, .unset, .unset] [(.int (5 : Int32)), (.ref ts29)]))
      refine Go.pre (fun _ k => XS.lload X45.here hx rfl (hb hby at_164) rfl k) ?_
      show Go p e below _ (T45.setTop (mkF m 166 #[.val (.long p0), .second, .val (.long p1), .second, iv p2, .val (.long (Int64.ofNat qn)), .second, .val (.long (Int64.ofNat uu)), .second, rv b26, rv ts29, iv (Int32.ofNat ln), .val (.long (Int64.ofNat (own_acc fd ln 4))), .second, .unset, .unset] [(.long (Int64.ofNat (own_acc fd ln 4))), (.int (5 : Int32)), (.ref ts29)]))
      obtain ⟨_, _, ⟨T46, L46, k46, n46⟩, -, X46, ⟨Lc46, hQ46, l46, y46, z46⟩, st46⟩ := Jvm.LawKit.callS X45 hx (y := (⟨"com/example/inferred_grant/inferredgrant/benchmark/SettingRequestUserPinLaw", "step", "(Ljava/lang/String;IJ)J"⟩ : MethodName)) hown29 (mvT hZ29 (hw _ (List.mem_of_getElem? (i := 203) rfl))) (mvT hZ29 (hw _ (List.mem_of_getElem? (i := 204) rfl))) (mvT hZ29 (hw _ (List.mem_of_getElem? (i := 205) rfl))) (mvT hZ29 (hw _ (List.mem_of_getElem? (i := 206) rfl))) (by decide) (backOf (W := 0) (rm_stp l Z a0 hw [] ts29 r29 kr29 us 5 ln fd (own_acc fd ln 4) fm cs T29.heap n0 (Nat.le_trans (Nat.le_trans (Nat.le_trans (Nat.le_trans Z0 E26.1) E27.1) K28.1) K29.1) ((((O.ext E26).ext E27).keep K28 (allS g_b26 all0)).keep K29 all0) SC hcs SF hfm (by omega) (by decide) (by decide) (Nat.lt_of_lt_of_le (own_acc_lt hfd 4) (Nat.le_of_ble_eq_true rfl)) hus ⟨uE29, uC29, uV29, uA29⟩) hZ29 (hw _ (List.mem_of_getElem? (i := 206) rfl)) (hw _ (List.mem_of_getElem? (i := 205) rfl)) (by decide) (by decide)) (g := (mkF m 166 #[.val (.long p0), .second, .val (.long p1), .second, iv p2, .val (.long (Int64.ofNat qn)), .second, .val (.long (Int64.ofNat uu)), .second, rv b26, rv ts29, iv (Int32.ofNat ln), .val (.long (Int64.ofNat (own_acc fd ln 4))), .second, .unset, .unset] [(.long (Int64.ofNat (own_acc fd ln 4))), (.int (5 : Int32)), (.ref ts29)])) rfl (by rw [hml]; rfl) (argsL := [(.ref ts29), (.int (5 : Int32)), (.long (Int64.ofNat (own_acc fd ln 4)))]) (rest := []) (lenOf pd_26 rfl) rfl (by show 2 * 0 + _ ≤ _; exact Nat.le_of_eq rfl) (hb hby at_166) (fun _ _ => ⟨rfl, eh45, (by decide : 9 + 0 ≤ _), (by decide : 63 + 0 ≤ _)⟩)
      dsimp only [Pt.U, Pt.locs, Pt.cells, Pt.slots] at X46 l46 y46 z46 st46 hQ46
      subst l46 y46 z46
      refine Go.pre st46 ?_
      obtain ⟨rfl, N46q, eh46⟩ := hQ46
      have N46 := Fr.app N45 N46q
      show Go p e below _ (T46.setTop (mkF m 169 #[.val (.long p0), .second, .val (.long p1), .second, iv p2, .val (.long (Int64.ofNat qn)), .second, .val (.long (Int64.ofNat uu)), .second, rv b26, rv ts29, iv (Int32.ofNat ln), .val (.long (Int64.ofNat (own_acc fd ln 4))), .second, .unset, .unset] [(.long (Int64.ofNat (if 5 < ln then own_acc fd ln 4 * 10 + fd 5 else own_acc fd ln 4)))]))
      rw [show (if 5 < ln then own_acc fd ln 4 * 10 + fd 5 else own_acc fd ln 4) = own_acc fd ln 5 from rfl]
      show Go p e below _ (T46.setTop (mkF m 169 #[.val (.long p0), .second, .val (.long p1), .second, iv p2, .val (.long (Int64.ofNat qn)), .second, .val (.long (Int64.ofNat uu)), .second, rv b26, rv ts29, iv (Int32.ofNat ln), .val (.long (Int64.ofNat (own_acc fd ln 4))), .second, .unset, .unset] [(.long (Int64.ofNat (own_acc fd ln 5)))]))
      refine Go.pre (fun _ k => XS.lstore X46.here hx rfl (hb hby at_169) rfl (l' := #[.val (.long p0), .second, .val (.long p1), .second, iv p2, .val (.long (Int64.ofNat qn)), .second, .val (.long (Int64.ofNat uu)), .second, rv b26, rv ts29, iv (Int32.ofNat ln), .val (.long (Int64.ofNat (own_acc fd ln 5))), .second, .unset, .unset]) rfl k) ?_
      show Go p e below _ (T46.setTop (mkF m 171 #[.val (.long p0), .second, .val (.long p1), .second, iv p2, .val (.long (Int64.ofNat qn)), .second, .val (.long (Int64.ofNat uu)), .second, rv b26, rv ts29, iv (Int32.ofNat ln), .val (.long (Int64.ofNat (own_acc fd ln 5))), .second, .unset, .unset] []))
      refine Go.pre (fun _ k => XS.aload X46.here hx rfl (hb hby at_171) rfl rfl k) ?_
      show Go p e below _ (T46.setTop (mkF m 173 #[.val (.long p0), .second, .val (.long p1), .second, iv p2, .val (.long (Int64.ofNat qn)), .second, .val (.long (Int64.ofNat uu)), .second, rv b26, rv ts29, iv (Int32.ofNat ln), .val (.long (Int64.ofNat (own_acc fd ln 5))), .second, .unset, .unset] [(.ref ts29)]))
      refine Go.pre (fun _ k => XS.bipush X46.here hx rfl (hb hby at_173) k) ?_
      show Go p e below _ (T46.setTop (mkF m 175 #[.val (.long p0), .second, .val (.long p1), .second, iv p2, .val (.long (Int64.ofNat qn)), .second, .val (.long (Int64.ofNat uu)), .second, rv b26, rv ts29, iv (Int32.ofNat ln), .val (.long (Int64.ofNat (own_acc fd ln 5))), .second, .unset, .unset] [(.int (6 : Int32)), (.ref ts29)]))
      refine Go.pre (fun _ k => XS.lload X46.here hx rfl (hb hby at_175) rfl k) ?_
      show Go p e below _ (T46.setTop (mkF m 177 #[.val (.long p0), .second, .val (.long p1), .second, iv p2, .val (.long (Int64.ofNat qn)), .second, .val (.long (Int64.ofNat uu)), .second, rv b26, rv ts29, iv (Int32.ofNat ln), .val (.long (Int64.ofNat (own_acc fd ln 5))), .second, .unset, .unset] [(.long (Int64.ofNat (own_acc fd ln 5))), (.int (6 : Int32)), (.ref ts29)]))
      obtain ⟨_, _, ⟨T47, L47, k47, n47⟩, -, X47, ⟨Lc47, hQ47, l47, y47, z47⟩, st47⟩ := Jvm.LawKit.callS X46 hx (y := (⟨"com/example/inferred_grant/inferredgrant/benchmark/SettingRequestUserPinLaw", "step", "(Ljava/lang/String;IJ)J"⟩ : MethodName)) hown29 (mvT hZ29 (hw _ (List.mem_of_getElem? (i := 203) rfl))) (mvT hZ29 (hw _ (List.mem_of_getElem? (i := 204) rfl))) (mvT hZ29 (hw _ (List.mem_of_getElem? (i := 205) rfl))) (mvT hZ29 (hw _ (List.mem_of_getElem? (i := 206) rfl))) (by decide) (backOf (W := 0) (rm_stp l Z a0 hw [] ts29 r29 kr29 us 6 ln fd (own_acc fd ln 5) fm cs T29.heap n0 (Nat.le_trans (Nat.le_trans (Nat.le_trans (Nat.le_trans Z0 E26.1) E27.1) K28.1) K29.1) ((((O.ext E26).ext E27).keep K28 (allS g_b26 all0)).keep K29 all0) SC hcs SF hfm (by omega) (by decide) (by decide) (Nat.lt_of_lt_of_le (own_acc_lt hfd 5) (Nat.le_of_ble_eq_true rfl)) hus ⟨uE29, uC29, uV29, uA29⟩) hZ29 (hw _ (List.mem_of_getElem? (i := 206) rfl)) (hw _ (List.mem_of_getElem? (i := 205) rfl)) (by decide) (by decide)) (g := (mkF m 177 #[.val (.long p0), .second, .val (.long p1), .second, iv p2, .val (.long (Int64.ofNat qn)), .second, .val (.long (Int64.ofNat uu)), .second, rv b26, rv ts29, iv (Int32.ofNat ln), .val (.long (Int64.ofNat (own_acc fd ln 5))), .second, .unset, .unset] [(.long (Int64.ofNat (own_acc fd ln 5))), (.int (6 : Int32)), (.ref ts29)])) rfl (by rw [hml]; rfl) (argsL := [(.ref ts29), (.int (6 : Int32)), (.long (Int64.ofNat (own_acc fd ln 5)))]) (rest := []) (lenOf pd_26 rfl) rfl (by show 2 * 0 + _ ≤ _; exact Nat.le_of_eq rfl) (hb hby at_177) (fun _ _ => ⟨rfl, eh46, (by decide : 9 + 0 ≤ _), (by decide : 63 + 0 ≤ _)⟩)
      dsimp only [Pt.U, Pt.locs, Pt.cells, Pt.slots] at X47 l47 y47 z47 st47 hQ47
      subst l47 y47 z47
      refine Go.pre st47 ?_
      obtain ⟨rfl, N47q, eh47⟩ := hQ47
      have N47 := Fr.app N46 N47q
      show Go p e below _ (T47.setTop (mkF m 180 #[.val (.long p0), .second, .val (.long p1), .second, iv p2, .val (.long (Int64.ofNat qn)), .second, .val (.long (Int64.ofNat uu)), .second, rv b26, rv ts29, iv (Int32.ofNat ln), .val (.long (Int64.ofNat (own_acc fd ln 5))), .second, .unset, .unset] [(.long (Int64.ofNat (if 6 < ln then own_acc fd ln 5 * 10 + fd 6 else own_acc fd ln 5)))]))
      rw [show (if 6 < ln then own_acc fd ln 5 * 10 + fd 6 else own_acc fd ln 5) = own_acc fd ln 6 from rfl]
      show Go p e below _ (T47.setTop (mkF m 180 #[.val (.long p0), .second, .val (.long p1), .second, iv p2, .val (.long (Int64.ofNat qn)), .second, .val (.long (Int64.ofNat uu)), .second, rv b26, rv ts29, iv (Int32.ofNat ln), .val (.long (Int64.ofNat (own_acc fd ln 5))), .second, .unset, .unset] [(.long (Int64.ofNat (own_acc fd ln 6)))]))
      refine Go.pre (fun _ k => XS.lstore X47.here hx rfl (hb hby at_180) rfl (l' := #[.val (.long p0), .second, .val (.long p1), .second, iv p2, .val (.long (Int64.ofNat qn)), .second, .val (.long (Int64.ofNat uu)), .second, rv b26, rv ts29, iv (Int32.ofNat ln), .val (.long (Int64.ofNat (own_acc fd ln 6))), .second, .unset, .unset]) rfl k) ?_
      show Go p e below _ (T47.setTop (mkF m 182 #[.val (.long p0), .second, .val (.long p1), .second, iv p2, .val (.long (Int64.ofNat qn)), .second, .val (.long (Int64.ofNat uu)), .second, rv b26, rv ts29, iv (Int32.ofNat ln), .val (.long (Int64.ofNat (own_acc fd ln 6))), .second, .unset, .unset] []))
      refine Go.pre (fun _ k => XS.aload X47.here hx rfl (hb hby at_182) rfl rfl k) ?_
      show Go p e below _ (T47.setTop (mkF m 184 #[.val (.long p0), .second, .val (.long p1), .second, iv p2, .val (.long (Int64.ofNat qn)), .second, .val (.long (Int64.ofNat uu)), .second, rv b26, rv ts29, iv (Int32.ofNat ln), .val (.long (Int64.ofNat (own_acc fd ln 6))), .second, .unset, .unset] [(.ref ts29)]))
      refine Go.pre (fun _ k => XS.bipush X47.here hx rfl (hb hby at_184) k) ?_
      show Go p e below _ (T47.setTop (mkF m 186 #[.val (.long p0), .second, .val (.long p1), .second, iv p2, .val (.long (Int64.ofNat qn)), .second, .val (.long (Int64.ofNat uu)), .second, rv b26, rv ts29, iv (Int32.ofNat ln), .val (.long (Int64.ofNat (own_acc fd ln 6))), .second, .unset, .unset] [(.int (7 : Int32)), (.ref ts29)]))
      refine Go.pre (fun _ k => XS.lload X47.here hx rfl (hb hby at_186) rfl k) ?_
      show Go p e below _ (T47.setTop (mkF m 188 #[.val (.long p0), .second, .val (.long p1), .second, iv p2, .val (.long (Int64.ofNat qn)), .second, .val (.long (Int64.ofNat uu)), .second, rv b26, rv ts29, iv (Int32.ofNat ln), .val (.long (Int64.ofNat (own_acc fd ln 6))), .second, .unset, .unset] [(.long (Int64.ofNat (own_acc fd ln 6))), (.int (7 : Int32)), (.ref ts29)]))
      obtain ⟨_, _, ⟨T48, L48, k48, n48⟩, -, X48, ⟨Lc48, hQ48, l48, y48, z48⟩, st48⟩ := Jvm.LawKit.callS X47 hx (y := (⟨"com/example/inferred_grant/inferredgrant/benchmark/SettingRequestUserPinLaw", "step", "(Ljava/lang/String;IJ)J"⟩ : MethodName)) hown29 (mvT hZ29 (hw _ (List.mem_of_getElem? (i := 203) rfl))) (mvT hZ29 (hw _ (List.mem_of_getElem? (i := 204) rfl))) (mvT hZ29 (hw _ (List.mem_of_getElem? (i := 205) rfl))) (mvT hZ29 (hw _ (List.mem_of_getElem? (i := 206) rfl))) (by decide) (backOf (W := 0) (rm_stp l Z a0 hw [] ts29 r29 kr29 us 7 ln fd (own_acc fd ln 6) fm cs T29.heap n0 (Nat.le_trans (Nat.le_trans (Nat.le_trans (Nat.le_trans Z0 E26.1) E27.1) K28.1) K29.1) ((((O.ext E26).ext E27).keep K28 (allS g_b26 all0)).keep K29 all0) SC hcs SF hfm (by omega) (by decide) (by decide) (Nat.lt_of_lt_of_le (own_acc_lt hfd 6) (Nat.le_of_ble_eq_true rfl)) hus ⟨uE29, uC29, uV29, uA29⟩) hZ29 (hw _ (List.mem_of_getElem? (i := 206) rfl)) (hw _ (List.mem_of_getElem? (i := 205) rfl)) (by decide) (by decide)) (g := (mkF m 188 #[.val (.long p0), .second, .val (.long p1), .second, iv p2, .val (.long (Int64.ofNat qn)), .second, .val (.long (Int64.ofNat uu)), .second, rv b26, rv ts29, iv (Int32.ofNat ln), .val (.long (Int64.ofNat (own_acc fd ln 6))), .second, .unset, .unset] [(.long (Int64.ofNat (own_acc fd ln 6))), (.int (7 : Int32)), (.ref ts29)])) rfl (by rw [hml]; rfl) (argsL := [(.ref ts29), (.int (7 : Int32)), (.long (Int64.ofNat (own_acc fd ln 6)))]) (rest := []) (lenOf pd_26 rfl) rfl (by show 2 * 0 + _ ≤ _; exact Nat.le_of_eq rfl) (hb hby at_188) (fun _ _ => ⟨rfl, eh47, (by decide : 9 + 0 ≤ _), (by decide : 63 + 0 ≤ _)⟩)
      dsimp only [Pt.U, Pt.locs, Pt.cells, Pt.slots] at X48 l48 y48 z48 st48 hQ48
      subst l48 y48 z48
      refine Go.pre st48 ?_
      obtain ⟨rfl, N48q, eh48⟩ := hQ48
      have N48 := Fr.app N47 N48q
      show Go p e below _ (T48.setTop (mkF m 191 #[.val (.long p0), .second, .val (.long p1), .second, iv p2, .val (.long (Int64.ofNat qn)), .second, .val (.long (Int64.ofNat uu)), .second, rv b26, rv ts29, iv (Int32.ofNat ln), .val (.long (Int64.ofNat (own_acc fd ln 6))), .second, .unset, .unset] [(.long (Int64.ofNat (if 7 < ln then own_acc fd ln 6 * 10 + fd 7 else own_acc fd ln 6)))]))
      rw [show (if 7 < ln then own_acc fd ln 6 * 10 + fd 7 else own_acc fd ln 6) = own_acc fd ln 7 from rfl]
      show Go p e below _ (T48.setTop (mkF m 191 #[.val (.long p0), .second, .val (.long p1), .second, iv p2, .val (.long (Int64.ofNat qn)), .second, .val (.long (Int64.ofNat uu)), .second, rv b26, rv ts29, iv (Int32.ofNat ln), .val (.long (Int64.ofNat (own_acc fd ln 6))), .second, .unset, .unset] [(.long (Int64.ofNat (own_acc fd ln 7)))]))
      refine Go.pre (fun _ k => XS.lstore X48.here hx rfl (hb hby at_191) rfl (l' := #[.val (.long p0), .second, .val (.long p1), .second, iv p2, .val (.long (Int64.ofNat qn)), .second, .val (.long (Int64.ofNat uu)), .second, rv b26, rv ts29, iv (Int32.ofNat ln), .val (.long (Int64.ofNat (own_acc fd ln 7))), .second, .unset, .unset]) rfl k) ?_
      show Go p e below _ (T48.setTop (mkF m 193 #[.val (.long p0), .second, .val (.long p1), .second, iv p2, .val (.long (Int64.ofNat qn)), .second, .val (.long (Int64.ofNat uu)), .second, rv b26, rv ts29, iv (Int32.ofNat ln), .val (.long (Int64.ofNat (own_acc fd ln 7))), .second, .unset, .unset] []))
      refine Go.pre (fun _ k => XS.aload X48.here hx rfl (hb hby at_193) rfl rfl k) ?_
      show Go p e below _ (T48.setTop (mkF m 195 #[.val (.long p0), .second, .val (.long p1), .second, iv p2, .val (.long (Int64.ofNat qn)), .second, .val (.long (Int64.ofNat uu)), .second, rv b26, rv ts29, iv (Int32.ofNat ln), .val (.long (Int64.ofNat (own_acc fd ln 7))), .second, .unset, .unset] [(.ref ts29)]))
      refine Go.pre (fun _ k => XS.bipush X48.here hx rfl (hb hby at_195) k) ?_
      show Go p e below _ (T48.setTop (mkF m 197 #[.val (.long p0), .second, .val (.long p1), .second, iv p2, .val (.long (Int64.ofNat qn)), .second, .val (.long (Int64.ofNat uu)), .second, rv b26, rv ts29, iv (Int32.ofNat ln), .val (.long (Int64.ofNat (own_acc fd ln 7))), .second, .unset, .unset] [(.int (8 : Int32)), (.ref ts29)]))
      refine Go.pre (fun _ k => XS.lload X48.here hx rfl (hb hby at_197) rfl k) ?_
      show Go p e below _ (T48.setTop (mkF m 199 #[.val (.long p0), .second, .val (.long p1), .second, iv p2, .val (.long (Int64.ofNat qn)), .second, .val (.long (Int64.ofNat uu)), .second, rv b26, rv ts29, iv (Int32.ofNat ln), .val (.long (Int64.ofNat (own_acc fd ln 7))), .second, .unset, .unset] [(.long (Int64.ofNat (own_acc fd ln 7))), (.int (8 : Int32)), (.ref ts29)]))
      obtain ⟨_, _, ⟨T49, L49, k49, n49⟩, -, X49, ⟨Lc49, hQ49, l49, y49, z49⟩, st49⟩ := Jvm.LawKit.callS X48 hx (y := (⟨"com/example/inferred_grant/inferredgrant/benchmark/SettingRequestUserPinLaw", "step", "(Ljava/lang/String;IJ)J"⟩ : MethodName)) hown29 (mvT hZ29 (hw _ (List.mem_of_getElem? (i := 203) rfl))) (mvT hZ29 (hw _ (List.mem_of_getElem? (i := 204) rfl))) (mvT hZ29 (hw _ (List.mem_of_getElem? (i := 205) rfl))) (mvT hZ29 (hw _ (List.mem_of_getElem? (i := 206) rfl))) (by decide) (backOf (W := 0) (rm_stp l Z a0 hw [] ts29 r29 kr29 us 8 ln fd (own_acc fd ln 7) fm cs T29.heap n0 (Nat.le_trans (Nat.le_trans (Nat.le_trans (Nat.le_trans Z0 E26.1) E27.1) K28.1) K29.1) ((((O.ext E26).ext E27).keep K28 (allS g_b26 all0)).keep K29 all0) SC hcs SF hfm (by omega) (by decide) (by decide) (Nat.lt_of_lt_of_le (own_acc_lt hfd 7) (Nat.le_of_ble_eq_true rfl)) hus ⟨uE29, uC29, uV29, uA29⟩) hZ29 (hw _ (List.mem_of_getElem? (i := 206) rfl)) (hw _ (List.mem_of_getElem? (i := 205) rfl)) (by decide) (by decide)) (g := (mkF m 199 #[.val (.long p0), .second, .val (.long p1), .second, iv p2, .val (.long (Int64.ofNat qn)), .second, .val (.long (Int64.ofNat uu)), .second, rv b26, rv ts29, iv (Int32.ofNat ln), .val (.long (Int64.ofNat (own_acc fd ln 7))), .second, .unset, .unset] [(.long (Int64.ofNat (own_acc fd ln 7))), (.int (8 : Int32)), (.ref ts29)])) rfl (by rw [hml]; rfl) (argsL := [(.ref ts29), (.int (8 : Int32)), (.long (Int64.ofNat (own_acc fd ln 7)))]) (rest := []) (lenOf pd_26 rfl) rfl (by show 2 * 0 + _ ≤ _; exact Nat.le_of_eq rfl) (hb hby at_199) (fun _ _ => ⟨rfl, eh48, (by decide : 9 + 0 ≤ _), (by decide : 63 + 0 ≤ _)⟩)
      dsimp only [Pt.U, Pt.locs, Pt.cells, Pt.slots] at X49 l49 y49 z49 st49 hQ49
      subst l49 y49 z49
      refine Go.pre st49 ?_
      obtain ⟨rfl, N49q, eh49⟩ := hQ49
      have N49 := Fr.app N48 N49q
      show Go p e below _ (T49.setTop (mkF m 202 #[.val (.long p0), .second, .val (.long p1), .second, iv p2, .val (.long (Int64.ofNat qn)), .second, .val (.long (Int64.ofNat uu)), .second, rv b26, rv ts29, iv (Int32.ofNat ln), .val (.long (Int64.ofNat (own_acc fd ln 7))), .second, .unset, .unset] [(.long (Int64.ofNat (if 8 < ln then own_acc fd ln 7 * 10 + fd 8 else own_acc fd ln 7)))]))
      rw [show (if 8 < ln then own_acc fd ln 7 * 10 + fd 8 else own_acc fd ln 7) = own_acc fd ln 8 from rfl]
      show Go p e below _ (T49.setTop (mkF m 202 #[.val (.long p0), .second, .val (.long p1), .second, iv p2, .val (.long (Int64.ofNat qn)), .second, .val (.long (Int64.ofNat uu)), .second, rv b26, rv ts29, iv (Int32.ofNat ln), .val (.long (Int64.ofNat (own_acc fd ln 7))), .second, .unset, .unset] [(.long (Int64.ofNat (own_acc fd ln 8)))]))
      refine Go.pre (fun _ k => XS.lstore X49.here hx rfl (hb hby at_202) rfl (l' := #[.val (.long p0), .second, .val (.long p1), .second, iv p2, .val (.long (Int64.ofNat qn)), .second, .val (.long (Int64.ofNat uu)), .second, rv b26, rv ts29, iv (Int32.ofNat ln), .val (.long (Int64.ofNat (own_acc fd ln 8))), .second, .unset, .unset]) rfl k) ?_
      show Go p e below _ (T49.setTop (mkF m 204 #[.val (.long p0), .second, .val (.long p1), .second, iv p2, .val (.long (Int64.ofNat qn)), .second, .val (.long (Int64.ofNat uu)), .second, rv b26, rv ts29, iv (Int32.ofNat ln), .val (.long (Int64.ofNat (own_acc fd ln 8))), .second, .unset, .unset] []))
      rw [hacc]
      show Go p e below _ (T49.setTop (mkF m 204 #[.val (.long p0), .second, .val (.long p1), .second, iv p2, .val (.long (Int64.ofNat qn)), .second, .val (.long (Int64.ofNat uu)), .second, rv b26, rv ts29, iv (Int32.ofNat ln), .val (.long (Int64.ofNat nu)), .second, .unset, .unset] []))
      refine Go.pre (fun _ k => XS.lload X49.here hx rfl (hb hby at_204) rfl k) ?_
      show Go p e below _ (T49.setTop (mkF m 206 #[.val (.long p0), .second, .val (.long p1), .second, iv p2, .val (.long (Int64.ofNat qn)), .second, .val (.long (Int64.ofNat uu)), .second, rv b26, rv ts29, iv (Int32.ofNat ln), .val (.long (Int64.ofNat nu)), .second, .unset, .unset] [(.long (Int64.ofNat nu))]))
      refine Go.pre (fun _ k => XS.lconst X49.here hx rfl (hb hby at_206) k) ?_
      show Go p e below _ (T49.setTop (mkF m 207 #[.val (.long p0), .second, .val (.long p1), .second, iv p2, .val (.long (Int64.ofNat qn)), .second, .val (.long (Int64.ofNat uu)), .second, rv b26, rv ts29, iv (Int32.ofNat ln), .val (.long (Int64.ofNat nu)), .second, .unset, .unset] [(.long (0 : Int64)), (.long (Int64.ofNat nu))]))
      refine Go.pre (fun _ k => XS.lcmp X49.here hx rfl (hb hby at_207) rfl k) ?_
      show Go p e below _ (T49.setTop (mkF m 208 #[.val (.long p0), .second, .val (.long p1), .second, iv p2, .val (.long (Int64.ofNat qn)), .second, .val (.long (Int64.ofNat uu)), .second, rv b26, rv ts29, iv (Int32.ofNat ln), .val (.long (Int64.ofNat nu)), .second, .unset, .unset] [(.int (lcmpW (Int64.ofNat nu) (0 : Int64)))]))
      refine Go.pre (fun _ k => XS.ifYes X49.here hx rfl (pc0 := 208) (pc' := 213) rfl (hb hby at_208) rfl ((if0 _ _).trans (flt (own_ltF (own_nlneg (by omega)))).2.1) (by decide) (by decide) k) ?_
      show Go p e below _ (T49.setTop (mkF m 213 #[.val (.long p0), .second, .val (.long p1), .second, iv p2, .val (.long (Int64.ofNat qn)), .second, .val (.long (Int64.ofNat uu)), .second, rv b26, rv ts29, iv (Int32.ofNat ln), .val (.long (Int64.ofNat nu)), .second, .unset, .unset] []))
      refine Go.pre (X49.ldc2Long hx hown29 (mvT hZ29 (hw _ (List.mem_of_getElem? (i := 208) rfl))) (g := (mkF m 213 #[.val (.long p0), .second, .val (.long p1), .second, iv p2, .val (.long (Int64.ofNat qn)), .second, .val (.long (Int64.ofNat uu)), .second, rv b26, rv ts29, iv (Int32.ofNat ln), .val (.long (Int64.ofNat nu)), .second, .unset, .unset] [])) rfl (hb hby at_213)) ?_
      show Go p e below _ (T49.setTop (mkF m 216 #[.val (.long p0), .second, .val (.long p1), .second, iv p2, .val (.long (Int64.ofNat qn)), .second, .val (.long (Int64.ofNat uu)), .second, rv b26, rv ts29, iv (Int32.ofNat ln), .val (.long (Int64.ofNat nu)), .second, .unset, .unset] [(.long (7919 : Int64))]))
      refine Go.pre (fun _ k => XS.lload X49.here hx rfl (hb hby at_216) rfl k) ?_
      show Go p e below _ (T49.setTop (mkF m 218 #[.val (.long p0), .second, .val (.long p1), .second, iv p2, .val (.long (Int64.ofNat qn)), .second, .val (.long (Int64.ofNat uu)), .second, rv b26, rv ts29, iv (Int32.ofNat ln), .val (.long (Int64.ofNat nu)), .second, .unset, .unset] [(.long (Int64.ofNat qn)), (.long (7919 : Int64))]))
      refine Go.pre (fun _ k => XS.lmul X49.here hx rfl (hb hby at_218) rfl k) ?_
      show Go p e below _ (T49.setTop (mkF m 219 #[.val (.long p0), .second, .val (.long p1), .second, iv p2, .val (.long (Int64.ofNat qn)), .second, .val (.long (Int64.ofNat uu)), .second, rv b26, rv ts29, iv (Int32.ofNat ln), .val (.long (Int64.ofNat nu)), .second, .unset, .unset] [(.long ((Int64.ofNat 7919) * (Int64.ofNat qn)))]))
      rw [own_lmul]
      show Go p e below _ (T49.setTop (mkF m 219 #[.val (.long p0), .second, .val (.long p1), .second, iv p2, .val (.long (Int64.ofNat qn)), .second, .val (.long (Int64.ofNat uu)), .second, rv b26, rv ts29, iv (Int32.ofNat ln), .val (.long (Int64.ofNat nu)), .second, .unset, .unset] [(.long (Int64.ofNat (7919 * qn)))]))
      refine Go.pre (fun _ k => XS.lstore X49.here hx rfl (hb hby at_219) rfl (l' := #[.val (.long p0), .second, .val (.long p1), .second, iv p2, .val (.long (Int64.ofNat qn)), .second, .val (.long (Int64.ofNat uu)), .second, rv b26, rv ts29, iv (Int32.ofNat ln), .val (.long (Int64.ofNat nu)), .second, .val (.long (Int64.ofNat (7919 * qn))), .second]) rfl k) ?_
      show Go p e below _ (T49.setTop (mkF m 221 #[.val (.long p0), .second, .val (.long p1), .second, iv p2, .val (.long (Int64.ofNat qn)), .second, .val (.long (Int64.ofNat uu)), .second, rv b26, rv ts29, iv (Int32.ofNat ln), .val (.long (Int64.ofNat nu)), .second, .val (.long (Int64.ofNat (7919 * qn))), .second] []))
      refine Go.pre (fun _ k => XS.lload X49.here hx rfl (hb hby at_221) rfl k) ?_
      show Go p e below _ (T49.setTop (mkF m 223 #[.val (.long p0), .second, .val (.long p1), .second, iv p2, .val (.long (Int64.ofNat qn)), .second, .val (.long (Int64.ofNat uu)), .second, rv b26, rv ts29, iv (Int32.ofNat ln), .val (.long (Int64.ofNat nu)), .second, .val (.long (Int64.ofNat (7919 * qn))), .second] [(.long (Int64.ofNat nu))]))
      refine Go.pre (fun _ k => XS.lload X49.here hx rfl (hb hby at_223) rfl k) ?_
      show Go p e below _ (T49.setTop (mkF m 225 #[.val (.long p0), .second, .val (.long p1), .second, iv p2, .val (.long (Int64.ofNat qn)), .second, .val (.long (Int64.ofNat uu)), .second, rv b26, rv ts29, iv (Int32.ofNat ln), .val (.long (Int64.ofNat nu)), .second, .val (.long (Int64.ofNat (7919 * qn))), .second] [(.long (Int64.ofNat uu)), (.long (Int64.ofNat nu))]))
      refine Go.pre (fun _ k => XS.lcmp X49.here hx rfl (hb hby at_225) rfl k) ?_
      show Go p e below _ (T49.setTop (mkF m 226 #[.val (.long p0), .second, .val (.long p1), .second, iv p2, .val (.long (Int64.ofNat qn)), .second, .val (.long (Int64.ofNat uu)), .second, rv b26, rv ts29, iv (Int32.ofNat ln), .val (.long (Int64.ofNat nu)), .second, .val (.long (Int64.ofNat (7919 * qn))), .second] [(.int (lcmpW (Int64.ofNat nu) (Int64.ofNat uu)))]))
      refine Go.pre (fun _ k => XS.ifNo X49.here hx rfl (hb hby at_226) rfl ((if0 _ _).trans (tlt (own_ltT ((own_ll (by omega) (by omega)).mpr hlt))).2.1) k) ?_
      show Go p e below _ (T49.setTop (mkF m 229 #[.val (.long p0), .second, .val (.long p1), .second, iv p2, .val (.long (Int64.ofNat qn)), .second, .val (.long (Int64.ofNat uu)), .second, rv b26, rv ts29, iv (Int32.ofNat ln), .val (.long (Int64.ofNat nu)), .second, .val (.long (Int64.ofNat (7919 * qn))), .second] []))
      refine Go.pre (fun _ k => XS.lload X49.here hx rfl (hb hby at_229) rfl k) ?_
      show Go p e below _ (T49.setTop (mkF m 231 #[.val (.long p0), .second, .val (.long p1), .second, iv p2, .val (.long (Int64.ofNat qn)), .second, .val (.long (Int64.ofNat uu)), .second, rv b26, rv ts29, iv (Int32.ofNat ln), .val (.long (Int64.ofNat nu)), .second, .val (.long (Int64.ofNat (7919 * qn))), .second] [(.long (Int64.ofNat (7919 * qn)))]))
      refine Go.pre (fun _ k => XS.lload X49.here hx rfl (hb hby at_231) rfl k) ?_
      show Go p e below _ (T49.setTop (mkF m 233 #[.val (.long p0), .second, .val (.long p1), .second, iv p2, .val (.long (Int64.ofNat qn)), .second, .val (.long (Int64.ofNat uu)), .second, rv b26, rv ts29, iv (Int32.ofNat ln), .val (.long (Int64.ofNat nu)), .second, .val (.long (Int64.ofNat (7919 * qn))), .second] [(.long (Int64.ofNat nu)), (.long (Int64.ofNat (7919 * qn)))]))
      refine Go.pre (fun _ k => XS.lsub X49.here hx rfl (hb hby at_233) rfl k) ?_
      show Go p e below _ (T49.setTop (mkF m 234 #[.val (.long p0), .second, .val (.long p1), .second, iv p2, .val (.long (Int64.ofNat qn)), .second, .val (.long (Int64.ofNat uu)), .second, rv b26, rv ts29, iv (Int32.ofNat ln), .val (.long (Int64.ofNat nu)), .second, .val (.long (Int64.ofNat (7919 * qn))), .second] [(.long ((Int64.ofNat (7919 * qn)) - (Int64.ofNat nu)))]))
      rw [own_lsub hle]
      show Go p e below _ (T49.setTop (mkF m 234 #[.val (.long p0), .second, .val (.long p1), .second, iv p2, .val (.long (Int64.ofNat qn)), .second, .val (.long (Int64.ofNat uu)), .second, rv b26, rv ts29, iv (Int32.ofNat ln), .val (.long (Int64.ofNat nu)), .second, .val (.long (Int64.ofNat (7919 * qn))), .second] [(.long (Int64.ofNat (7919 * qn - nu)))]))
      refine Go.pre (fun _ k => XS.lload X49.here hx rfl (hb hby at_234) rfl k) ?_
      show Go p e below _ (T49.setTop (mkF m 236 #[.val (.long p0), .second, .val (.long p1), .second, iv p2, .val (.long (Int64.ofNat qn)), .second, .val (.long (Int64.ofNat uu)), .second, rv b26, rv ts29, iv (Int32.ofNat ln), .val (.long (Int64.ofNat nu)), .second, .val (.long (Int64.ofNat (7919 * qn))), .second] [(.long (Int64.ofNat uu)), (.long (Int64.ofNat (7919 * qn - nu)))]))
      refine Go.pre (fun _ k => XS.lrem X49.here hx rfl (hb hby at_236) rfl (own_lnz hu0 hu1) k) ?_
      show Go p e below _ (T49.setTop (mkF m 237 #[.val (.long p0), .second, .val (.long p1), .second, iv p2, .val (.long (Int64.ofNat qn)), .second, .val (.long (Int64.ofNat uu)), .second, rv b26, rv ts29, iv (Int32.ofNat ln), .val (.long (Int64.ofNat nu)), .second, .val (.long (Int64.ofNat (7919 * qn))), .second] [(.long ((Int64.ofNat (7919 * qn - nu)) - (Int64.ofNat (7919 * qn - nu)) / (Int64.ofNat uu) * (Int64.ofNat uu)))]))
      rw [own_lrem (by omega) hu1, hz0]
      show Go p e below _ (T49.setTop (mkF m 237 #[.val (.long p0), .second, .val (.long p1), .second, iv p2, .val (.long (Int64.ofNat qn)), .second, .val (.long (Int64.ofNat uu)), .second, rv b26, rv ts29, iv (Int32.ofNat ln), .val (.long (Int64.ofNat nu)), .second, .val (.long (Int64.ofNat (7919 * qn))), .second] [(.long (0 : Int64))]))
      refine Go.pre (fun _ k => XS.lconst X49.here hx rfl (hb hby at_237) k) ?_
      show Go p e below _ (T49.setTop (mkF m 238 #[.val (.long p0), .second, .val (.long p1), .second, iv p2, .val (.long (Int64.ofNat qn)), .second, .val (.long (Int64.ofNat uu)), .second, rv b26, rv ts29, iv (Int32.ofNat ln), .val (.long (Int64.ofNat nu)), .second, .val (.long (Int64.ofNat (7919 * qn))), .second] [(.long (0 : Int64)), (.long (0 : Int64))]))
      refine Go.pre (fun _ k => XS.lcmp X49.here hx rfl (hb hby at_238) rfl k) ?_
      show Go p e below _ (T49.setTop (mkF m 239 #[.val (.long p0), .second, .val (.long p1), .second, iv p2, .val (.long (Int64.ofNat qn)), .second, .val (.long (Int64.ofNat uu)), .second, rv b26, rv ts29, iv (Int32.ofNat ln), .val (.long (Int64.ofNat nu)), .second, .val (.long (Int64.ofNat (7919 * qn))), .second] [(.int (lcmpW (0 : Int64) (0 : Int64)))]))
      refine Go.pre (fun _ k => XS.ifNo X49.here hx rfl (hb hby at_239) rfl ((if0 _ _).trans (teq (own_eqT (by decide : (0 : Int64) = (0 : Int64)))).2) k) ?_
      show Go p e below _ (T49.setTop (mkF m 242 #[.val (.long p0), .second, .val (.long p1), .second, iv p2, .val (.long (Int64.ofNat qn)), .second, .val (.long (Int64.ofNat uu)), .second, rv b26, rv ts29, iv (Int32.ofNat ln), .val (.long (Int64.ofNat nu)), .second, .val (.long (Int64.ofNat (7919 * qn))), .second] []))
      refine Go.pre (fun _ k => XS.iconst X49.here hx rfl (hb hby at_242) k) ?_
      show Go p e below _ (T49.setTop (mkF m 243 #[.val (.long p0), .second, .val (.long p1), .second, iv p2, .val (.long (Int64.ofNat qn)), .second, .val (.long (Int64.ofNat uu)), .second, rv b26, rv ts29, iv (Int32.ofNat ln), .val (.long (Int64.ofNat nu)), .second, .val (.long (Int64.ofNat (7919 * qn))), .second] [(.int (1 : Int32))]))
      refine Go.pre (fun _ k => XS.goto X49.here hx rfl (pc0 := 243) (pc' := 247) rfl (hb hby at_243) (by decide) (by decide) k) ?_
      show Go p e below _ (T49.setTop (mkF m 247 #[.val (.long p0), .second, .val (.long p1), .second, iv p2, .val (.long (Int64.ofNat qn)), .second, .val (.long (Int64.ofNat uu)), .second, rv b26, rv ts29, iv (Int32.ofNat ln), .val (.long (Int64.ofNat nu)), .second, .val (.long (Int64.ofNat (7919 * qn))), .second] [(.int (1 : Int32))]))
      have hkf : T29.heap.size ≤ T49.heap.size := by rw [show T49.heap = T29.heap from eh49]; exact (Nat.le_refl T29.heap.size)
      obtain ⟨fs, hr, hrun, hended, hRE⟩ := Stand.leaveW (s := s) (vm₁ := T29.vm) X49 hS29 hkf (v := some (.int (1 : Int32))) (fun h => by rw [Bd.returns] at h; cases h)
      have CRf := CR29.trans (CHv.at (s := s) (vm0 := T29.vm) X49 hZ29 hEL CR29.1)
      refine Go.fin (retN X49 hx (t := .boolean) Bd.returns (by simp) (hb hby at_247) hr) ⟨hrun, hended, _, _, rfl, ?_, ?_, hRE.1, hRE.2.1, hRE.2.2.1, hRE.2.2.2.mono (by decide) (by decide)⟩
      · skip
        exact ⟨rfl, N49⟩
      · rw [hh]
        show CHr Z EL s.vm h0 T49.vm T49.heap
        rw [show T49.heap = T29.heap from eh49]
        exact CRf

theorem own_isR {t : Term} {args : Array Value} {s : State} (h : (Cond.isRef t).value args s none s [] = some true) : ∃ v, t.eval args s none [] s = some v ∧ v.isRef = true := by
  simp only [Cond.value] at h
  cases ht : t.eval args s none [] s with
  | none => simp [ht] at h
  | some x => exact ⟨x, rfl, by cases x <;> simp [ht, Value.isRef] at h ⊢⟩
theorem own_nz {t : Term} {args : Array Value} {s : State} {z : Int32} (e : t.eval args s none [] s = some (.int z)) (h : (Cond.not (Cond.eq t (.int 0))).value args s none s [] = some true) : ¬ z = (0 : Int32) := by
  intro q
  subst q
  have e2 : (Term.int (0 : Int32)).eval args s none [] s = some (.int 0) := Term.int_eval _
  simp [Cond.value, e, e2] at h
theorem own_tie {s : State} {n : String} {a d st : Addr} {D : Cell} (S : Sta s s.heap "java/lang/Integer" n "[B" (.ref a)) (T : Tbl s n st d D) : a = d := by
  obtain ⟨cf, i, k, f, st1, cell, h1, h2, h3, h4, h5, h6, h7⟩ := S
  obtain ⟨cf', i', k', f', cell', g1, g2, g3, g4, g5, g6, g7, -⟩ := T
  cases h1.symm.trans g1
  cases h4.symm.trans g4
  cases h5.symm.trans g5
  cases h7.symm.trans g7
  rfl
theorem own_dgt {s : State} {n : String} {d st : Addr} {D : Cell} {f : Nat → Int32} (T : Tbl s n st d D) (hO : ∀ r, r < 100 → iAt D r = f r) : Dgt s d f := by
  obtain ⟨cf, i, k, fl, cell, g1, g2, g3, g4, g5, g6, g7, g8, g9, g10, g11, g12⟩ := T
  refine ⟨D, ⟨g8, g9, g10⟩, fun r hr => ⟨?_, ?_⟩⟩
  · rintro (q | q)
    · exact own_nn (by omega) q
    · rw [own_clamp (by omega)] at q; omega
  · rw [own_clamp (by omega), g12 r hr, hO r hr]
set_option maxRecDepth 65536 in
set_option maxHeartbeats 40000000 in
theorem comes_1 {Post : Tables → Env → Array Value → State → Outcome → State → Prop} (hpost : ∀ tb e args s v u, (limb_1_1.after args s (.returned v) u = true ∧ limb_1_2.after args s (.returned v) u = true ∧ True) → FramedW s (.returned v) u (Jvm.fieldLocs frame_1_writes args s ++ Jvm.arrayLocs frame_1_arrays args s ++ Jvm.staticLocs frame_1_statics s) 24 2240 → Post tb e args s (.returned v) u) :
    ArmFor flags0 classFile x code maxLocals ret World_1 tables_1 room_1 Calls_1 rest_1 Pre_1 Post := by
  intro l hfl _ _ p e ha hc hk s m args below hf hA hF happ hP
  obtain ⟨hcalls, hrest, hpre⟩ := hP
  obtain ⟨-, -, -, hnamed, -, -, -, hat⟩ := (Spec.applies_iff hf).mp happ
  obtain ⟨hg, hn⟩ := and_e (Cond.before_iff.mp (show (Jvm.Cond.and given_1 narrow_1).before args s = true from hpre))
  obtain ⟨g0, r0⟩ := and_e hg
  obtain ⟨g1, r1⟩ := and_e r0
  obtain ⟨g2, r2⟩ := and_e r1
  obtain ⟨w0, w1, w2, rfl⟩ : ∃ w0 w1 w2 : Value, args = #[w0, w1, w2] := by
    have hs : args.size = 3 := by simpa [Cond.value, given_1] using g0
    obtain ⟨L⟩ := args
    match L, hs with
    | [w0, w1, w2], _ => exact ⟨w0, w1, w2, rfl⟩
  have hw := fun d (hd : d ∈ tables_1) => atoms_spec (ws := Jvm.Cond.code x code maxLocals ret :: tables_1) hat d (List.mem_cons_of_mem _ hd)
  obtain ⟨i0, ei0⟩ := isL_v g1
  obtain rfl : w0 = (.long i0) := Option.some.inj ei0
  obtain ⟨i1, ei1⟩ := isL_v g2
  obtain rfl : w1 = (.long i1) := Option.some.inj ei1
  obtain ⟨i2, ei2⟩ := is_v r2
  obtain rfl : w2 = (.int i2) := Option.some.inj ei2
  have hr : rest_1_c.before _ s = true := hrest
  rw [rest_1_c_eq] at hr
  have wr : ∀ (i : Nat) {d : Cond}, jdkStatics_1[i]? = some d → d.before #[.long i0, .long i1, .int i2] s = true := fun i d h => (Jvm.SetKit.atoms_of _ hr).1 d (List.mem_of_getElem? h)
  obtain ⟨cs, evc⟩ := is_v (Cond.before_iff.mp (wr 1 rfl))
  have SC := Sta.start evc (Or.inl (wr 0 rfl))
  have hcs := own_nz evc (Cond.before_iff.mp (wr 2 rfl))
  obtain ⟨fm, evf, hfm⟩ := own_isR (Cond.before_iff.mp (wr 8 rfl))
  have SF := Sta.start evf (Or.inl (wr 7 rfl))
  have hfit : ∀ {y : Addr} {c : Cell}, s.heap[y]? = some c → ∀ {i : Nat} (hi : i < c.slots.size), s.fitsSlot c.cls c.vm i c.slots[i] = true := fun {y c} hc i hi => by
    obtain ⟨ha, rfl⟩ := Array.getElem?_eq_some_iff.mp hc
    have q := List.all_eq_true.mp ((Array.all_eq_true_iff_forall_mem.mp hF) _ (Array.getElem_mem ha)) i (List.mem_range.mpr hi)
    simpa [Array.getElem?_eq_getElem hi] using q
  obtain ⟨st, d1a, D1, d10a, D2, hT1, hO, hT2, hT⟩ := Jvm.SetKit.digits_of hfit (hw _ (List.mem_of_getElem? (i := 9) rfl)) (wr 9 rfl) (wr 10 rfl) (wr 12 rfl) (wr 13 rfl) (wr 14 rfl) (wr 15 rfl) (wr 17 rfl) (wr 18 rfl) (wr 19 rfl)
  obtain ⟨e1, ev1⟩ := exa_v (Cond.before_iff.mp (wr 12 rfl))
  have SD1 := Sta.start ev1 (Or.inl (wr 11 rfl))
  obtain rfl := own_tie SD1 hT1
  obtain ⟨e2, ev2⟩ := exa_v (Cond.before_iff.mp (wr 17 rfl))
  have SD10 := Sta.start ev2 (Or.inl (wr 16 rfl))
  obtain rfl := own_tie SD10 hT2
  have hEL : EW s #[.long i0, .long i1, .int i2] EL := EW.cons (hw _ (List.mem_of_getElem? (i := 61) rfl)) (by decide) EW.nil
  have CH : CHv s EL s.vm s.heap := CHv.start hEL (fun z hz => by obtain rfl := List.mem_singleton.mp hz; exact hcalls.1 _ (List.mem_cons_self ..)) (wr 2 rfl) (hw _ (List.mem_of_getElem? (i := 9) rfl)) (hw _ (List.mem_of_getElem? (i := 8) rfl))
  obtain ⟨n, o, h1, h2, h3, _, L, rfl, ⟨rfl, N⟩, -, hq⟩ := rm_law l s _ hw tables_1 i0 i1 i2 e1 e2 fm cs s.heap s.heap.size (Nat.le_refl _) (Old.start s) SC hcs SD1 (own_dgt hT1 hO) SD10 (own_dgt hT2 hT) SF hfm hEL p e ha hc hk s m _ below hf ((Spec.applies_iff_loose hf).mp happ).1 ⟨rfl, State.Warmed39.refl s, rfl, CH⟩ trivial
  refine ⟨n, _, h1, h2, h3, hpost _ _ _ _ _ _ ⟨Cond.after_iff.mpr rfl, Cond.after_iff.mpr (eq_i res_at (Term.int_eval (1)) rfl), trivial⟩ ⟨hq.1, hq.2.1, hq.2.2.1, (hq.2.2.2.sift fun y hy => Or.inr (N y hy)).mono (by decide) (by decide)⟩⟩
theorem main_1_1 : Claimed_1_1 := comes_1 fun _ _ _ _ _ _ h hF => ⟨h.1, hF⟩
theorem main_1_2 : Claimed_1_2 := comes_1 fun _ _ _ _ _ _ h hF => ⟨h.2.1, hF⟩
end Jvm.Pilot.@@N@@
namespace Jvm.Pilot.@@N@@
open Jvm Jvm.ClassFile Sem Op Lib Jvm.Free Jvm.Stand Jvm.Pilot.@@N@@.Jvm.D
/-! MADE BY PROGRAM (witnessworld.py) out of the Statement's table words and the real class files: 26 classes; the members and pool entries that the words name. The judged class is class 1, her method 1. -/
namespace start1
open Jvm.ClassFile
def u (s : String) : CpInfo := .utf8 (stringToUtf16 s)
/-- a pool by its gaps: so many unusable entries, then the entry; so many at the end -/
def gap : Nat → List CpInfo → List CpInfo
  | 0, r => r
  | n + 1, r => .unusable :: gap n r
def poolList (es : List (Nat × CpInfo)) (last : Nat) : List CpInfo := es.foldr (fun e r => gap e.1 (e.2 :: r)) (gap last [])
def pool (es : List (Nat × CpInfo)) (last : Nat) : Array CpInfo := ⟨poolList es last⟩
def fileOf (pool : Array CpInfo) (this : Nat) (attrs : Array Attribute := #[]) (ms : Array MethodInfo := #[]) (fl : Nat := 33) (sup : Nat := 0) (ifs : Array Nat := #[]) (fds : Array FieldInfo := #[]) : ClassFile where
  minorVersion := 0
  majorVersion := 65
  constantPool := pool
  accessFlags := fl
  thisClass := this
  superClass := sup
  interfaces := ifs
  fields := fds
  methods := ms
  attributes := attrs
def plain (name : String) (sup : Option ClassId) : Class where
  name := name
  kind := .ordinary
  loader := none
  accessFlags := 33
  super := sup
  interfaces := #[]
  cf := none
  fields := #[]
  methods := #[]
  instanceTypes := #[]
  staticTypes := #[]
  resolved := #[]
  callSites := []
  init := .initialized
  statics := none
  mirror := none

def pool0 : Array CpInfo := pool [(5, u "<init>"), (0, u "()V"), (1, .class_ 10), (1, u "java/lang/Object")] 113

def k0c0 : Code := { maxStack := 0, maxLocals := 1, code := object_method_1_code, exceptionTable := #[], attributes := #[] }
def k0m0 : Method := { name := "<init>", desc := "()V", sig := { parameters := [], returnType := none }, accessFlags := 1, code := some k0c0 }
/-- java/lang/Object -/
def k0 : Class := { plain "java/lang/Object" none with
  accessFlags := 33
  interfaces := #[]
  cf := some (fileOf pool0 8 #[] #[{ accessFlags := 1, nameIndex := 5, descriptorIndex := 6, attributes := #[] }] 33 0 #[] #[])
  fields := #[]
  methods := #[k0m0]
  instanceTypes := #[]
  staticTypes := #[]
  resolved := Array.replicate 124 none
  statics := none }

def pool1 : Array CpInfo := pool [(2, .class_ 4), (1, u "java/lang/Object"), (0, u "<init>"), (0, u "()V"), (0, .long 9223372036854775807), (1, .long 2000), (1, .long 16777215), (1, .long 4611686018427387903), (1, .class_ 16), (0, u "com/example/inferred_grant/inferredgrant/benchmark/Setting"), (0, .string 18), (0, u "S"), (0, .methodref 15 20), (0, .nameAndType 5 21), (0, u "(Ljava/lang/String;JJJJJI)V"), (0, .methodref 15 23), (0, .nameAndType 24 25), (0, u "requestUser"), (0, u "(J)Ljava/lang/String;"), (0, .methodref 27 28), (0, .class_ 29), (0, .nameAndType 30 31), (0, u "java/lang/String"), (0, u "length"), (0, u "()I"), (0, .methodref 27 33), (0, .nameAndType 34 35), (0, u "charAt"), (0, u "(I)C"), (0, .methodref 37 38), (0, .class_ 39), (0, .nameAndType 40 41), (0, u "com/example/inferred_grant/inferredgrant/benchmark/SettingRequestUserPinLaw"), (0, u "step"), (0, u "(Ljava/lang/String;IJ)J"), (0, .long 7919), (1, .long 18446744073709551615), (1, .long 10), (3, u "law"), (0, u "(JJI)Z")] 3

def k1m0 : Method := { name := "<init>", desc := "()V", sig := { parameters := [], returnType := none }, accessFlags := 1, code := none }
def k1c1 : Code := { maxStack := 14, maxLocals := 16, code := code, exceptionTable := #[], attributes := #[] }
def k1m1 : Method := { name := "law", desc := "(JJI)Z", sig := { parameters := [.long, .long, .int], returnType := some .boolean }, accessFlags := 9, code := some k1c1 }
def k1c2 : Code := { maxStack := 4, maxLocals := 5, code := method_3_code, exceptionTable := #[], attributes := #[] }
def k1m2 : Method := { name := "step", desc := "(Ljava/lang/String;IJ)J", sig := { parameters := [(.object "java/lang/String"), .int, .long], returnType := some .long }, accessFlags := 10, code := some k1c2 }
/-- com/example/inferred_grant/inferredgrant/benchmark/SettingRequestUserPinLaw -/
def k1 : Class := { plain "com/example/inferred_grant/inferredgrant/benchmark/SettingRequestUserPinLaw" (some 0) with
  accessFlags := 49
  interfaces := #[]
  cf := some (fileOf pool1 37 #[] #[{ accessFlags := 1, nameIndex := 5, descriptorIndex := 6, attributes := #[] }, { accessFlags := 9, nameIndex := 50, descriptorIndex := 51, attributes := #[] }, { accessFlags := 10, nameIndex := 40, descriptorIndex := 41, attributes := #[] }] 49 2 #[] #[])
  fields := #[]
  methods := #[k1m0, k1m1, k1m2]
  instanceTypes := #[]
  staticTypes := #[]
  resolved := Array.replicate 55 none
  statics := none }

def pool2 : Array CpInfo := pool [(1, .methodref 2 3), (0, .class_ 4), (0, .nameAndType 5 6), (0, u "java/lang/Object"), (0, u "<init>"), (0, u "()V"), (0, .fieldref 8 9), (0, .class_ 10), (0, .nameAndType 11 12), (0, u "com/example/inferred_grant/inferredgrant/benchmark/Setting"), (0, u "name"), (0, u "Ljava/lang/String;"), (0, .fieldref 8 14), (0, .nameAndType 15 16), (0, u "roles"), (0, u "J"), (0, .fieldref 8 18), (0, .nameAndType 19 16), (0, u "classes"), (0, .fieldref 8 21), (0, .nameAndType 22 16), (0, u "users"), (0, .fieldref 8 24), (0, .nameAndType 25 16), (0, u "objects"), (0, .fieldref 8 27), (0, .nameAndType 28 16), (0, u "grants"), (0, .fieldref 8 30), (0, .nameAndType 31 32), (0, u "permits"), (0, u "I"), (2, u "ACTIONS"), (0, u "Ljava/util/List;"), (19, u "(J)Ljava/lang/String;"), (23, .methodref 8 81), (0, .nameAndType 82 56), (0, u "user"), (24, .long 7919), (3, .class_ 112), (0, u "java/lang/StringBuilder"), (0, .methodref 111 3), (2, .methodref 111 117), (0, .nameAndType 118 119), (0, u "append"), (0, u "(Ljava/lang/String;)Ljava/lang/StringBuilder;"), (0, .methodref 111 121), (0, .nameAndType 118 122), (0, u "(J)Ljava/lang/StringBuilder;"), (0, .methodref 111 124), (0, .nameAndType 125 126), (0, u "toString"), (0, u "()Ljava/lang/String;"), (2, .string 130), (0, u "u"), (13, u "S1"), (8, u "(Ljava/lang/String;JJJJJI)V"), (2, u "Lcom/example/inferred_grant/inferredgrant/benchmark/Setting;"), (1, u "S2"), (13, u "REQUESTS"), (9, u "requestUser")] 26

def k2c0 : Code := { maxStack := 3, maxLocals := 13, code := prog_6_method_1_code, exceptionTable := #[], attributes := #[] }
def k2m0 : Method := { name := "<init>", desc := "(Ljava/lang/String;JJJJJI)V", sig := { parameters := [(.object "java/lang/String"), .long, .long, .long, .long, .long, .int], returnType := none }, accessFlags := 0, code := some k2c0 }
def k2c1 : Code := { maxStack := 4, maxLocals := 3, code := prog_6_method_5_code, exceptionTable := #[], attributes := #[] }
def k2m1 : Method := { name := "requestUser", desc := "(J)Ljava/lang/String;", sig := { parameters := [.long], returnType := some (.object "java/lang/String") }, accessFlags := 0, code := some k2c1 }
def k2c2 : Code := { maxStack := 3, maxLocals := 2, code := prog_6_method_10_code, exceptionTable := #[], attributes := #[] }
def k2m2 : Method := { name := "user", desc := "(J)Ljava/lang/String;", sig := { parameters := [.long], returnType := some (.object "java/lang/String") }, accessFlags := 10, code := some k2c2 }
/-- com/example/inferred_grant/inferredgrant/benchmark/Setting -/
def k2 : Class := { plain "com/example/inferred_grant/inferredgrant/benchmark/Setting" (some 0) with
  accessFlags := 32
  interfaces := #[]
  cf := some (fileOf pool2 8 #[] #[{ accessFlags := 0, nameIndex := 5, descriptorIndex := 153, attributes := #[] }, { accessFlags := 0, nameIndex := 182, descriptorIndex := 56, attributes := #[] }, { accessFlags := 10, nameIndex := 82, descriptorIndex := 56, attributes := #[] }] 32 2 #[] #[{ accessFlags := 24, nameIndex := 144, descriptorIndex := 156, attributes := #[] }, { accessFlags := 24, nameIndex := 158, descriptorIndex := 156, attributes := #[] }, { accessFlags := 24, nameIndex := 172, descriptorIndex := 32, attributes := #[] }, { accessFlags := 26, nameIndex := 35, descriptorIndex := 36, attributes := #[] }, { accessFlags := 18, nameIndex := 11, descriptorIndex := 12, attributes := #[] }, { accessFlags := 18, nameIndex := 15, descriptorIndex := 16, attributes := #[] }, { accessFlags := 18, nameIndex := 19, descriptorIndex := 16, attributes := #[] }, { accessFlags := 18, nameIndex := 22, descriptorIndex := 16, attributes := #[] }, { accessFlags := 18, nameIndex := 25, descriptorIndex := 16, attributes := #[] }, { accessFlags := 18, nameIndex := 28, descriptorIndex := 16, attributes := #[] }, { accessFlags := 18, nameIndex := 31, descriptorIndex := 32, attributes := #[] }])
  fields := #[{ name := "S1", type := (.object "com/example/inferred_grant/inferredgrant/benchmark/Setting"), accessFlags := 24, slot := 0, constantValue := 0 }, { name := "S2", type := (.object "com/example/inferred_grant/inferredgrant/benchmark/Setting"), accessFlags := 24, slot := 1, constantValue := 0 }, { name := "REQUESTS", type := .int, accessFlags := 24, slot := 2, constantValue := 0 }, { name := "ACTIONS", type := (.object "java/util/List"), accessFlags := 26, slot := 3, constantValue := 0 }, { name := "name", type := (.object "java/lang/String"), accessFlags := 18, slot := 0, constantValue := 0 }, { name := "roles", type := .long, accessFlags := 18, slot := 1, constantValue := 0 }, { name := "classes", type := .long, accessFlags := 18, slot := 2, constantValue := 0 }, { name := "users", type := .long, accessFlags := 18, slot := 3, constantValue := 0 }, { name := "objects", type := .long, accessFlags := 18, slot := 4, constantValue := 0 }, { name := "grants", type := .long, accessFlags := 18, slot := 5, constantValue := 0 }, { name := "permits", type := .int, accessFlags := 18, slot := 6, constantValue := 0 }]
  methods := #[k2m0, k2m1, k2m2]
  instanceTypes := #[(.object "java/lang/String"), .long, .long, .long, .long, .long, .int]
  staticTypes := #[(.object "com/example/inferred_grant/inferredgrant/benchmark/Setting"), (.object "com/example/inferred_grant/inferredgrant/benchmark/Setting"), .int, (.object "java/util/List")]
  resolved := Array.replicate 209 none
  statics := none }

def pool3 : Array CpInfo := pool [(1, .class_ 2), (0, u "java/io/Serializable"), (0, .class_ 4), (0, u "java/lang/Object")] 2

/-- java/io/Serializable -/
def k3 : Class := { plain "java/io/Serializable" (some 0) with
  accessFlags := 1537
  interfaces := #[]
  cf := some (fileOf pool3 1 #[] #[] 1537 3 #[] #[])
  fields := #[]
  methods := #[]
  instanceTypes := #[]
  staticTypes := #[]
  resolved := Array.replicate 7 none
  statics := none }

def pool4 : Array CpInfo := pool [(1, .class_ 2), (0, u "java/lang/Comparable"), (0, .class_ 4), (0, u "java/lang/Object")] 7

/-- java/lang/Comparable -/
def k4 : Class := { plain "java/lang/Comparable" (some 0) with
  accessFlags := 1537
  interfaces := #[]
  cf := some (fileOf pool4 1 #[] #[] 1537 3 #[] #[])
  fields := #[]
  methods := #[]
  instanceTypes := #[]
  staticTypes := #[]
  resolved := Array.replicate 12 none
  statics := none }

def pool5 : Array CpInfo := pool [(2, .class_ 4), (1, u "java/lang/CharSequence"), (42, .class_ 48), (0, u "java/lang/CharSequence$1CodePointIterator"), (10, .class_ 60), (0, u "java/lang/CharSequence$1CharIterator"), (5, .class_ 67), (0, u "java/lang/Object")] 63

/-- java/lang/CharSequence -/
def k5 : Class := { plain "java/lang/CharSequence" (some 0) with
  accessFlags := 1537
  interfaces := #[]
  cf := some (fileOf pool5 2 #[.nestMembers #[47, 59]] #[] 1537 66 #[] #[])
  fields := #[]
  methods := #[]
  instanceTypes := #[]
  staticTypes := #[]
  resolved := Array.replicate 131 none
  statics := none }

def pool6 : Array CpInfo := pool [(1, .class_ 2), (0, u "java/lang/constant/Constable"), (0, .class_ 4), (0, u "java/lang/Object")] 6

/-- java/lang/constant/Constable -/
def k6 : Class := { plain "java/lang/constant/Constable" (some 0) with
  accessFlags := 1537
  interfaces := #[]
  cf := some (fileOf pool6 1 #[] #[] 1537 3 #[] #[])
  fields := #[]
  methods := #[]
  instanceTypes := #[]
  staticTypes := #[]
  resolved := Array.replicate 11 none
  statics := none }

def pool7 : Array CpInfo := pool [(1, .class_ 2), (0, u "java/lang/constant/ConstantDesc"), (0, .class_ 4), (0, u "java/lang/Object")] 32

/-- java/lang/constant/ConstantDesc -/
def k7 : Class := { plain "java/lang/constant/ConstantDesc" (some 0) with
  accessFlags := 1537
  interfaces := #[]
  cf := some (fileOf pool7 1 #[] #[] 1537 3 #[] #[])
  fields := #[]
  methods := #[]
  instanceTypes := #[]
  staticTypes := #[]
  resolved := Array.replicate 37 none
  statics := none }

def pool8 : Array CpInfo := pool [(1, .methodref 2 3), (0, .class_ 4), (0, .nameAndType 5 6), (0, u "java/lang/Object"), (0, u "<init>"), (0, u "()V"), (2, .fieldref 10 11), (0, .class_ 12), (0, .nameAndType 13 14), (0, u "java/lang/String"), (0, u "value"), (0, u "[B"), (0, .fieldref 10 16), (0, .nameAndType 17 18), (0, u "coder"), (0, u "B"), (2, u "hash"), (0, u "I"), (2, u "hashIsZero"), (0, u "Z"), (11, .fieldref 10 39), (0, .nameAndType 40 26), (0, u "COMPACT_STRINGS"), (13, .methodref 55 56), (0, .class_ 57), (0, .nameAndType 58 59), (0, u "java/util/Arrays"), (0, u "copyOfRange"), (0, u "([BII)[B"), (47, .class_ 109), (1, u "java/lang/StringLatin1"), (32, u "()Z"), (50, .class_ 195), (1, u "java/lang/System"), (16, .methodref 193 213), (0, .nameAndType 214 215), (0, u "arraycopy"), (0, u "(Ljava/lang/Object;ILjava/lang/Object;II)V"), (118, u "()I"), (0, .methodref 10 336), (0, .nameAndType 17 337), (0, u "()B"), (2, u "()[B"), (22, u "([BI)C"), (27, u "(II)V"), (35, u "(I)C"), (61, .methodref 10 490), (0, .nameAndType 5 491), (0, u "(Ljava/lang/AbstractStringBuilder;Ljava/lang/Void;)V"), (0, .methodref 10 493), (0, .nameAndType 494 142), (0, u "isLatin1"), (0, .methodref 107 496), (0, .nameAndType 497 363), (0, u "charAt"), (3, u "checkIndex"), (4, .nameAndType 507 334), (0, u "length"), (24, u "getBytes"), (16, .methodref 550 506), (0, .class_ 551), (0, u "java/lang/AbstractStringBuilder"), (0, .methodref 550 553), (0, .nameAndType 554 340), (0, u "getValue"), (20, .class_ 576), (0, u "java/lang/CharSequence"), (22, u "CASE_INSENSITIVE_ORDER"), (0, u "Ljava/util/Comparator;"), (220, u "([BIB)V"), (225, .methodref 550 493), (5, .fieldref 1054 1055), (0, .class_ 1056), (0, .nameAndType 1057 1058), (0, u "jdk/internal/util/Preconditions"), (0, u "SIOOBE_FORMATTER"), (0, u "Ljava/util/function/BiFunction;"), (0, .methodref 1054 1060), (0, .nameAndType 501 1061), (0, u "(IILjava/util/function/BiFunction;)I"), (39, u "serialPersistentFields"), (0, u "[Ljava/io/ObjectStreamField;"), (0, .class_ 1104), (0, u "java/lang/String$CaseInsensitiveComparator"), (1, .class_ 1107), (0, u "java/io/Serializable"), (0, .class_ 1109), (0, u "java/lang/Comparable"), (0, .class_ 1111), (0, u "java/lang/constant/Constable"), (0, .class_ 1113), (0, u "java/lang/constant/ConstantDesc"), (2, u "serialVersionUID"), (0, u "J"), (3, u "REPL"), (0, u "C"), (2, u "LATIN1"), (1, u "UTF16"), (105, u "(Ljava/lang/StringBuilder;)V")] 217

def k8m0 : Method := { name := "<init>", desc := "()V", sig := { parameters := [], returnType := none }, accessFlags := 1, code := none }
def k8c1 : Code := { maxStack := 3, maxLocals := 2, code := jdk_42_method_53_code, exceptionTable := #[], attributes := #[] }
def k8m1 : Method := { name := "<init>", desc := "(Ljava/lang/StringBuilder;)V", sig := { parameters := [(.object "java/lang/StringBuilder")], returnType := none }, accessFlags := 1, code := some k8c1 }
def k8c2 : Code := { maxStack := 2, maxLocals := 1, code := jdk_42_method_54_code, exceptionTable := #[], attributes := #[] }
def k8m2 : Method := { name := "length", desc := "()I", sig := { parameters := [], returnType := some .int }, accessFlags := 1, code := some k8c2 }
def k8c3 : Code := { maxStack := 2, maxLocals := 2, code := jdk_42_method_56_code, exceptionTable := #[], attributes := #[] }
def k8m3 : Method := { name := "charAt", desc := "(I)C", sig := { parameters := [.int], returnType := some .char }, accessFlags := 1, code := some k8c3 }
def k8c4 : Code := { maxStack := 5, maxLocals := 4, code := jdk_42_method_147_code, exceptionTable := #[], attributes := #[] }
def k8m4 : Method := { name := "getBytes", desc := "([BIB)V", sig := { parameters := [(.array .byte), .int, .byte], returnType := none }, accessFlags := 0, code := some k8c4 }
def k8c5 : Code := { maxStack := 5, maxLocals := 5, code := jdk_42_method_150_code, exceptionTable := #[], attributes := #[] }
def k8m5 : Method := { name := "<init>", desc := "(Ljava/lang/AbstractStringBuilder;Ljava/lang/Void;)V", sig := { parameters := [(.object "java/lang/AbstractStringBuilder"), (.object "java/lang/Void")], returnType := none }, accessFlags := 0, code := some k8c5 }
def k8c6 : Code := { maxStack := 1, maxLocals := 1, code := jdk_42_method_152_code, exceptionTable := #[], attributes := #[] }
def k8m6 : Method := { name := "coder", desc := "()B", sig := { parameters := [], returnType := some .byte }, accessFlags := 0, code := some k8c6 }
def k8c7 : Code := { maxStack := 1, maxLocals := 1, code := jdk_42_method_154_code, exceptionTable := #[], attributes := #[] }
def k8m7 : Method := { name := "isLatin1", desc := "()Z", sig := { parameters := [], returnType := some .boolean }, accessFlags := 0, code := some k8c7 }
def k8c8 : Code := { maxStack := 3, maxLocals := 2, code := jdk_42_method_155_code, exceptionTable := #[], attributes := #[] }
def k8m8 : Method := { name := "checkIndex", desc := "(II)V", sig := { parameters := [.int, .int], returnType := none }, accessFlags := 8, code := some k8c8 }
/-- java/lang/String -/
def k8 : Class := { plain "java/lang/String" (some 0) with
  accessFlags := 49
  interfaces := #[3, 4, 5, 6, 7]
  cf := some (fileOf pool8 10 #[.nestMembers #[1103]] #[{ accessFlags := 1, nameIndex := 5, descriptorIndex := 6, attributes := #[] }, { accessFlags := 1, nameIndex := 5, descriptorIndex := 1233, attributes := #[] }, { accessFlags := 1, nameIndex := 507, descriptorIndex := 334, attributes := #[] }, { accessFlags := 1, nameIndex := 497, descriptorIndex := 427, attributes := #[] }, { accessFlags := 0, nameIndex := 532, descriptorIndex := 821, attributes := #[] }, { accessFlags := 0, nameIndex := 5, descriptorIndex := 491, attributes := #[] }, { accessFlags := 0, nameIndex := 17, descriptorIndex := 337, attributes := #[] }, { accessFlags := 0, nameIndex := 494, descriptorIndex := 142, attributes := #[] }, { accessFlags := 8, nameIndex := 501, descriptorIndex := 391, attributes := #[] }] 49 2 #[1106, 1108, 575, 1110, 1112] #[{ accessFlags := 18, nameIndex := 13, descriptorIndex := 14, attributes := #[] }, { accessFlags := 18, nameIndex := 17, descriptorIndex := 18, attributes := #[] }, { accessFlags := 2, nameIndex := 21, descriptorIndex := 22, attributes := #[] }, { accessFlags := 2, nameIndex := 25, descriptorIndex := 26, attributes := #[] }, { accessFlags := 26, nameIndex := 1116, descriptorIndex := 1117, attributes := #[] }, { accessFlags := 24, nameIndex := 40, descriptorIndex := 26, attributes := #[] }, { accessFlags := 26, nameIndex := 1101, descriptorIndex := 1102, attributes := #[] }, { accessFlags := 26, nameIndex := 1121, descriptorIndex := 1122, attributes := #[] }, { accessFlags := 25, nameIndex := 599, descriptorIndex := 600, attributes := #[] }, { accessFlags := 24, nameIndex := 1125, descriptorIndex := 18, attributes := #[] }, { accessFlags := 24, nameIndex := 1127, descriptorIndex := 18, attributes := #[] }])
  fields := #[{ name := "value", type := (.array .byte), accessFlags := 18, slot := 0, constantValue := 0 }, { name := "coder", type := .byte, accessFlags := 18, slot := 1, constantValue := 0 }, { name := "hash", type := .int, accessFlags := 2, slot := 2, constantValue := 0 }, { name := "hashIsZero", type := .boolean, accessFlags := 2, slot := 3, constantValue := 0 }, { name := "serialVersionUID", type := .long, accessFlags := 26, slot := 0, constantValue := 0 }, { name := "COMPACT_STRINGS", type := .boolean, accessFlags := 24, slot := 1, constantValue := 0 }, { name := "serialPersistentFields", type := (.array (.object "java/io/ObjectStreamField")), accessFlags := 26, slot := 2, constantValue := 0 }, { name := "REPL", type := .char, accessFlags := 26, slot := 3, constantValue := 0 }, { name := "CASE_INSENSITIVE_ORDER", type := (.object "java/util/Comparator"), accessFlags := 25, slot := 4, constantValue := 0 }, { name := "LATIN1", type := .byte, accessFlags := 24, slot := 5, constantValue := 0 }, { name := "UTF16", type := .byte, accessFlags := 24, slot := 6, constantValue := 0 }]
  methods := #[k8m0, k8m1, k8m2, k8m3, k8m4, k8m5, k8m6, k8m7, k8m8]
  instanceTypes := #[(.array .byte), .byte, .int, .boolean]
  staticTypes := #[.long, .boolean, (.array (.object "java/io/ObjectStreamField")), .char, (.object "java/util/Comparator"), .byte, .byte]
  resolved := Array.replicate 1451 none
  statics := some 0 }

def pool9 : Array CpInfo := pool [(1, .class_ 2), (0, u "java/lang/Appendable"), (0, .class_ 4), (0, u "java/lang/Object")] 9

/-- java/lang/Appendable -/
def k9 : Class := { plain "java/lang/Appendable" (some 0) with
  accessFlags := 1537
  interfaces := #[]
  cf := some (fileOf pool9 1 #[] #[] 1537 3 #[] #[])
  fields := #[]
  methods := #[]
  instanceTypes := #[]
  staticTypes := #[]
  resolved := Array.replicate 14 none
  statics := none }

def pool10 : Array CpInfo := pool [(1, .class_ 2), (0, u "java/lang/String"), (0, .methodref 4 5), (0, .class_ 6), (0, .nameAndType 7 8), (0, u "java/lang/Object"), (0, u "<init>"), (0, u "()V"), (1, .class_ 12), (1, u "java/lang/AbstractStringBuilder"), (0, u "EMPTYVALUE"), (0, u "[B"), (0, .fieldref 10 16), (0, .nameAndType 17 14), (0, u "value"), (0, .fieldref 1 19), (0, .nameAndType 20 21), (0, u "COMPACT_STRINGS"), (0, u "Z"), (0, .fieldref 10 23), (0, .nameAndType 24 25), (0, u "coder"), (0, u "B"), (6, .methodref 1 33), (0, .nameAndType 34 35), (0, u "length"), (0, u "()I"), (4, .methodref 1 41), (0, .nameAndType 24 42), (0, u "()B"), (2, u "append"), (0, u "(Ljava/lang/String;)Ljava/lang/AbstractStringBuilder;"), (1, .class_ 49), (0, u "java/lang/CharSequence"), (19, u "(Ljava/lang/String;)V"), (5, u "maybeLatin1"), (3, .fieldref 10 80), (0, .nameAndType 81 82), (0, u "count"), (0, u "I"), (0, .methodref 10 84), (0, .nameAndType 85 86), (0, u "isLatin1"), (0, u "()Z"), (13, .methodref 10 101), (0, .nameAndType 102 103), (0, u "ensureCapacityInternal"), (0, u "(I)V"), (84, u "getChars"), (19, .methodref 10 209), (0, .nameAndType 210 211), (0, u "putStringAt"), (0, u "(ILjava/lang/String;)V"), (5, u "inflateIfNeededFor"), (2, .nameAndType 221 222), (0, u "getBytes"), (0, u "([BIB)V"), (24, u "stringSize"), (6, .methodref 255 256), (0, .class_ 257), (0, .nameAndType 247 258), (0, u "java/lang/Long"), (0, u "(J)I"), (0, .methodref 255 260), (0, .nameAndType 188 261), (0, u "(JI[B)I"), (135, .methodref 10 398), (0, .nameAndType 217 69), (0, .methodref 1 220), (3, u "()[B"), (40, .class_ 445), (0, u "java/lang/Appendable"), (67, u "(J)Ljava/lang/AbstractStringBuilder;"), (38, u "getValue")] 56

def k10m0 : Method := { name := "<init>", desc := "()V", sig := { parameters := [], returnType := none }, accessFlags := 0, code := none }
def k10c1 : Code := { maxStack := 2, maxLocals := 2, code := jdk_68_method_2_code, exceptionTable := #[], attributes := #[] }
def k10m1 : Method := { name := "<init>", desc := "(I)V", sig := { parameters := [.int], returnType := none }, accessFlags := 0, code := some k10c1 }
def k10c2 : Code := { maxStack := 1, maxLocals := 1, code := jdk_68_method_6_code, exceptionTable := #[], attributes := #[] }
def k10m2 : Method := { name := "length", desc := "()I", sig := { parameters := [], returnType := some .int }, accessFlags := 1, code := some k10c2 }
def k10c3 : Code := { maxStack := 4, maxLocals := 3, code := jdk_68_method_9_code, exceptionTable := #[], attributes := #[] }
def k10m3 : Method := { name := "ensureCapacityInternal", desc := "(I)V", sig := { parameters := [.int], returnType := none }, accessFlags := 2, code := some k10c3 }
def k10c4 : Code := { maxStack := 3, maxLocals := 3, code := jdk_68_method_22_code, exceptionTable := #[], attributes := #[] }
def k10m4 : Method := { name := "append", desc := "(Ljava/lang/String;)Ljava/lang/AbstractStringBuilder;", sig := { parameters := [(.object "java/lang/String")], returnType := some (.object "java/lang/AbstractStringBuilder") }, accessFlags := 1, code := some k10c4 }
def k10c5 : Code := { maxStack := 5, maxLocals := 5, code := jdk_68_method_33_code, exceptionTable := #[], attributes := #[] }
def k10m5 : Method := { name := "append", desc := "(J)Ljava/lang/AbstractStringBuilder;", sig := { parameters := [.long], returnType := some (.object "java/lang/AbstractStringBuilder") }, accessFlags := 1, code := some k10c5 }
def k10c6 : Code := { maxStack := 1, maxLocals := 1, code := jdk_68_method_64_code, exceptionTable := #[], attributes := #[] }
def k10m6 : Method := { name := "getValue", desc := "()[B", sig := { parameters := [], returnType := some (.array .byte) }, accessFlags := 16, code := some k10c6 }
def k10c7 : Code := { maxStack := 1, maxLocals := 1, code := jdk_68_method_68_code, exceptionTable := #[], attributes := #[] }
def k10m7 : Method := { name := "isLatin1", desc := "()Z", sig := { parameters := [], returnType := some .boolean }, accessFlags := 16, code := some k10c7 }
def k10c8 : Code := { maxStack := 2, maxLocals := 2, code := jdk_68_method_71_code, exceptionTable := #[], attributes := #[] }
def k10m8 : Method := { name := "inflateIfNeededFor", desc := "(Ljava/lang/String;)V", sig := { parameters := [(.object "java/lang/String")], returnType := none }, accessFlags := 2, code := some k10c8 }
def k10c9 : Code := { maxStack := 4, maxLocals := 3, code := jdk_68_method_73_code, exceptionTable := #[], attributes := #[] }
def k10m9 : Method := { name := "putStringAt", desc := "(ILjava/lang/String;)V", sig := { parameters := [.int, (.object "java/lang/String")], returnType := none }, accessFlags := 2, code := some k10c9 }
/-- java/lang/AbstractStringBuilder -/
def k10 : Class := { plain "java/lang/AbstractStringBuilder" (some 0) with
  accessFlags := 1056
  interfaces := #[9, 5]
  cf := some (fileOf pool10 10 #[] #[{ accessFlags := 0, nameIndex := 7, descriptorIndex := 8, attributes := #[] }, { accessFlags := 0, nameIndex := 7, descriptorIndex := 103, attributes := #[] }, { accessFlags := 1, nameIndex := 34, descriptorIndex := 35, attributes := #[] }, { accessFlags := 2, nameIndex := 102, descriptorIndex := 103, attributes := #[] }, { accessFlags := 1, nameIndex := 45, descriptorIndex := 46, attributes := #[] }, { accessFlags := 1, nameIndex := 45, descriptorIndex := 513, attributes := #[] }, { accessFlags := 16, nameIndex := 552, descriptorIndex := 403, attributes := #[] }, { accessFlags := 16, nameIndex := 85, descriptorIndex := 86, attributes := #[] }, { accessFlags := 2, nameIndex := 217, descriptorIndex := 69, attributes := #[] }, { accessFlags := 2, nameIndex := 210, descriptorIndex := 211, attributes := #[] }] 1056 4 #[444, 48] #[{ accessFlags := 0, nameIndex := 17, descriptorIndex := 14, attributes := #[] }, { accessFlags := 0, nameIndex := 24, descriptorIndex := 25, attributes := #[] }, { accessFlags := 0, nameIndex := 75, descriptorIndex := 21, attributes := #[] }, { accessFlags := 0, nameIndex := 81, descriptorIndex := 82, attributes := #[] }, { accessFlags := 26, nameIndex := 13, descriptorIndex := 14, attributes := #[] }])
  fields := #[{ name := "value", type := (.array .byte), accessFlags := 0, slot := 0, constantValue := 0 }, { name := "coder", type := .byte, accessFlags := 0, slot := 1, constantValue := 0 }, { name := "maybeLatin1", type := .boolean, accessFlags := 0, slot := 2, constantValue := 0 }, { name := "count", type := .int, accessFlags := 0, slot := 3, constantValue := 0 }, { name := "EMPTYVALUE", type := (.array .byte), accessFlags := 26, slot := 0, constantValue := 0 }]
  methods := #[k10m0, k10m1, k10m2, k10m3, k10m4, k10m5, k10m6, k10m7, k10m8, k10m9]
  instanceTypes := #[(.array .byte), .byte, .boolean, .int]
  staticTypes := #[(.array .byte)]
  resolved := Array.replicate 609 none
  statics := none }

def pool11 : Array CpInfo := pool [(1, .methodref 2 3), (0, .class_ 4), (0, .nameAndType 5 6), (0, u "java/lang/AbstractStringBuilder"), (0, u "<init>"), (0, u "(I)V"), (11, .class_ 20), (1, u "java/lang/String"), (3, .class_ 26), (1, u "java/lang/StringBuilder"), (0, u "append"), (0, u "(Ljava/lang/String;)Ljava/lang/StringBuilder;"), (0, .methodref 2 30), (0, .nameAndType 27 31), (0, u "(Ljava/lang/String;)Ljava/lang/AbstractStringBuilder;"), (24, .methodref 2 57), (0, .nameAndType 27 58), (0, u "(J)Ljava/lang/AbstractStringBuilder;"), (78, .methodref 18 138), (0, .nameAndType 5 139), (0, u "(Ljava/lang/StringBuilder;)V"), (5, u "()V"), (10, u "()I"), (124, u "(J)Ljava/lang/StringBuilder;"), (61, .methodref 2 344), (0, .nameAndType 345 156), (0, u "length"), (3, .class_ 350), (0, u "java/lang/Appendable"), (0, .class_ 352), (0, u "java/io/Serializable"), (0, .class_ 354), (0, u "java/lang/Comparable"), (0, .class_ 356), (0, u "java/lang/CharSequence"), (0, u "serialVersionUID"), (0, u "J"), (40, u "toString"), (0, u "()Ljava/lang/String;")] 21

def k11c0 : Code := { maxStack := 2, maxLocals := 1, code := jdk_67_method_1_code, exceptionTable := #[], attributes := #[] }
def k11m0 : Method := { name := "<init>", desc := "()V", sig := { parameters := [], returnType := none }, accessFlags := 1, code := some k11c0 }
def k11c1 : Code := { maxStack := 2, maxLocals := 2, code := jdk_67_method_7_code, exceptionTable := #[], attributes := #[] }
def k11m1 : Method := { name := "append", desc := "(Ljava/lang/String;)Ljava/lang/StringBuilder;", sig := { parameters := [(.object "java/lang/String")], returnType := some (.object "java/lang/StringBuilder") }, accessFlags := 1, code := some k11c1 }
def k11c2 : Code := { maxStack := 3, maxLocals := 3, code := jdk_67_method_16_code, exceptionTable := #[], attributes := #[] }
def k11m2 : Method := { name := "append", desc := "(J)Ljava/lang/StringBuilder;", sig := { parameters := [.long], returnType := some (.object "java/lang/StringBuilder") }, accessFlags := 1, code := some k11c2 }
def k11c3 : Code := { maxStack := 3, maxLocals := 1, code := jdk_67_method_42_code, exceptionTable := #[], attributes := #[] }
def k11m3 : Method := { name := "toString", desc := "()Ljava/lang/String;", sig := { parameters := [], returnType := some (.object "java/lang/String") }, accessFlags := 1, code := some k11c3 }
def k11c4 : Code := { maxStack := 1, maxLocals := 1, code := jdk_67_method_93_code, exceptionTable := #[], attributes := #[] }
def k11m4 : Method := { name := "length", desc := "()I", sig := { parameters := [], returnType := some .int }, accessFlags := 4161, code := some k11c4 }
/-- java/lang/StringBuilder -/
def k11 : Class := { plain "java/lang/StringBuilder" (some 10) with
  accessFlags := 49
  interfaces := #[9, 3, 4, 5]
  cf := some (fileOf pool11 24 #[] #[{ accessFlags := 1, nameIndex := 5, descriptorIndex := 145, attributes := #[] }, { accessFlags := 1, nameIndex := 27, descriptorIndex := 28, attributes := #[] }, { accessFlags := 1, nameIndex := 27, descriptorIndex := 281, attributes := #[] }, { accessFlags := 1, nameIndex := 399, descriptorIndex := 400, attributes := #[] }, { accessFlags := 4161, nameIndex := 345, descriptorIndex := 156, attributes := #[] }] 49 2 #[349, 351, 353, 355] #[{ accessFlags := 24, nameIndex := 357, descriptorIndex := 358, attributes := #[] }])
  fields := #[{ name := "serialVersionUID", type := .long, accessFlags := 24, slot := 0, constantValue := 0 }]
  methods := #[k11m0, k11m1, k11m2, k11m3, k11m4]
  instanceTypes := #[(.array .byte), .byte, .boolean, .int]
  staticTypes := #[.long]
  resolved := Array.replicate 422 none
  statics := none }

def pool12 : Array CpInfo := pool [(2, .class_ 4), (1, u "java/lang/Object"), (0, u "<init>"), (0, u "()V"), (1, .class_ 10), (1, u "java/lang/System"), (0, u "allowSecurityManager"), (0, u "I"), (16, u "cons"), (0, u "Ljava/io/Console;"), (77, .class_ 110), (1, u "java/lang/System$CallersHolder"), (43, u "initialErrStream"), (0, u "Ljava/io/PrintStream;"), (19, u "security"), (0, u "Ljava/lang/SecurityManager;"), (31, .class_ 209), (0, u "java/lang/System$1"), (7, u "props"), (0, u "Ljava/util/Properties;"), (2, u "lineSeparator"), (0, u "Ljava/lang/String;"), (96, .class_ 321), (1, u "java/lang/System$LoggerFinder"), (5, .class_ 328), (0, u "java/lang/System$Logger"), (67, u "err"), (2, u "out"), (91, u "notSupportedJnuEncoding"), (15, u "in"), (17, u "initialIn"), (0, u "Ljava/io/InputStream;"), (35, u "bootLayer"), (0, u "Ljava/lang/ModuleLayer;"), (99, .class_ 664), (0, u "java/lang/System$2"), (9, u "NEVER"), (2, u "MAYBE"), (49, u "arraycopy"), (0, u "(Ljava/lang/Object;ILjava/lang/Object;II)V"), (72, .class_ 802), (0, u "java/lang/System$Logger$Level")] 31

def k12m0 : Method := { name := "<init>", desc := "()V", sig := { parameters := [], returnType := none }, accessFlags := 2, code := none }
def k12m1 : Method := { name := "arraycopy", desc := "(Ljava/lang/Object;ILjava/lang/Object;II)V", sig := { parameters := [(.object "java/lang/Object"), .int, (.object "java/lang/Object"), .int, .int], returnType := none }, accessFlags := 265, code := none }
/-- java/lang/System -/
def k12 : Class := { plain "java/lang/System" (some 0) with
  accessFlags := 49
  interfaces := #[]
  cf := some (fileOf pool12 8 #[.nestMembers #[319, 327, 801, 108, 663, 208]] #[{ accessFlags := 2, nameIndex := 5, descriptorIndex := 6, attributes := #[] }, { accessFlags := 265, nameIndex := 727, descriptorIndex := 728, attributes := #[] }] 49 2 #[] #[{ accessFlags := 25, nameIndex := 507, descriptorIndex := 526, attributes := #[] }, { accessFlags := 25, nameIndex := 399, descriptorIndex := 155, attributes := #[] }, { accessFlags := 25, nameIndex := 396, descriptorIndex := 155, attributes := #[] }, { accessFlags := 10, nameIndex := 525, descriptorIndex := 526, attributes := #[] }, { accessFlags := 26, nameIndex := 674, descriptorIndex := 12, attributes := #[] }, { accessFlags := 26, nameIndex := 677, descriptorIndex := 12, attributes := #[] }, { accessFlags := 10, nameIndex := 11, descriptorIndex := 12, attributes := #[] }, { accessFlags := 74, nameIndex := 175, descriptorIndex := 176, attributes := #[] }, { accessFlags := 10, nameIndex := 491, descriptorIndex := 222, attributes := #[] }, { accessFlags := 74, nameIndex := 29, descriptorIndex := 30, attributes := #[] }, { accessFlags := 74, nameIndex := 154, descriptorIndex := 155, attributes := #[] }, { accessFlags := 10, nameIndex := 217, descriptorIndex := 218, attributes := #[] }, { accessFlags := 10, nameIndex := 221, descriptorIndex := 222, attributes := #[] }, { accessFlags := 8, nameIndex := 562, descriptorIndex := 563, attributes := #[] }])
  fields := #[{ name := "in", type := (.object "java/io/InputStream"), accessFlags := 25, slot := 0, constantValue := 0 }, { name := "out", type := (.object "java/io/PrintStream"), accessFlags := 25, slot := 1, constantValue := 0 }, { name := "err", type := (.object "java/io/PrintStream"), accessFlags := 25, slot := 2, constantValue := 0 }, { name := "initialIn", type := (.object "java/io/InputStream"), accessFlags := 10, slot := 3, constantValue := 0 }, { name := "NEVER", type := .int, accessFlags := 26, slot := 4, constantValue := 0 }, { name := "MAYBE", type := .int, accessFlags := 26, slot := 5, constantValue := 0 }, { name := "allowSecurityManager", type := .int, accessFlags := 10, slot := 6, constantValue := 0 }, { name := "security", type := (.object "java/lang/SecurityManager"), accessFlags := 74, slot := 7, constantValue := 0 }, { name := "notSupportedJnuEncoding", type := (.object "java/lang/String"), accessFlags := 10, slot := 8, constantValue := 0 }, { name := "cons", type := (.object "java/io/Console"), accessFlags := 74, slot := 9, constantValue := 0 }, { name := "initialErrStream", type := (.object "java/io/PrintStream"), accessFlags := 74, slot := 10, constantValue := 0 }, { name := "props", type := (.object "java/util/Properties"), accessFlags := 10, slot := 11, constantValue := 0 }, { name := "lineSeparator", type := (.object "java/lang/String"), accessFlags := 10, slot := 12, constantValue := 0 }, { name := "bootLayer", type := (.object "java/lang/ModuleLayer"), accessFlags := 8, slot := 13, constantValue := 0 }]
  methods := #[k12m0, k12m1]
  instanceTypes := #[]
  staticTypes := #[(.object "java/io/InputStream"), (.object "java/io/PrintStream"), (.object "java/io/PrintStream"), (.object "java/io/InputStream"), .int, .int, .int, (.object "java/lang/SecurityManager"), (.object "java/lang/String"), (.object "java/io/Console"), (.object "java/io/PrintStream"), (.object "java/util/Properties"), (.object "java/lang/String"), (.object "java/lang/ModuleLayer")]
  resolved := Array.replicate 834 none
  statics := none }

def pool13 : Array CpInfo := pool [(2, .class_ 4), (1, u "java/lang/Object"), (0, u "<init>"), (0, u "()V"), (1, .class_ 10), (1, u "java/lang/Number"), (2, .class_ 14), (0, u "java/io/Serializable"), (0, u "serialVersionUID"), (0, u "J")] 20

def k13m0 : Method := { name := "<init>", desc := "()V", sig := { parameters := [], returnType := none }, accessFlags := 1, code := none }
/-- java/lang/Number -/
def k13 : Class := { plain "java/lang/Number" (some 0) with
  accessFlags := 1057
  interfaces := #[3]
  cf := some (fileOf pool13 8 #[] #[{ accessFlags := 1, nameIndex := 5, descriptorIndex := 6, attributes := #[] }] 1057 2 #[13] #[{ accessFlags := 26, nameIndex := 15, descriptorIndex := 16, attributes := #[] }])
  fields := #[{ name := "serialVersionUID", type := .long, accessFlags := 26, slot := 0, constantValue := 0 }]
  methods := #[k13m0]
  instanceTypes := #[]
  staticTypes := #[.long]
  resolved := Array.replicate 37 none
  statics := none }

def pool14 : Array CpInfo := pool [(1, .class_ 2), (0, u "java/lang/Long"), (15, .class_ 20), (1, u "java/lang/Integer"), (32, .long 10), (47, u "(J)I"), (18, u "stringSize"), (2, u "getChars"), (0, u "(JI[B)I"), (4, .long 18446744071562067968), (3, .fieldref 18 134), (0, .nameAndType 135 136), (0, u "DigitOnes"), (0, u "[B"), (0, .fieldref 18 138), (0, .nameAndType 139 136), (0, u "DigitTens"), (0, .long 18446744073709551606), (94, .class_ 237), (1, u "java/lang/Long$LongCache"), (33, .class_ 272), (0, u "java/lang/Number"), (2, u "value"), (0, u "J"), (84, u "TYPE"), (0, u "Ljava/lang/Class;"), (0, .class_ 364), (0, u "java/lang/Comparable"), (0, .class_ 366), (0, u "java/lang/constant/Constable"), (0, .class_ 368), (0, u "java/lang/constant/ConstantDesc"), (0, u "MIN_VALUE"), (1, u "MAX_VALUE"), (4, u "SIZE"), (0, u "I"), (1, u "BYTES"), (1, u "serialVersionUID")] 142

def k14c0 : Code := { maxStack := 4, maxLocals := 11, code := jdk_35_method_14_code, exceptionTable := #[], attributes := #[] }
def k14m0 : Method := { name := "getChars", desc := "(JI[B)I", sig := { parameters := [.long, .int, (.array .byte)], returnType := some .int }, accessFlags := 8, code := some k14c0 }
def k14c1 : Code := { maxStack := 4, maxLocals := 6, code := jdk_35_method_15_code, exceptionTable := #[], attributes := #[] }
def k14m1 : Method := { name := "stringSize", desc := "(J)I", sig := { parameters := [.long], returnType := some .int }, accessFlags := 8, code := some k14c1 }
/-- java/lang/Long -/
def k14 : Class := { plain "java/lang/Long" (some 13) with
  accessFlags := 49
  interfaces := #[4, 6, 7]
  cf := some (fileOf pool14 1 #[.nestMembers #[235]] #[{ accessFlags := 8, nameIndex := 123, descriptorIndex := 124, attributes := #[] }, { accessFlags := 8, nameIndex := 120, descriptorIndex := 101, attributes := #[] }] 49 271 #[363, 365, 367] #[{ accessFlags := 25, nameIndex := 369, descriptorIndex := 276, attributes := #[] }, { accessFlags := 25, nameIndex := 371, descriptorIndex := 276, attributes := #[] }, { accessFlags := 25, nameIndex := 361, descriptorIndex := 362, attributes := #[] }, { accessFlags := 18, nameIndex := 275, descriptorIndex := 276, attributes := #[] }, { accessFlags := 25, nameIndex := 376, descriptorIndex := 377, attributes := #[] }, { accessFlags := 25, nameIndex := 379, descriptorIndex := 377, attributes := #[] }, { accessFlags := 26, nameIndex := 381, descriptorIndex := 276, attributes := #[] }])
  fields := #[{ name := "MIN_VALUE", type := .long, accessFlags := 25, slot := 0, constantValue := 0 }, { name := "MAX_VALUE", type := .long, accessFlags := 25, slot := 1, constantValue := 0 }, { name := "TYPE", type := (.object "java/lang/Class"), accessFlags := 25, slot := 2, constantValue := 0 }, { name := "value", type := .long, accessFlags := 18, slot := 0, constantValue := 0 }, { name := "SIZE", type := .int, accessFlags := 25, slot := 3, constantValue := 0 }, { name := "BYTES", type := .int, accessFlags := 25, slot := 4, constantValue := 0 }, { name := "serialVersionUID", type := .long, accessFlags := 26, slot := 5, constantValue := 0 }]
  methods := #[k14m0, k14m1]
  instanceTypes := #[.long]
  staticTypes := #[.long, .long, (.object "java/lang/Class"), .int, .int, .long]
  resolved := Array.replicate 524 none
  statics := none }

def pool15 : Array CpInfo := pool [(1, .class_ 2), (0, u "java/lang/Integer"), (16, u "digits"), (0, u "[C"), (64, u "DigitOnes"), (0, u "[B"), (2, u "DigitTens"), (99, .class_ 190), (0, u "java/lang/Integer$IntegerCache"), (3, u "I"), (8, .class_ 204), (0, u "java/lang/Number"), (2, u "value"), (94, u "TYPE"), (0, u "Ljava/lang/Class;"), (0, .class_ 305), (0, u "java/lang/Comparable"), (0, .class_ 307), (0, u "java/lang/constant/Constable"), (0, .class_ 309), (0, u "java/lang/constant/ConstantDesc"), (0, u "MIN_VALUE"), (1, u "MAX_VALUE"), (3, u "SIZE"), (1, u "BYTES"), (1, u "serialVersionUID"), (0, u "J")] 131

/-- java/lang/Integer -/
def k15 : Class := { plain "java/lang/Integer" (some 13) with
  accessFlags := 49
  interfaces := #[4, 6, 7]
  cf := some (fileOf pool15 1 #[.nestMembers #[189]] #[] 49 203 #[304, 306, 308] #[{ accessFlags := 25, nameIndex := 310, descriptorIndex := 194, attributes := #[] }, { accessFlags := 25, nameIndex := 312, descriptorIndex := 194, attributes := #[] }, { accessFlags := 25, nameIndex := 302, descriptorIndex := 303, attributes := #[] }, { accessFlags := 24, nameIndex := 19, descriptorIndex := 20, attributes := #[] }, { accessFlags := 24, nameIndex := 89, descriptorIndex := 86, attributes := #[] }, { accessFlags := 24, nameIndex := 85, descriptorIndex := 86, attributes := #[] }, { accessFlags := 18, nameIndex := 207, descriptorIndex := 194, attributes := #[] }, { accessFlags := 25, nameIndex := 316, descriptorIndex := 194, attributes := #[] }, { accessFlags := 25, nameIndex := 318, descriptorIndex := 194, attributes := #[] }, { accessFlags := 26, nameIndex := 320, descriptorIndex := 321, attributes := #[] }])
  fields := #[{ name := "MIN_VALUE", type := .int, accessFlags := 25, slot := 0, constantValue := 0 }, { name := "MAX_VALUE", type := .int, accessFlags := 25, slot := 1, constantValue := 0 }, { name := "TYPE", type := (.object "java/lang/Class"), accessFlags := 25, slot := 2, constantValue := 0 }, { name := "digits", type := (.array .char), accessFlags := 24, slot := 3, constantValue := 0 }, { name := "DigitTens", type := (.array .byte), accessFlags := 24, slot := 4, constantValue := 0 }, { name := "DigitOnes", type := (.array .byte), accessFlags := 24, slot := 5, constantValue := 0 }, { name := "value", type := .int, accessFlags := 18, slot := 0, constantValue := 0 }, { name := "SIZE", type := .int, accessFlags := 25, slot := 6, constantValue := 0 }, { name := "BYTES", type := .int, accessFlags := 25, slot := 7, constantValue := 0 }, { name := "serialVersionUID", type := .long, accessFlags := 26, slot := 8, constantValue := 0 }]
  methods := #[]
  instanceTypes := #[.int]
  staticTypes := #[.int, .int, (.object "java/lang/Class"), (.array .char), (.array .byte), (.array .byte), .int, .int, .long]
  resolved := Array.replicate 453 none
  statics := some 1 }

def pool16 : Array CpInfo := pool [(2, .class_ 4), (1, u "java/lang/Object"), (0, u "<init>"), (0, u "()V"), (7, .class_ 16), (1, u "java/util/Arrays"), (57, .class_ 76), (1, u "java/util/Arrays$NaturalOrder"), (36, .class_ 115), (1, u "java/util/Arrays$LegacyMergeSort"), (1, u "Z"), (21, u "copyOfRange"), (10, .methodref 151 152), (0, .class_ 153), (0, .nameAndType 154 155), (0, u "java/lang/System"), (0, u "arraycopy"), (0, u "(Ljava/lang/Object;ILjava/lang/Object;II)V"), (148, .methodref 305 306), (0, .class_ 307), (0, .nameAndType 308 309), (0, u "java/lang/Math"), (0, u "min"), (0, u "(II)I"), (29, .methodref 14 340), (0, .nameAndType 341 342), (0, u "copyOfRangeByte"), (0, u "([BII)[B"), (0, .methodref 14 344), (0, .nameAndType 345 346), (0, u "checkLength"), (0, u "(II)V"), (28, .class_ 376), (0, u "java/util/Arrays$ArrayList"), (68, u "$assertionsDisabled"), (269, u "MIN_ARRAY_SORT_GRAN"), (0, u "I"), (2, u "INSERTIONSORT_THRESHOLD"), (255, .class_ 976), (0, u "java/util/Arrays$ArrayItr")] 52

def k16m0 : Method := { name := "<init>", desc := "()V", sig := { parameters := [], returnType := none }, accessFlags := 2, code := none }
def k16c1 : Code := { maxStack := 4, maxLocals := 2, code := jdk_65_method_131_code, exceptionTable := #[], attributes := #[] }
def k16m1 : Method := { name := "checkLength", desc := "(II)V", sig := { parameters := [.int, .int], returnType := none }, accessFlags := 10, code := some k16c1 }
def k16c2 : Code := { maxStack := 3, maxLocals := 3, code := jdk_65_method_132_code, exceptionTable := #[], attributes := #[] }
def k16m2 : Method := { name := "copyOfRange", desc := "([BII)[B", sig := { parameters := [(.array .byte), .int, .int], returnType := some (.array .byte) }, accessFlags := 9, code := some k16c2 }
def k16c3 : Code := { maxStack := 6, maxLocals := 5, code := jdk_65_method_133_code, exceptionTable := #[], attributes := #[] }
def k16m3 : Method := { name := "copyOfRangeByte", desc := "([BII)[B", sig := { parameters := [(.array .byte), .int, .int], returnType := some (.array .byte) }, accessFlags := 10, code := some k16c3 }
/-- java/util/Arrays -/
def k16 : Class := { plain "java/util/Arrays" (some 0) with
  accessFlags := 49
  interfaces := #[]
  cf := some (fileOf pool16 14 #[.nestMembers #[975, 375, 113, 74]] #[{ accessFlags := 2, nameIndex := 5, descriptorIndex := 6, attributes := #[] }, { accessFlags := 10, nameIndex := 345, descriptorIndex := 346, attributes := #[] }, { accessFlags := 9, nameIndex := 139, descriptorIndex := 342, attributes := #[] }, { accessFlags := 10, nameIndex := 341, descriptorIndex := 342, attributes := #[] }] 49 2 #[] #[{ accessFlags := 26, nameIndex := 715, descriptorIndex := 716, attributes := #[] }, { accessFlags := 26, nameIndex := 719, descriptorIndex := 716, attributes := #[] }, { accessFlags := 4120, nameIndex := 445, descriptorIndex := 117, attributes := #[] }])
  fields := #[{ name := "MIN_ARRAY_SORT_GRAN", type := .int, accessFlags := 26, slot := 0, constantValue := 0 }, { name := "INSERTIONSORT_THRESHOLD", type := .int, accessFlags := 26, slot := 1, constantValue := 0 }, { name := "$assertionsDisabled", type := .boolean, accessFlags := 4120, slot := 2, constantValue := 0 }]
  methods := #[k16m0, k16m1, k16m2, k16m3]
  instanceTypes := #[]
  staticTypes := #[.int, .int, .boolean]
  resolved := Array.replicate 1029 none
  statics := none }

def pool17 : Array CpInfo := pool [(1, .class_ 2), (0, u "java/lang/Math"), (1, .class_ 6), (1, u "java/lang/Object"), (0, u "<init>"), (0, u "()V"), (89, .class_ 100), (1, u "java/lang/Math$RandomNumberGeneratorHolder"), (71, u "negativeZeroFloatBits"), (0, u "J"), (2, u "negativeZeroDoubleBits"), (24, u "min"), (43, u "$assertionsDisabled"), (0, u "Z"), (88, u "(II)I"), (2, u "twoToTheDoubleScaleDown"), (0, u "D"), (4, u "twoToTheDoubleScaleUp"), (9, u "E"), (3, u "PI"), (2, u "TAU"), (2, u "DEGREES_TO_RADIANS"), (0, u "RADIANS_TO_DEGREES")] 94

def k17m0 : Method := { name := "<init>", desc := "()V", sig := { parameters := [], returnType := none }, accessFlags := 2, code := none }
def k17c1 : Code := { maxStack := 2, maxLocals := 2, code := jdk_29_method_69_code, exceptionTable := #[], attributes := #[] }
def k17m1 : Method := { name := "min", desc := "(II)I", sig := { parameters := [.int, .int], returnType := some .int }, accessFlags := 9, code := some k17c1 }
/-- java/lang/Math -/
def k17 : Class := { plain "java/lang/Math" (some 0) with
  accessFlags := 49
  interfaces := #[]
  cf := some (fileOf pool17 1 #[.nestMembers #[98]] #[{ accessFlags := 2, nameIndex := 7, descriptorIndex := 8, attributes := #[] }, { accessFlags := 9, nameIndex := 201, descriptorIndex := 335, attributes := #[] }] 49 4 #[] #[{ accessFlags := 25, nameIndex := 354, descriptorIndex := 339, attributes := #[] }, { accessFlags := 25, nameIndex := 358, descriptorIndex := 339, attributes := #[] }, { accessFlags := 25, nameIndex := 361, descriptorIndex := 339, attributes := #[] }, { accessFlags := 26, nameIndex := 364, descriptorIndex := 339, attributes := #[] }, { accessFlags := 26, nameIndex := 365, descriptorIndex := 339, attributes := #[] }, { accessFlags := 26, nameIndex := 172, descriptorIndex := 173, attributes := #[] }, { accessFlags := 26, nameIndex := 176, descriptorIndex := 173, attributes := #[] }, { accessFlags := 8, nameIndex := 344, descriptorIndex := 339, attributes := #[] }, { accessFlags := 8, nameIndex := 338, descriptorIndex := 339, attributes := #[] }, { accessFlags := 4120, nameIndex := 245, descriptorIndex := 246, attributes := #[] }])
  fields := #[{ name := "E", type := .double, accessFlags := 25, slot := 0, constantValue := 0 }, { name := "PI", type := .double, accessFlags := 25, slot := 1, constantValue := 0 }, { name := "TAU", type := .double, accessFlags := 25, slot := 2, constantValue := 0 }, { name := "DEGREES_TO_RADIANS", type := .double, accessFlags := 26, slot := 3, constantValue := 0 }, { name := "RADIANS_TO_DEGREES", type := .double, accessFlags := 26, slot := 4, constantValue := 0 }, { name := "negativeZeroFloatBits", type := .long, accessFlags := 26, slot := 5, constantValue := 0 }, { name := "negativeZeroDoubleBits", type := .long, accessFlags := 26, slot := 6, constantValue := 0 }, { name := "twoToTheDoubleScaleUp", type := .double, accessFlags := 8, slot := 7, constantValue := 0 }, { name := "twoToTheDoubleScaleDown", type := .double, accessFlags := 8, slot := 8, constantValue := 0 }, { name := "$assertionsDisabled", type := .boolean, accessFlags := 4120, slot := 9, constantValue := 0 }]
  methods := #[k17m0, k17m1]
  instanceTypes := #[]
  staticTypes := #[.double, .double, .double, .double, .double, .long, .long, .double, .double, .boolean]
  resolved := Array.replicate 460 none
  statics := none }

def pool18 : Array CpInfo := pool [(1, .class_ 2), (0, u "java/lang/String"), (1, .class_ 6), (1, u "java/lang/Object"), (0, u "<init>"), (0, u "()V"), (0, .methodref 1 10), (0, .nameAndType 11 12), (0, u "checkIndex"), (0, u "(II)V"), (1, .class_ 16), (1, u "java/lang/StringLatin1"), (36, u "([BI)C"), (67, u "$assertionsDisabled"), (0, u "Z"), (98, .class_ 223), (1, u "java/lang/StringLatin1$LinesSpliterator"), (28, u "charAt"), (137, .class_ 391), (0, u "java/lang/StringLatin1$CharsSpliterator")] 3

def k18m0 : Method := { name := "<init>", desc := "()V", sig := { parameters := [], returnType := none }, accessFlags := 0, code := none }
def k18c1 : Code := { maxStack := 2, maxLocals := 2, code := jdk_43_method_2_code, exceptionTable := #[], attributes := #[] }
def k18m1 : Method := { name := "charAt", desc := "([BI)C", sig := { parameters := [(.array .byte), .int], returnType := some .char }, accessFlags := 9, code := some k18c1 }
/-- java/lang/StringLatin1 -/
def k18 : Class := { plain "java/lang/StringLatin1" (some 0) with
  accessFlags := 48
  interfaces := #[]
  cf := some (fileOf pool18 14 #[.nestMembers #[390, 221]] #[{ accessFlags := 0, nameIndex := 7, descriptorIndex := 8, attributes := #[] }, { accessFlags := 9, nameIndex := 252, descriptorIndex := 53, attributes := #[] }] 48 4 #[] #[{ accessFlags := 4120, nameIndex := 121, descriptorIndex := 122, attributes := #[] }])
  fields := #[{ name := "$assertionsDisabled", type := .boolean, accessFlags := 4120, slot := 0, constantValue := 0 }]
  methods := #[k18m0, k18m1]
  instanceTypes := #[]
  staticTypes := #[.boolean]
  resolved := Array.replicate 395 none
  statics := none }

def pool19 : Array CpInfo := pool [(2, .class_ 4), (1, u "java/lang/Object"), (0, u "<init>"), (0, u "()V"), (17, .class_ 26), (1, u "jdk/internal/util/Preconditions"), (6, u "checkIndex"), (21, .class_ 56), (0, u "jdk/internal/util/Preconditions$4"), (57, .class_ 115), (0, u "jdk/internal/util/Preconditions$1"), (7, u "SIOOBE_FORMATTER"), (0, u "Ljava/util/function/BiFunction;"), (0, .class_ 126), (0, u "jdk/internal/util/Preconditions$2"), (3, u "AIOOBE_FORMATTER"), (0, .class_ 132), (0, u "jdk/internal/util/Preconditions$3"), (3, u "IOOBE_FORMATTER"), (41, u "(IILjava/util/function/BiFunction;)I")] 15

def k19m0 : Method := { name := "<init>", desc := "()V", sig := { parameters := [], returnType := none }, accessFlags := 1, code := none }
def k19c1 : Code := { maxStack := 3, maxLocals := 3, code := jdk_41_method_11_code, exceptionTable := #[], attributes := #[] }
def k19m1 : Method := { name := "checkIndex", desc := "(IILjava/util/function/BiFunction;)I", sig := { parameters := [.int, .int, (.object "java/util/function/BiFunction")], returnType := some .int }, accessFlags := 9, code := some k19c1 }
/-- jdk/internal/util/Preconditions -/
def k19 : Class := { plain "jdk/internal/util/Preconditions" (some 0) with
  accessFlags := 33
  interfaces := #[]
  cf := some (fileOf pool19 24 #[.nestMembers #[55, 131, 125, 114]] #[{ accessFlags := 1, nameIndex := 5, descriptorIndex := 6, attributes := #[] }, { accessFlags := 9, nameIndex := 33, descriptorIndex := 178, attributes := #[] }] 33 2 #[] #[{ accessFlags := 25, nameIndex := 123, descriptorIndex := 124, attributes := #[] }, { accessFlags := 25, nameIndex := 130, descriptorIndex := 124, attributes := #[] }, { accessFlags := 25, nameIndex := 136, descriptorIndex := 124, attributes := #[] }])
  fields := #[{ name := "SIOOBE_FORMATTER", type := (.object "java/util/function/BiFunction"), accessFlags := 25, slot := 0, constantValue := 0 }, { name := "AIOOBE_FORMATTER", type := (.object "java/util/function/BiFunction"), accessFlags := 25, slot := 1, constantValue := 0 }, { name := "IOOBE_FORMATTER", type := (.object "java/util/function/BiFunction"), accessFlags := 25, slot := 2, constantValue := 0 }]
  methods := #[k19m0, k19m1]
  instanceTypes := #[]
  staticTypes := #[(.object "java/util/function/BiFunction"), (.object "java/util/function/BiFunction"), (.object "java/util/function/BiFunction")]
  resolved := Array.replicate 194 none
  statics := some 2 }

def pool20 : Array CpInfo := pool [(9, u "<init>"), (6, .class_ 18), (1, u "java/lang/Object"), (0, u "()V"), (1, .class_ 23), (1, u "jdk/internal/util/ArraysSupport"), (0, u "LOG2_ARRAY_LONG_INDEX_SCALE"), (0, u "I"), (2, u "U"), (0, u "Ljdk/internal/misc/Unsafe;"), (8, u "BIG_ENDIAN"), (0, u "Z"), (8, u "LOG2_BYTE_BIT_SIZE"), (4, u "LOG2_ARRAY_INT_INDEX_SCALE"), (54, u "JLA"), (0, u "Ljdk/internal/access/JavaLangAccess;"), (11, u "LOG2_ARRAY_BOOLEAN_INDEX_SCALE"), (9, u "LOG2_ARRAY_BYTE_INDEX_SCALE"), (5, u "LOG2_ARRAY_CHAR_INDEX_SCALE"), (5, u "LOG2_ARRAY_SHORT_INDEX_SCALE"), (18, u "LOG2_ARRAY_FLOAT_INDEX_SCALE"), (24, u "LOG2_ARRAY_DOUBLE_INDEX_SCALE"), (89, u "T_BOOLEAN"), (2, u "T_CHAR"), (1, u "T_FLOAT"), (1, u "T_DOUBLE"), (1, u "T_BYTE"), (1, u "T_SHORT"), (1, u "T_INT"), (1, u "T_LONG"), (1, u "SOFT_MAX_ARRAY_LENGTH")] 83

def k20m0 : Method := { name := "<init>", desc := "()V", sig := { parameters := [], returnType := none }, accessFlags := 2, code := none }
/-- jdk/internal/util/ArraysSupport -/
def k20 : Class := { plain "jdk/internal/util/ArraysSupport" (some 0) with
  accessFlags := 33
  interfaces := #[]
  cf := some (fileOf pool20 21 #[] #[{ accessFlags := 2, nameIndex := 9, descriptorIndex := 19, attributes := #[] }] 33 16 #[] #[{ accessFlags := 24, nameIndex := 28, descriptorIndex := 29, attributes := #[] }, { accessFlags := 26, nameIndex := 38, descriptorIndex := 39, attributes := #[] }, { accessFlags := 25, nameIndex := 121, descriptorIndex := 25, attributes := #[] }, { accessFlags := 25, nameIndex := 131, descriptorIndex := 25, attributes := #[] }, { accessFlags := 25, nameIndex := 137, descriptorIndex := 25, attributes := #[] }, { accessFlags := 25, nameIndex := 143, descriptorIndex := 25, attributes := #[] }, { accessFlags := 25, nameIndex := 53, descriptorIndex := 25, attributes := #[] }, { accessFlags := 25, nameIndex := 24, descriptorIndex := 25, attributes := #[] }, { accessFlags := 25, nameIndex := 162, descriptorIndex := 25, attributes := #[] }, { accessFlags := 25, nameIndex := 187, descriptorIndex := 25, attributes := #[] }, { accessFlags := 26, nameIndex := 48, descriptorIndex := 25, attributes := #[] }, { accessFlags := 25, nameIndex := 277, descriptorIndex := 25, attributes := #[] }, { accessFlags := 25, nameIndex := 280, descriptorIndex := 25, attributes := #[] }, { accessFlags := 25, nameIndex := 282, descriptorIndex := 25, attributes := #[] }, { accessFlags := 25, nameIndex := 284, descriptorIndex := 25, attributes := #[] }, { accessFlags := 25, nameIndex := 286, descriptorIndex := 25, attributes := #[] }, { accessFlags := 25, nameIndex := 288, descriptorIndex := 25, attributes := #[] }, { accessFlags := 25, nameIndex := 290, descriptorIndex := 25, attributes := #[] }, { accessFlags := 25, nameIndex := 292, descriptorIndex := 25, attributes := #[] }, { accessFlags := 26, nameIndex := 108, descriptorIndex := 109, attributes := #[] }, { accessFlags := 25, nameIndex := 294, descriptorIndex := 25, attributes := #[] }])
  fields := #[{ name := "U", type := (.object "jdk/internal/misc/Unsafe"), accessFlags := 24, slot := 0, constantValue := 0 }, { name := "BIG_ENDIAN", type := .boolean, accessFlags := 26, slot := 1, constantValue := 0 }, { name := "LOG2_ARRAY_BOOLEAN_INDEX_SCALE", type := .int, accessFlags := 25, slot := 2, constantValue := 0 }, { name := "LOG2_ARRAY_BYTE_INDEX_SCALE", type := .int, accessFlags := 25, slot := 3, constantValue := 0 }, { name := "LOG2_ARRAY_CHAR_INDEX_SCALE", type := .int, accessFlags := 25, slot := 4, constantValue := 0 }, { name := "LOG2_ARRAY_SHORT_INDEX_SCALE", type := .int, accessFlags := 25, slot := 5, constantValue := 0 }, { name := "LOG2_ARRAY_INT_INDEX_SCALE", type := .int, accessFlags := 25, slot := 6, constantValue := 0 }, { name := "LOG2_ARRAY_LONG_INDEX_SCALE", type := .int, accessFlags := 25, slot := 7, constantValue := 0 }, { name := "LOG2_ARRAY_FLOAT_INDEX_SCALE", type := .int, accessFlags := 25, slot := 8, constantValue := 0 }, { name := "LOG2_ARRAY_DOUBLE_INDEX_SCALE", type := .int, accessFlags := 25, slot := 9, constantValue := 0 }, { name := "LOG2_BYTE_BIT_SIZE", type := .int, accessFlags := 26, slot := 10, constantValue := 0 }, { name := "T_BOOLEAN", type := .int, accessFlags := 25, slot := 11, constantValue := 0 }, { name := "T_CHAR", type := .int, accessFlags := 25, slot := 12, constantValue := 0 }, { name := "T_FLOAT", type := .int, accessFlags := 25, slot := 13, constantValue := 0 }, { name := "T_DOUBLE", type := .int, accessFlags := 25, slot := 14, constantValue := 0 }, { name := "T_BYTE", type := .int, accessFlags := 25, slot := 15, constantValue := 0 }, { name := "T_SHORT", type := .int, accessFlags := 25, slot := 16, constantValue := 0 }, { name := "T_INT", type := .int, accessFlags := 25, slot := 17, constantValue := 0 }, { name := "T_LONG", type := .int, accessFlags := 25, slot := 18, constantValue := 0 }, { name := "JLA", type := (.object "jdk/internal/access/JavaLangAccess"), accessFlags := 26, slot := 19, constantValue := 0 }, { name := "SOFT_MAX_ARRAY_LENGTH", type := .int, accessFlags := 25, slot := 20, constantValue := 0 }]
  methods := #[k20m0]
  instanceTypes := #[]
  staticTypes := #[(.object "jdk/internal/misc/Unsafe"), .boolean, .int, .int, .int, .int, .int, .int, .int, .int, .int, .int, .int, .int, .int, .int, .int, .int, .int, (.object "jdk/internal/access/JavaLangAccess"), .int]
  resolved := Array.replicate 378 none
  statics := none }

def pool21 : Array CpInfo := pool [(1, u "java/lang/Cloneable"), (0, .class_ 1), (0, u "java/lang/Object"), (0, .class_ 3)] 3

/-- java/lang/Cloneable -/
def k21 : Class := { plain "java/lang/Cloneable" (some 0) with
  accessFlags := 1537
  interfaces := #[]
  cf := some (fileOf pool21 2 #[] #[] 1537 4 #[] #[])
  fields := #[]
  methods := #[]
  instanceTypes := #[]
  staticTypes := #[]
  resolved := Array.replicate 8 none
  statics := none }

/-- the primitive byte -/
def k22 : Class := { plain "byte" none with kind := .primitive 'B', accessFlags := 0x411 }
/-- [B -/
def k23 : Class := { plain "[B" (some 0) with kind := .array 22 .byte, interfaces := #[21, 3], accessFlags := 1041 }

/-- the primitive int -/
def k24 : Class := { plain "int" none with kind := .primitive 'I', accessFlags := 0x411 }
/-- [I -/
def k25 : Class := { plain "[I" (some 0) with kind := .array 24 .int, interfaces := #[21, 3], accessFlags := 1041 }

def heap : Heap := #[{ cls := 8, slots := #[.long 0, .int 1, .null, .int 0, .null, .int 0, .int 0], vm := .statics 8 },
  { cls := 15, slots := #[.int 0, .int 0, .null, .null, .ref 4, .ref 3, .int 0, .int 0, .long 0], vm := .statics 15 },
  { cls := 19, slots := #[.null, .null, .null], vm := .statics 19 },
  { cls := 23, slots := #[.int 48, .int 49, .int 50, .int 51, .int 52, .int 53, .int 54, .int 55, .int 56, .int 57, .int 48, .int 49, .int 50, .int 51, .int 52, .int 53, .int 54, .int 55, .int 56, .int 57, .int 48, .int 49, .int 50, .int 51, .int 52, .int 53, .int 54, .int 55, .int 56, .int 57, .int 48, .int 49, .int 50, .int 51, .int 52, .int 53, .int 54, .int 55, .int 56, .int 57, .int 48, .int 49, .int 50, .int 51, .int 52, .int 53, .int 54, .int 55, .int 56, .int 57, .int 48, .int 49, .int 50, .int 51, .int 52, .int 53, .int 54, .int 55, .int 56, .int 57, .int 48, .int 49, .int 50, .int 51, .int 52, .int 53, .int 54, .int 55, .int 56, .int 57, .int 48, .int 49, .int 50, .int 51, .int 52, .int 53, .int 54, .int 55, .int 56, .int 57, .int 48, .int 49, .int 50, .int 51, .int 52, .int 53, .int 54, .int 55, .int 56, .int 57, .int 48, .int 49, .int 50, .int 51, .int 52, .int 53, .int 54, .int 55, .int 56, .int 57], vm := .none },
  { cls := 23, slots := #[.int 48, .int 48, .int 48, .int 48, .int 48, .int 48, .int 48, .int 48, .int 48, .int 48, .int 49, .int 49, .int 49, .int 49, .int 49, .int 49, .int 49, .int 49, .int 49, .int 49, .int 50, .int 50, .int 50, .int 50, .int 50, .int 50, .int 50, .int 50, .int 50, .int 50, .int 51, .int 51, .int 51, .int 51, .int 51, .int 51, .int 51, .int 51, .int 51, .int 51, .int 52, .int 52, .int 52, .int 52, .int 52, .int 52, .int 52, .int 52, .int 52, .int 52, .int 53, .int 53, .int 53, .int 53, .int 53, .int 53, .int 53, .int 53, .int 53, .int 53, .int 54, .int 54, .int 54, .int 54, .int 54, .int 54, .int 54, .int 54, .int 54, .int 54, .int 55, .int 55, .int 55, .int 55, .int 55, .int 55, .int 55, .int 55, .int 55, .int 55, .int 56, .int 56, .int 56, .int 56, .int 56, .int 56, .int 56, .int 56, .int 56, .int 56, .int 57, .int 57, .int 57, .int 57, .int 57, .int 57, .int 57, .int 57, .int 57, .int 57], vm := .none }]
def classes : Array Class := #[k0, k1, k2, k3, k4, k5, k6, k7, k8, k9, k10, k11, k12, k13, k14, k15, k16, k17, k18, k19, k20, k21, k22, k23, k24, k25]
def interned : List (Array UInt16 × Addr) := []
def slotsUsed : Nat := 219
def theMethod : MethodId := ⟨1, 1⟩
def args0 : Array Value := #[.long 5, .long 7, .int 1]
def aboutOver (below : List Frame) : State where
  vm := { classes := classes, interned := interned.toArray }
  heap := heap
  slotsUsed := slotsUsed
  threads := #[{ frames := .invoking theMethod args0 :: below }]
def below0 : List Frame := [.native { method := ⟨0, 0⟩, args := #[] }]
def about1 : State := aboutOver below0
def p0 : Program := .bare "" "" ""
def e0 : Env := launch0.env 0 0 0
theorem w_frames : about1.frames = Frame.invoking theMethod args0 :: below0 := rfl
set_option maxRecDepth 65536 in
theorem w_args : argsFit about1.vm theMethod args0 = true := by decide +kernel
set_option maxRecDepth 65536 in
theorem w_heap : heapFits about1 = true := by decide +kernel
set_option maxRecDepth 65536 in
theorem w_runnable : about1.curStatus? = some .runnable := by decide +kernel
set_option maxRecDepth 65536 in
theorem w_alone : about1.alone = true := by decide +kernel
set_option maxRecDepth 65536 in
theorem w_named : about1.methodNamed? x = some theMethod := by decide +kernel
set_option maxRecDepth 65536 in
theorem w_hears : about1.hears theMethod below0 = true := by decide +kernel
set_option maxRecDepth 65536 in
theorem w_ripe : about1.ripe theMethod args0 below0 = true := by decide +kernel
theorem w_running : about1.status = .running := rfl
set_option maxRecDepth 65536 in
theorem w_room : about1.hasRoom e0.platform room_1 = true :=
  launch0.hasRoom_least _ room_1 (by decide +kernel) (by decide +kernel) (by decide +kernel) (by decide +kernel) (by decide +kernel) (by decide +kernel)
theorem allAtoms_all (ts : List Jvm.Cond) (a : Array Jvm.Value) (st : Jvm.State) : (allAtoms ts).before a st = ts.all (fun c => c.before a st) := by
  induction ts with
  | nil => rfl
  | cons c t ih =>
    show (Jvm.Cond.and c (allAtoms t)).before a st = _
    rw [Jvm.Cond.before_and, ih, List.all_cons]
def words1 : List Jvm.Cond := Jvm.Cond.code x code maxLocals ret :: tables_1
/-- a 'code' word, met by the world's own term for the bytes: nothing is compared byte by byte -/
theorem code_word {y : MethodName} {bytes : ByteArray} {mx : Nat} {rt : Option FieldType} {a : Array Value} {s : State} {m : MethodId} {meth : Method} {c : Code} (h1 : s.methodNamed? y = some m) (h2 : s.vm.method? m = some meth) (h3 : meth.code = some c) (h4 : c.code = bytes)
    (h5 : (c.maxLocals == mx && c.exceptionTable.isEmpty && decide (c.maxStack ≤ mostOperands) && decide (meth.sig.returnType = rt) && !meth.locks && decide (parseMethodDescriptor y.desc = some meth.sig)) = true) : (Jvm.Cond.code y bytes mx rt).before a s = true := by
  simp only [Bool.and_eq_true, beq_iff_eq, Bool.not_eq_true', decide_eq_true_eq] at h5
  obtain ⟨⟨⟨⟨⟨g1, g2⟩, g3⟩, g4⟩, g5⟩, g6⟩ := h5
  simp [Cond.before, Cond.holds, Cond.value, h1, h2, h3, h4, g1, g2, g3, g4, g5, g6]
def isCode : Jvm.Cond → Bool
  | .code _ _ _ _ => true
  | _ => false
theorem all_split {L : List Jvm.Cond} {P : Jvm.Cond → Bool} (h1 : L.all (fun c => isCode c || P c) = true) (h2 : ∀ c ∈ L.filter isCode, P c = true) : L.all P = true := by
  refine List.all_eq_true.mpr fun c hc => ?_
  have h := List.all_eq_true.mp h1 c hc
  rcases Bool.eq_false_or_eq_true (isCode c) with hi | hi
  · exact h2 c (List.mem_filter.mpr ⟨hc, hi⟩)
  · simpa [hi] using h
set_option maxRecDepth 65536 in
theorem w_c0 : (Jvm.Cond.code x code maxLocals ret).before args0 about1 = true := code_word (m := ⟨1, 1⟩) (meth := k1m1) (c := k1c1) (by decide +kernel) rfl rfl rfl (by decide +kernel)
set_option maxRecDepth 65536 in
theorem w_c1 : (Jvm.Cond.code ({ cls := "com/example/inferred_grant/inferredgrant/benchmark/Setting", name := "<init>", desc := "(Ljava/lang/String;JJJJJI)V" } : Jvm.MethodName) prog_6_method_1_code (13 : Nat) (Option.none : Option Jvm.ClassFile.FieldType)).before args0 about1 = true := code_word (m := ⟨2, 0⟩) (meth := k2m0) (c := k2c0) (by decide +kernel) rfl rfl rfl (by decide +kernel)
set_option maxRecDepth 65536 in
theorem w_c2 : (Jvm.Cond.code ({ cls := "java/lang/Object", name := "<init>", desc := "()V" } : Jvm.MethodName) object_method_1_code (1 : Nat) (Option.none : Option Jvm.ClassFile.FieldType)).before args0 about1 = true := code_word (m := ⟨0, 0⟩) (meth := k0m0) (c := k0c0) (by decide +kernel) rfl rfl rfl (by decide +kernel)
set_option maxRecDepth 65536 in
theorem w_c3 : (Jvm.Cond.code ({ cls := "com/example/inferred_grant/inferredgrant/benchmark/Setting", name := "requestUser", desc := "(J)Ljava/lang/String;" } : Jvm.MethodName) prog_6_method_5_code (3 : Nat) (Option.some (Jvm.ClassFile.FieldType.object "java/lang/String"))).before args0 about1 = true := code_word (m := ⟨2, 1⟩) (meth := k2m1) (c := k2c1) (by decide +kernel) rfl rfl rfl (by decide +kernel)
set_option maxRecDepth 65536 in
theorem w_c4 : (Jvm.Cond.code ({ cls := "com/example/inferred_grant/inferredgrant/benchmark/Setting", name := "user", desc := "(J)Ljava/lang/String;" } : Jvm.MethodName) prog_6_method_10_code (2 : Nat) (Option.some (Jvm.ClassFile.FieldType.object "java/lang/String"))).before args0 about1 = true := code_word (m := ⟨2, 2⟩) (meth := k2m2) (c := k2c2) (by decide +kernel) rfl rfl rfl (by decide +kernel)
set_option maxRecDepth 65536 in
theorem w_c5 : (Jvm.Cond.code ({ cls := "java/lang/StringBuilder", name := "<init>", desc := "()V" } : Jvm.MethodName) jdk_67_method_1_code (1 : Nat) (Option.none : Option Jvm.ClassFile.FieldType)).before args0 about1 = true := code_word (m := ⟨11, 0⟩) (meth := k11m0) (c := k11c0) (by decide +kernel) rfl rfl rfl (by decide +kernel)
set_option maxRecDepth 65536 in
theorem w_c6 : (Jvm.Cond.code ({ cls := "java/lang/AbstractStringBuilder", name := "<init>", desc := "(I)V" } : Jvm.MethodName) jdk_68_method_2_code (2 : Nat) (Option.none : Option Jvm.ClassFile.FieldType)).before args0 about1 = true := code_word (m := ⟨10, 1⟩) (meth := k10m1) (c := k10c1) (by decide +kernel) rfl rfl rfl (by decide +kernel)
set_option maxRecDepth 65536 in
theorem w_c7 : (Jvm.Cond.code ({ cls := "java/lang/StringBuilder", name := "append", desc := "(Ljava/lang/String;)Ljava/lang/StringBuilder;" } : Jvm.MethodName) jdk_67_method_7_code (2 : Nat) (Option.some (Jvm.ClassFile.FieldType.object "java/lang/StringBuilder"))).before args0 about1 = true := code_word (m := ⟨11, 1⟩) (meth := k11m1) (c := k11c1) (by decide +kernel) rfl rfl rfl (by decide +kernel)
set_option maxRecDepth 65536 in
theorem w_c8 : (Jvm.Cond.code ({ cls := "java/lang/AbstractStringBuilder", name := "append", desc := "(Ljava/lang/String;)Ljava/lang/AbstractStringBuilder;" } : Jvm.MethodName) jdk_68_method_22_code (3 : Nat) (Option.some (Jvm.ClassFile.FieldType.object "java/lang/AbstractStringBuilder"))).before args0 about1 = true := code_word (m := ⟨10, 4⟩) (meth := k10m4) (c := k10c4) (by decide +kernel) rfl rfl rfl (by decide +kernel)
set_option maxRecDepth 65536 in
theorem w_c9 : (Jvm.Cond.code ({ cls := "java/lang/String", name := "length", desc := "()I" } : Jvm.MethodName) jdk_42_method_54_code (1 : Nat) (Option.some Jvm.ClassFile.FieldType.int)).before args0 about1 = true := code_word (m := ⟨8, 2⟩) (meth := k8m2) (c := k8c2) (by decide +kernel) rfl rfl rfl (by decide +kernel)
set_option maxRecDepth 65536 in
theorem w_c10 : (Jvm.Cond.code ({ cls := "java/lang/String", name := "coder", desc := "()B" } : Jvm.MethodName) jdk_42_method_152_code (1 : Nat) (Option.some Jvm.ClassFile.FieldType.byte)).before args0 about1 = true := code_word (m := ⟨8, 6⟩) (meth := k8m6) (c := k8c6) (by decide +kernel) rfl rfl rfl (by decide +kernel)
set_option maxRecDepth 65536 in
theorem w_c11 : (Jvm.Cond.code ({ cls := "java/lang/AbstractStringBuilder", name := "ensureCapacityInternal", desc := "(I)V" } : Jvm.MethodName) jdk_68_method_9_code (3 : Nat) (Option.none : Option Jvm.ClassFile.FieldType)).before args0 about1 = true := code_word (m := ⟨10, 3⟩) (meth := k10m3) (c := k10c3) (by decide +kernel) rfl rfl rfl (by decide +kernel)
set_option maxRecDepth 65536 in
theorem w_c12 : (Jvm.Cond.code ({ cls := "java/lang/AbstractStringBuilder", name := "putStringAt", desc := "(ILjava/lang/String;)V" } : Jvm.MethodName) jdk_68_method_73_code (3 : Nat) (Option.none : Option Jvm.ClassFile.FieldType)).before args0 about1 = true := code_word (m := ⟨10, 9⟩) (meth := k10m9) (c := k10c9) (by decide +kernel) rfl rfl rfl (by decide +kernel)
set_option maxRecDepth 65536 in
theorem w_c13 : (Jvm.Cond.code ({ cls := "java/lang/AbstractStringBuilder", name := "inflateIfNeededFor", desc := "(Ljava/lang/String;)V" } : Jvm.MethodName) jdk_68_method_71_code (2 : Nat) (Option.none : Option Jvm.ClassFile.FieldType)).before args0 about1 = true := code_word (m := ⟨10, 8⟩) (meth := k10m8) (c := k10c8) (by decide +kernel) rfl rfl rfl (by decide +kernel)
set_option maxRecDepth 65536 in
theorem w_c14 : (Jvm.Cond.code ({ cls := "java/lang/String", name := "getBytes", desc := "([BIB)V" } : Jvm.MethodName) jdk_42_method_147_code (4 : Nat) (Option.none : Option Jvm.ClassFile.FieldType)).before args0 about1 = true := code_word (m := ⟨8, 4⟩) (meth := k8m4) (c := k8c4) (by decide +kernel) rfl rfl rfl (by decide +kernel)
set_option maxRecDepth 65536 in
theorem w_c15 : (Jvm.Cond.code ({ cls := "java/lang/StringBuilder", name := "append", desc := "(J)Ljava/lang/StringBuilder;" } : Jvm.MethodName) jdk_67_method_16_code (3 : Nat) (Option.some (Jvm.ClassFile.FieldType.object "java/lang/StringBuilder"))).before args0 about1 = true := code_word (m := ⟨11, 2⟩) (meth := k11m2) (c := k11c2) (by decide +kernel) rfl rfl rfl (by decide +kernel)
set_option maxRecDepth 65536 in
theorem w_c16 : (Jvm.Cond.code ({ cls := "java/lang/AbstractStringBuilder", name := "append", desc := "(J)Ljava/lang/AbstractStringBuilder;" } : Jvm.MethodName) jdk_68_method_33_code (5 : Nat) (Option.some (Jvm.ClassFile.FieldType.object "java/lang/AbstractStringBuilder"))).before args0 about1 = true := code_word (m := ⟨10, 5⟩) (meth := k10m5) (c := k10c5) (by decide +kernel) rfl rfl rfl (by decide +kernel)
set_option maxRecDepth 65536 in
theorem w_c17 : (Jvm.Cond.code ({ cls := "java/lang/Long", name := "stringSize", desc := "(J)I" } : Jvm.MethodName) jdk_35_method_15_code (6 : Nat) (Option.some Jvm.ClassFile.FieldType.int)).before args0 about1 = true := code_word (m := ⟨14, 1⟩) (meth := k14m1) (c := k14c1) (by decide +kernel) rfl rfl rfl (by decide +kernel)
set_option maxRecDepth 65536 in
theorem w_c18 : (Jvm.Cond.code ({ cls := "java/lang/AbstractStringBuilder", name := "isLatin1", desc := "()Z" } : Jvm.MethodName) jdk_68_method_68_code (1 : Nat) (Option.some Jvm.ClassFile.FieldType.boolean)).before args0 about1 = true := code_word (m := ⟨10, 7⟩) (meth := k10m7) (c := k10c7) (by decide +kernel) rfl rfl rfl (by decide +kernel)
set_option maxRecDepth 65536 in
theorem w_c19 : (Jvm.Cond.code ({ cls := "java/lang/Long", name := "getChars", desc := "(JI[B)I" } : Jvm.MethodName) jdk_35_method_14_code (11 : Nat) (Option.some Jvm.ClassFile.FieldType.int)).before args0 about1 = true := code_word (m := ⟨14, 0⟩) (meth := k14m0) (c := k14c0) (by decide +kernel) rfl rfl rfl (by decide +kernel)
set_option maxRecDepth 65536 in
theorem w_c20 : (Jvm.Cond.code ({ cls := "java/lang/StringBuilder", name := "toString", desc := "()Ljava/lang/String;" } : Jvm.MethodName) jdk_67_method_42_code (1 : Nat) (Option.some (Jvm.ClassFile.FieldType.object "java/lang/String"))).before args0 about1 = true := code_word (m := ⟨11, 3⟩) (meth := k11m3) (c := k11c3) (by decide +kernel) rfl rfl rfl (by decide +kernel)
set_option maxRecDepth 65536 in
theorem w_c21 : (Jvm.Cond.code ({ cls := "java/lang/String", name := "<init>", desc := "(Ljava/lang/StringBuilder;)V" } : Jvm.MethodName) jdk_42_method_53_code (2 : Nat) (Option.none : Option Jvm.ClassFile.FieldType)).before args0 about1 = true := code_word (m := ⟨8, 1⟩) (meth := k8m1) (c := k8c1) (by decide +kernel) rfl rfl rfl (by decide +kernel)
set_option maxRecDepth 65536 in
theorem w_c22 : (Jvm.Cond.code ({ cls := "java/lang/String", name := "<init>", desc := "(Ljava/lang/AbstractStringBuilder;Ljava/lang/Void;)V" } : Jvm.MethodName) jdk_42_method_150_code (5 : Nat) (Option.none : Option Jvm.ClassFile.FieldType)).before args0 about1 = true := code_word (m := ⟨8, 5⟩) (meth := k8m5) (c := k8c5) (by decide +kernel) rfl rfl rfl (by decide +kernel)
set_option maxRecDepth 65536 in
theorem w_c23 : (Jvm.Cond.code ({ cls := "java/lang/AbstractStringBuilder", name := "getValue", desc := "()[B" } : Jvm.MethodName) jdk_68_method_64_code (1 : Nat) (Option.some (Jvm.ClassFile.FieldType.array Jvm.ClassFile.FieldType.byte))).before args0 about1 = true := code_word (m := ⟨10, 6⟩) (meth := k10m6) (c := k10c6) (by decide +kernel) rfl rfl rfl (by decide +kernel)
set_option maxRecDepth 65536 in
theorem w_c24 : (Jvm.Cond.code ({ cls := "java/lang/StringBuilder", name := "length", desc := "()I" } : Jvm.MethodName) jdk_67_method_93_code (1 : Nat) (Option.some Jvm.ClassFile.FieldType.int)).before args0 about1 = true := code_word (m := ⟨11, 4⟩) (meth := k11m4) (c := k11c4) (by decide +kernel) rfl rfl rfl (by decide +kernel)
set_option maxRecDepth 65536 in
theorem w_c25 : (Jvm.Cond.code ({ cls := "java/lang/AbstractStringBuilder", name := "length", desc := "()I" } : Jvm.MethodName) jdk_68_method_6_code (1 : Nat) (Option.some Jvm.ClassFile.FieldType.int)).before args0 about1 = true := code_word (m := ⟨10, 2⟩) (meth := k10m2) (c := k10c2) (by decide +kernel) rfl rfl rfl (by decide +kernel)
set_option maxRecDepth 65536 in
theorem w_c26 : (Jvm.Cond.code ({ cls := "java/util/Arrays", name := "copyOfRange", desc := "([BII)[B" } : Jvm.MethodName) jdk_65_method_132_code (3 : Nat) (Option.some (Jvm.ClassFile.FieldType.array Jvm.ClassFile.FieldType.byte))).before args0 about1 = true := code_word (m := ⟨16, 2⟩) (meth := k16m2) (c := k16c2) (by decide +kernel) rfl rfl rfl (by decide +kernel)
set_option maxRecDepth 65536 in
theorem w_c27 : (Jvm.Cond.code ({ cls := "java/util/Arrays", name := "copyOfRangeByte", desc := "([BII)[B" } : Jvm.MethodName) jdk_65_method_133_code (5 : Nat) (Option.some (Jvm.ClassFile.FieldType.array Jvm.ClassFile.FieldType.byte))).before args0 about1 = true := code_word (m := ⟨16, 3⟩) (meth := k16m3) (c := k16c3) (by decide +kernel) rfl rfl rfl (by decide +kernel)
set_option maxRecDepth 65536 in
theorem w_c28 : (Jvm.Cond.code ({ cls := "java/util/Arrays", name := "checkLength", desc := "(II)V" } : Jvm.MethodName) jdk_65_method_131_code (2 : Nat) (Option.none : Option Jvm.ClassFile.FieldType)).before args0 about1 = true := code_word (m := ⟨16, 1⟩) (meth := k16m1) (c := k16c1) (by decide +kernel) rfl rfl rfl (by decide +kernel)
set_option maxRecDepth 65536 in
theorem w_c29 : (Jvm.Cond.code ({ cls := "java/lang/Math", name := "min", desc := "(II)I" } : Jvm.MethodName) jdk_29_method_69_code (2 : Nat) (Option.some Jvm.ClassFile.FieldType.int)).before args0 about1 = true := code_word (m := ⟨17, 1⟩) (meth := k17m1) (c := k17c1) (by decide +kernel) rfl rfl rfl (by decide +kernel)
set_option maxRecDepth 65536 in
theorem w_c30 : (Jvm.Cond.code ({ cls := "java/lang/String", name := "charAt", desc := "(I)C" } : Jvm.MethodName) jdk_42_method_56_code (2 : Nat) (Option.some Jvm.ClassFile.FieldType.char)).before args0 about1 = true := code_word (m := ⟨8, 3⟩) (meth := k8m3) (c := k8c3) (by decide +kernel) rfl rfl rfl (by decide +kernel)
set_option maxRecDepth 65536 in
theorem w_c31 : (Jvm.Cond.code ({ cls := "java/lang/String", name := "isLatin1", desc := "()Z" } : Jvm.MethodName) jdk_42_method_154_code (1 : Nat) (Option.some Jvm.ClassFile.FieldType.boolean)).before args0 about1 = true := code_word (m := ⟨8, 7⟩) (meth := k8m7) (c := k8c7) (by decide +kernel) rfl rfl rfl (by decide +kernel)
set_option maxRecDepth 65536 in
theorem w_c32 : (Jvm.Cond.code ({ cls := "java/lang/StringLatin1", name := "charAt", desc := "([BI)C" } : Jvm.MethodName) jdk_43_method_2_code (2 : Nat) (Option.some Jvm.ClassFile.FieldType.char)).before args0 about1 = true := code_word (m := ⟨18, 1⟩) (meth := k18m1) (c := k18c1) (by decide +kernel) rfl rfl rfl (by decide +kernel)
set_option maxRecDepth 65536 in
theorem w_c33 : (Jvm.Cond.code ({ cls := "java/lang/String", name := "checkIndex", desc := "(II)V" } : Jvm.MethodName) jdk_42_method_155_code (2 : Nat) (Option.none : Option Jvm.ClassFile.FieldType)).before args0 about1 = true := code_word (m := ⟨8, 8⟩) (meth := k8m8) (c := k8c8) (by decide +kernel) rfl rfl rfl (by decide +kernel)
set_option maxRecDepth 65536 in
theorem w_c34 : (Jvm.Cond.code ({ cls := "jdk/internal/util/Preconditions", name := "checkIndex", desc := "(IILjava/util/function/BiFunction;)I" } : Jvm.MethodName) jdk_41_method_11_code (3 : Nat) (Option.some Jvm.ClassFile.FieldType.int)).before args0 about1 = true := code_word (m := ⟨19, 1⟩) (meth := k19m1) (c := k19c1) (by decide +kernel) rfl rfl rfl (by decide +kernel)
set_option maxRecDepth 65536 in
theorem w_c35 : (Jvm.Cond.code ({ cls := "com/example/inferred_grant/inferredgrant/benchmark/SettingRequestUserPinLaw", name := "step", desc := "(Ljava/lang/String;IJ)J" } : Jvm.MethodName) method_3_code (5 : Nat) (Option.some Jvm.ClassFile.FieldType.long)).before args0 about1 = true := code_word (m := ⟨1, 2⟩) (meth := k1m2) (c := k1c2) (by decide +kernel) rfl rfl rfl (by decide +kernel)
def codes1 : List Jvm.Cond := [Jvm.Cond.code x code maxLocals ret, Jvm.Cond.code ({ cls := "com/example/inferred_grant/inferredgrant/benchmark/Setting", name := "<init>", desc := "(Ljava/lang/String;JJJJJI)V" } : Jvm.MethodName) prog_6_method_1_code (13 : Nat) (Option.none : Option Jvm.ClassFile.FieldType), Jvm.Cond.code ({ cls := "java/lang/Object", name := "<init>", desc := "()V" } : Jvm.MethodName) object_method_1_code (1 : Nat) (Option.none : Option Jvm.ClassFile.FieldType), Jvm.Cond.code ({ cls := "com/example/inferred_grant/inferredgrant/benchmark/Setting", name := "requestUser", desc := "(J)Ljava/lang/String;" } : Jvm.MethodName) prog_6_method_5_code (3 : Nat) (Option.some (Jvm.ClassFile.FieldType.object "java/lang/String")), Jvm.Cond.code ({ cls := "com/example/inferred_grant/inferredgrant/benchmark/Setting", name := "user", desc := "(J)Ljava/lang/String;" } : Jvm.MethodName) prog_6_method_10_code (2 : Nat) (Option.some (Jvm.ClassFile.FieldType.object "java/lang/String")), Jvm.Cond.code ({ cls := "java/lang/StringBuilder", name := "<init>", desc := "()V" } : Jvm.MethodName) jdk_67_method_1_code (1 : Nat) (Option.none : Option Jvm.ClassFile.FieldType), Jvm.Cond.code ({ cls := "java/lang/AbstractStringBuilder", name := "<init>", desc := "(I)V" } : Jvm.MethodName) jdk_68_method_2_code (2 : Nat) (Option.none : Option Jvm.ClassFile.FieldType), Jvm.Cond.code ({ cls := "java/lang/StringBuilder", name := "append", desc := "(Ljava/lang/String;)Ljava/lang/StringBuilder;" } : Jvm.MethodName) jdk_67_method_7_code (2 : Nat) (Option.some (Jvm.ClassFile.FieldType.object "java/lang/StringBuilder")), Jvm.Cond.code ({ cls := "java/lang/AbstractStringBuilder", name := "append", desc := "(Ljava/lang/String;)Ljava/lang/AbstractStringBuilder;" } : Jvm.MethodName) jdk_68_method_22_code (3 : Nat) (Option.some (Jvm.ClassFile.FieldType.object "java/lang/AbstractStringBuilder")), Jvm.Cond.code ({ cls := "java/lang/String", name := "length", desc := "()I" } : Jvm.MethodName) jdk_42_method_54_code (1 : Nat) (Option.some Jvm.ClassFile.FieldType.int), Jvm.Cond.code ({ cls := "java/lang/String", name := "coder", desc := "()B" } : Jvm.MethodName) jdk_42_method_152_code (1 : Nat) (Option.some Jvm.ClassFile.FieldType.byte), Jvm.Cond.code ({ cls := "java/lang/AbstractStringBuilder", name := "ensureCapacityInternal", desc := "(I)V" } : Jvm.MethodName) jdk_68_method_9_code (3 : Nat) (Option.none : Option Jvm.ClassFile.FieldType), Jvm.Cond.code ({ cls := "java/lang/AbstractStringBuilder", name := "putStringAt", desc := "(ILjava/lang/String;)V" } : Jvm.MethodName) jdk_68_method_73_code (3 : Nat) (Option.none : Option Jvm.ClassFile.FieldType), Jvm.Cond.code ({ cls := "java/lang/AbstractStringBuilder", name := "inflateIfNeededFor", desc := "(Ljava/lang/String;)V" } : Jvm.MethodName) jdk_68_method_71_code (2 : Nat) (Option.none : Option Jvm.ClassFile.FieldType), Jvm.Cond.code ({ cls := "java/lang/String", name := "getBytes", desc := "([BIB)V" } : Jvm.MethodName) jdk_42_method_147_code (4 : Nat) (Option.none : Option Jvm.ClassFile.FieldType), Jvm.Cond.code ({ cls := "java/lang/StringBuilder", name := "append", desc := "(J)Ljava/lang/StringBuilder;" } : Jvm.MethodName) jdk_67_method_16_code (3 : Nat) (Option.some (Jvm.ClassFile.FieldType.object "java/lang/StringBuilder")), Jvm.Cond.code ({ cls := "java/lang/AbstractStringBuilder", name := "append", desc := "(J)Ljava/lang/AbstractStringBuilder;" } : Jvm.MethodName) jdk_68_method_33_code (5 : Nat) (Option.some (Jvm.ClassFile.FieldType.object "java/lang/AbstractStringBuilder")), Jvm.Cond.code ({ cls := "java/lang/Long", name := "stringSize", desc := "(J)I" } : Jvm.MethodName) jdk_35_method_15_code (6 : Nat) (Option.some Jvm.ClassFile.FieldType.int), Jvm.Cond.code ({ cls := "java/lang/AbstractStringBuilder", name := "isLatin1", desc := "()Z" } : Jvm.MethodName) jdk_68_method_68_code (1 : Nat) (Option.some Jvm.ClassFile.FieldType.boolean), Jvm.Cond.code ({ cls := "java/lang/Long", name := "getChars", desc := "(JI[B)I" } : Jvm.MethodName) jdk_35_method_14_code (11 : Nat) (Option.some Jvm.ClassFile.FieldType.int), Jvm.Cond.code ({ cls := "java/lang/StringBuilder", name := "toString", desc := "()Ljava/lang/String;" } : Jvm.MethodName) jdk_67_method_42_code (1 : Nat) (Option.some (Jvm.ClassFile.FieldType.object "java/lang/String")), Jvm.Cond.code ({ cls := "java/lang/String", name := "<init>", desc := "(Ljava/lang/StringBuilder;)V" } : Jvm.MethodName) jdk_42_method_53_code (2 : Nat) (Option.none : Option Jvm.ClassFile.FieldType), Jvm.Cond.code ({ cls := "java/lang/String", name := "<init>", desc := "(Ljava/lang/AbstractStringBuilder;Ljava/lang/Void;)V" } : Jvm.MethodName) jdk_42_method_150_code (5 : Nat) (Option.none : Option Jvm.ClassFile.FieldType), Jvm.Cond.code ({ cls := "java/lang/AbstractStringBuilder", name := "getValue", desc := "()[B" } : Jvm.MethodName) jdk_68_method_64_code (1 : Nat) (Option.some (Jvm.ClassFile.FieldType.array Jvm.ClassFile.FieldType.byte)), Jvm.Cond.code ({ cls := "java/lang/StringBuilder", name := "length", desc := "()I" } : Jvm.MethodName) jdk_67_method_93_code (1 : Nat) (Option.some Jvm.ClassFile.FieldType.int), Jvm.Cond.code ({ cls := "java/lang/AbstractStringBuilder", name := "length", desc := "()I" } : Jvm.MethodName) jdk_68_method_6_code (1 : Nat) (Option.some Jvm.ClassFile.FieldType.int), Jvm.Cond.code ({ cls := "java/util/Arrays", name := "copyOfRange", desc := "([BII)[B" } : Jvm.MethodName) jdk_65_method_132_code (3 : Nat) (Option.some (Jvm.ClassFile.FieldType.array Jvm.ClassFile.FieldType.byte)), Jvm.Cond.code ({ cls := "java/util/Arrays", name := "copyOfRangeByte", desc := "([BII)[B" } : Jvm.MethodName) jdk_65_method_133_code (5 : Nat) (Option.some (Jvm.ClassFile.FieldType.array Jvm.ClassFile.FieldType.byte)), Jvm.Cond.code ({ cls := "java/util/Arrays", name := "checkLength", desc := "(II)V" } : Jvm.MethodName) jdk_65_method_131_code (2 : Nat) (Option.none : Option Jvm.ClassFile.FieldType), Jvm.Cond.code ({ cls := "java/lang/Math", name := "min", desc := "(II)I" } : Jvm.MethodName) jdk_29_method_69_code (2 : Nat) (Option.some Jvm.ClassFile.FieldType.int), Jvm.Cond.code ({ cls := "java/lang/String", name := "charAt", desc := "(I)C" } : Jvm.MethodName) jdk_42_method_56_code (2 : Nat) (Option.some Jvm.ClassFile.FieldType.char), Jvm.Cond.code ({ cls := "java/lang/String", name := "isLatin1", desc := "()Z" } : Jvm.MethodName) jdk_42_method_154_code (1 : Nat) (Option.some Jvm.ClassFile.FieldType.boolean), Jvm.Cond.code ({ cls := "java/lang/StringLatin1", name := "charAt", desc := "([BI)C" } : Jvm.MethodName) jdk_43_method_2_code (2 : Nat) (Option.some Jvm.ClassFile.FieldType.char), Jvm.Cond.code ({ cls := "java/lang/String", name := "checkIndex", desc := "(II)V" } : Jvm.MethodName) jdk_42_method_155_code (2 : Nat) (Option.none : Option Jvm.ClassFile.FieldType), Jvm.Cond.code ({ cls := "jdk/internal/util/Preconditions", name := "checkIndex", desc := "(IILjava/util/function/BiFunction;)I" } : Jvm.MethodName) jdk_41_method_11_code (3 : Nat) (Option.some Jvm.ClassFile.FieldType.int), Jvm.Cond.code ({ cls := "com/example/inferred_grant/inferredgrant/benchmark/SettingRequestUserPinLaw", name := "step", desc := "(Ljava/lang/String;IJ)J" } : Jvm.MethodName) method_3_code (5 : Nat) (Option.some Jvm.ClassFile.FieldType.long)]
set_option maxRecDepth 65536 in
theorem codes_eq : words1.filter isCode = codes1 := rfl
theorem w_codes : ∀ c ∈ words1.filter isCode, c.before args0 about1 = true := by
  rw [codes_eq]
  intro c hc
  simp only [codes1, List.mem_cons, List.not_mem_nil, or_false] at hc
  rcases hc with rfl | rfl | rfl | rfl | rfl | rfl | rfl | rfl | rfl | rfl | rfl | rfl | rfl | rfl | rfl | rfl | rfl | rfl | rfl | rfl | rfl | rfl | rfl | rfl | rfl | rfl | rfl | rfl | rfl | rfl | rfl | rfl | rfl | rfl | rfl | rfl
  · exact w_c0
  · exact w_c1
  · exact w_c2
  · exact w_c3
  · exact w_c4
  · exact w_c5
  · exact w_c6
  · exact w_c7
  · exact w_c8
  · exact w_c9
  · exact w_c10
  · exact w_c11
  · exact w_c12
  · exact w_c13
  · exact w_c14
  · exact w_c15
  · exact w_c16
  · exact w_c17
  · exact w_c18
  · exact w_c19
  · exact w_c20
  · exact w_c21
  · exact w_c22
  · exact w_c23
  · exact w_c24
  · exact w_c25
  · exact w_c26
  · exact w_c27
  · exact w_c28
  · exact w_c29
  · exact w_c30
  · exact w_c31
  · exact w_c32
  · exact w_c33
  · exact w_c34
  · exact w_c35
set_option maxRecDepth 65536 in
theorem w_t1 : (words1.take 24).all (fun c => isCode c || c.before args0 about1) = true := by decide +kernel
set_option maxRecDepth 65536 in
theorem w_t2 : ((words1.drop 24).take 24).all (fun c => isCode c || c.before args0 about1) = true := by decide +kernel
set_option maxRecDepth 65536 in
theorem w_t3 : (((words1.drop 24).drop 24).take 24).all (fun c => isCode c || c.before args0 about1) = true := by decide +kernel
set_option maxRecDepth 65536 in
theorem w_t4 : ((((words1.drop 24).drop 24).drop 24).take 24).all (fun c => isCode c || c.before args0 about1) = true := by decide +kernel
set_option maxRecDepth 65536 in
theorem w_t5 : (((((words1.drop 24).drop 24).drop 24).drop 24).take 24).all (fun c => isCode c || c.before args0 about1) = true := by decide +kernel
set_option maxRecDepth 65536 in
theorem w_t6 : ((((((words1.drop 24).drop 24).drop 24).drop 24).drop 24).take 24).all (fun c => isCode c || c.before args0 about1) = true := by decide +kernel
set_option maxRecDepth 65536 in
theorem w_t7 : (((((((words1.drop 24).drop 24).drop 24).drop 24).drop 24).drop 24).take 24).all (fun c => isCode c || c.before args0 about1) = true := by decide +kernel
set_option maxRecDepth 65536 in
theorem w_t8 : ((((((((words1.drop 24).drop 24).drop 24).drop 24).drop 24).drop 24).drop 24).take 24).all (fun c => isCode c || c.before args0 about1) = true := by decide +kernel
set_option maxRecDepth 65536 in
theorem w_t9 : ((((((((words1.drop 24).drop 24).drop 24).drop 24).drop 24).drop 24).drop 24).drop 24).all (fun c => isCode c || c.before args0 about1) = true := by decide +kernel
theorem w_tables : (allAtoms (Jvm.Cond.code x code maxLocals ret :: tables_1)).before args0 about1 = true := by
  rw [allAtoms_all]
  show words1.all (fun c => c.before args0 about1) = true
  refine all_split ?_ w_codes
  rw [← List.take_append_drop 24 words1, List.all_append, w_t1, ← List.take_append_drop 24 (words1.drop 24), List.all_append, w_t2, ← List.take_append_drop 24 ((words1.drop 24).drop 24), List.all_append, w_t3, ← List.take_append_drop 24 (((words1.drop 24).drop 24).drop 24), List.all_append, w_t4, ← List.take_append_drop 24 ((((words1.drop 24).drop 24).drop 24).drop 24), List.all_append, w_t5, ← List.take_append_drop 24 (((((words1.drop 24).drop 24).drop 24).drop 24).drop 24), List.all_append, w_t6, ← List.take_append_drop 24 ((((((words1.drop 24).drop 24).drop 24).drop 24).drop 24).drop 24), List.all_append, w_t7, ← List.take_append_drop 24 (((((((words1.drop 24).drop 24).drop 24).drop 24).drop 24).drop 24).drop 24), List.all_append, w_t8, w_t9]
  rfl
set_option maxRecDepth 65536 in
theorem w_rest : rest_1_c.before args0 about1 = true := by decide +kernel
set_option maxRecDepth 65536 in
theorem w_case : (Jvm.Cond.and given_1 narrow_1).before args0 about1 = true := by decide +kernel
set_option maxRecDepth 65536 in
theorem w_consts : constsHeld consts_1 about1 := Jvm.Lit.constsHeldB_iff.mp (by decide +kernel)
theorem w_applies : (headSpec (Jvm.Cond.code x code maxLocals ret :: tables_1) room_1).applies x e0.platform about1 = true :=
  (Spec.applies_iff w_frames).mpr ⟨w_running, w_runnable, w_alone, w_named, w_hears, w_ripe, w_room, w_tables⟩
theorem atStart : AtStart classFile x code maxLocals ret World_1 tables_1 room_1 Calls_1 rest_1 Pre_1 launch0 p0 e0 about1 theMethod args0 below0 :=
  ⟨lists_1, trivial, launch0.admits_env _ _ _, launch0.least_env, fairChoices_fair.cas, fairChoices_fair.clock, w_frames, w_args, w_heap, w_applies, ⟨w_consts, trivial⟩, w_rest, w_case⟩
end start1
theorem witness_1 : WitnessClaimed_1 := ⟨start1.p0, start1.e0, start1.about1, start1.theMethod, start1.args0, start1.below0, start1.atStart⟩
end Jvm.Pilot.@@N@@
