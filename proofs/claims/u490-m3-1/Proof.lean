import JvmDerived
import JvmDerived.Pilot.@@N@@Statement
import JvmDerived.Pilot.@@N@@Code
set_option linter.unusedVariables false
set_option linter.unusedSimpArgs false
@@BLOCK:NumsL.lean.txt@@
namespace Jvm.RoadKit
open Sem ClassFile Op Lib Jvm.Stand Jvm.Free Jvm.LawKit
section New
variable {p : Program} {l : Launch} {e : Env} {R : Room} {s : State} {m : MethodId} {args : Array Value} {below : List Frame} {meth : Method} {c : Code} {T : State} {locs : List Loc} {cells slots : Nat}
theorem retI (X : Stand p l e R s m args below meth c T locs cells slots) (hx : p.tables.exec = Jvm.exec) {pc : Nat} {Ls : Array Slot} {z : Int32} {rest : List Value} (hret : meth.sig.returnType = some .int) (hd : decode c.code pc = .ok (.ireturn, 1)) {fs : List Frame}
    (hl : ∀ (f : JFrame) (acts : List Action), f.method = m → f.locked = none → f.entered = [] → (doReturn e (T.setTop f) acts (some (.int z))).1 = T.setFrames fs) : Steps p.tables e below (T.setTop (mkF m pc Ls (.int z :: rest))) (T.setFrames fs) := by
  have hm' : T.vm.method? m = some meth := X.method'
  have hn : narrow .int (.int z) = .int z := rfl
  show Steps p.tables e below (T.setTop { method := m, pc := pc, locals := Ls, stack := _ :: rest, locked := none }) _
  jvm_step X.here [X.here.top, hx, hd, hm', hret, hn]
  first | (intro acts; rw [hl _ acts rfl rfl rfl]) | rw [hl _ _ rfl rfl rfl]
  exact Steps.refl _
end New
end Jvm.RoadKit
namespace Jvm.Pilot.@@N@@
open Jvm Jvm.ClassFile Sem Op Lib Jvm.Free Jvm.Stand Jvm.LawKit Jvm.RoadKit Bundle Jvm.Pilot.@@N@@.Jvm.D

theorem own_lltT {x y : Int64} (h : x < y) : ifCond.holds .lt (lcmpW x y) = true := (if0 _ _).trans ((tlt (by rw [lcW]; exact (lc_lt x y).mpr h)).1)
theorem own_lltF {x y : Int64} (h : ¬ (x < y)) : ifCond.holds .lt (lcmpW x y) = false := (if0 _ _).trans ((flt (by rw [lcW]; exact fun q => h ((lc_lt x y).mp q))).1)
theorem own_lgeT {x y : Int64} (h : ¬ (x < y)) : ifCond.holds .ge (lcmpW x y) = true := (if0 _ _).trans ((flt (by rw [lcW]; exact fun q => h ((lc_lt x y).mp q))).2.1)
theorem own_lgeF {x y : Int64} (h : x < y) : ifCond.holds .ge (lcmpW x y) = false := (if0 _ _).trans ((tlt (by rw [lcW]; exact (lc_lt x y).mpr h)).2.1)
theorem own_lgtT {x y : Int64} (h : y < x) : ifCond.holds .gt (lcmpW x y) = true := (if0 _ _).trans ((tlt (by rw [lcW]; exact (lc_gt x y).mpr h)).2.2.1)
theorem own_lgtF {x y : Int64} (h : ¬ (y < x)) : ifCond.holds .gt (lcmpW x y) = false := (if0 _ _).trans ((flt (by rw [lcW]; exact fun q => h ((lc_gt x y).mp q))).2.2.1)
theorem own_lleT {x y : Int64} (h : ¬ (y < x)) : ifCond.holds .le (lcmpW x y) = true := (if0 _ _).trans ((flt (by rw [lcW]; exact fun q => h ((lc_gt x y).mp q))).2.2.2)
theorem own_lleF {x y : Int64} (h : y < x) : ifCond.holds .le (lcmpW x y) = false := (if0 _ _).trans ((tlt (by rw [lcW]; exact (lc_gt x y).mpr h)).2.2.2)
theorem own_leqT {x y : Int64} (h : x = y) : ifCond.holds .eq (lcmpW x y) = true := (if0 _ _).trans ((teq (by rw [lcW]; exact (lc_eq x y).mpr h)).1)
theorem own_leqF {x y : Int64} (h : ¬ (x = y)) : ifCond.holds .eq (lcmpW x y) = false := (if0 _ _).trans ((feq (by rw [lcW]; exact fun q => h ((lc_eq x y).mp q))).1)
theorem own_lneT {x y : Int64} (h : ¬ (x = y)) : ifCond.holds .ne (lcmpW x y) = true := (if0 _ _).trans ((feq (by rw [lcW]; exact fun q => h ((lc_eq x y).mp q))).2)
theorem own_lneF {x y : Int64} (h : x = y) : ifCond.holds .ne (lcmpW x y) = false := (if0 _ _).trans ((teq (by rw [lcW]; exact (lc_eq x y).mpr h)).2)
theorem own_fldI {s : State} {args : Array Value} {t : Term} {C n d : String} {k : Int32} {a : Addr} (ev : t.eval args s none [] s = some (.ref a)) (h : (Jvm.Cond.eq (Term.field t C n d) (Term.int k)).value args s none s [] = some true) : Fld s s.heap a C n d (.int k) := by
  obtain ⟨x, y, hx, hy, K1, K2⟩ := cmp_v (Or.inl h)
  cases (Term.int_eval k).symm.trans hy
  obtain ⟨z, rfl⟩ := K2
  have q := gotT (Cond.eq_ints hx hy) h
  subst q
  rw [fld_at ev] at hx
  exact Fld.start hx
theorem own_ns0 {h : Heap} : ∀ st ∈ ([] : List Addr), ∀ c : Cell, h[st]? = some c → c.vm.isStatics = false := fun _ q => nomatch q
theorem own_nsE {Z : State} {h : Heap} {y : Addr} {C : String} {L : List Addr} (E : Exa Z h y C) (r : ∀ st ∈ L, ∀ c : Cell, h[st]? = some c → c.vm.isStatics = false) : ∀ st ∈ y :: L, ∀ c : Cell, h[st]? = some c → c.vm.isStatics = false := fun st hm c hc => (List.mem_cons.mp hm).elim (fun u => by
  subst u
  obtain ⟨cell, k, h1, -, -, h4, -⟩ := E
  cases h1.symm.trans hc
  exact h4) (fun u => r st u c hc)
theorem own_nsV {Z : State} {h : Heap} {y : Addr} {k : ClassId} {ty : FieldType} {z : Int32} {vs : List Value} {dv : Value} {L : List Addr} (E : Arv Z h y k ty z vs dv) (r : ∀ st ∈ L, ∀ c : Cell, h[st]? = some c → c.vm.isStatics = false) : ∀ st ∈ y :: L, ∀ c : Cell, h[st]? = some c → c.vm.isStatics = false := fun st hm c hc => (List.mem_cons.mp hm).elim (fun u => by
  subst u
  obtain ⟨cell, A, -⟩ := E
  cases A.1.symm.trans hc
  exact A.plain) (fun u => r st u c hc)
theorem own_staKeep {Z : State} {h h' : Heap} {ws : List Addr} {C n d : String} {v : Value} (F : Sta Z h C n d v) (K : Keep h h' ws) (q : ∀ st ∈ ws, ∀ c : Cell, h[st]? = some c → c.vm.isStatics = false) : Sta Z h' C n d v := by
  obtain ⟨cf, i, k, f, st, cell, h1, h2, h3, h4, h5, h6, h7⟩ := F
  exact ⟨cf, i, k, f, st, cell, h1, h2, h3, h4, K.2.1 st cell h5 (fun hm => by rw [q st hm cell h5] at h6; cases h6), h6, h7⟩
def own_ff (p1 : Int32) : Int32 := (if p1 = (0 : Int32) then (9 : Int32) else (if p1 = (1 : Int32) then (12 : Int32) else (if p1 = (2 : Int32) then (6 : Int32) else (if p1 = (3 : Int32) then (9 : Int32) else (if p1 = (4 : Int32) then (8 : Int32) else (if p1 = (5 : Int32) then (6 : Int32) else (if p1 = (6 : Int32) then (3 : Int32) else (if p1 = (7 : Int32) then (6 : Int32) else (if p1 = (8 : Int32) then (4 : Int32) else (if p1 = (9 : Int32) then (4 : Int32) else (if p1 = (10 : Int32) then (4 : Int32) else (if p1 = (11 : Int32) then (3 : Int32) else (if p1 = (12 : Int32) then (5 : Int32) else (if p1 = (13 : Int32) then (2 : Int32) else (if p1 = (14 : Int32) then (4 : Int32) else (if p1 = (15 : Int32) then (4 : Int32) else (if p1 = (16 : Int32) then (2 : Int32) else (if p1 = (17 : Int32) then (0 : Int32) else (if p1 = (18 : Int32) then (0 : Int32) else (if p1 = (19 : Int32) then (0 : Int32) else (0 : Int32)))))))))))))))))))))
theorem own_k {k : Int32} (h0 : 0 ≤ k.toInt) (h1 : k.toInt < 21) : k = 0 ∨ k = 1 ∨ k = 2 ∨ k = 3 ∨ k = 4 ∨ k = 5 ∨ k = 6 ∨ k = 7 ∨ k = 8 ∨ k = 9 ∨ k = 10 ∨ k = 11 ∨ k = 12 ∨ k = 13 ∨ k = 14 ∨ k = 15 ∨ k = 16 ∨ k = 17 ∨ k = 18 ∨ k = 19 ∨ k = 20 := by
  have e : k.toInt = 0 ∨ k.toInt = 1 ∨ k.toInt = 2 ∨ k.toInt = 3 ∨ k.toInt = 4 ∨ k.toInt = 5 ∨ k.toInt = 6 ∨ k.toInt = 7 ∨ k.toInt = 8 ∨ k.toInt = 9 ∨ k.toInt = 10 ∨ k.toInt = 11 ∨ k.toInt = 12 ∨ k.toInt = 13 ∨ k.toInt = 14 ∨ k.toInt = 15 ∨ k.toInt = 16 ∨ k.toInt = 17 ∨ k.toInt = 18 ∨ k.toInt = 19 ∨ k.toInt = 20 := by omega
  rcases e with e | e | e | e | e | e | e | e | e | e | e | e | e | e | e | e | e | e | e | e | e
  all_goals (first | exact Or.inl (Int32.toInt_inj.mp e) | exact Or.inr (Or.inl (Int32.toInt_inj.mp e)) | exact Or.inr (Or.inr (Or.inl (Int32.toInt_inj.mp e))) | exact Or.inr (Or.inr (Or.inr (Or.inl (Int32.toInt_inj.mp e)))) | exact Or.inr (Or.inr (Or.inr (Or.inr (Or.inl (Int32.toInt_inj.mp e))))) | exact Or.inr (Or.inr (Or.inr (Or.inr (Or.inr (Or.inl (Int32.toInt_inj.mp e)))))) | exact Or.inr (Or.inr (Or.inr (Or.inr (Or.inr (Or.inr (Or.inl (Int32.toInt_inj.mp e))))))) | exact Or.inr (Or.inr (Or.inr (Or.inr (Or.inr (Or.inr (Or.inr (Or.inl (Int32.toInt_inj.mp e)))))))) | exact Or.inr (Or.inr (Or.inr (Or.inr (Or.inr (Or.inr (Or.inr (Or.inr (Or.inl (Int32.toInt_inj.mp e))))))))) | exact Or.inr (Or.inr (Or.inr (Or.inr (Or.inr (Or.inr (Or.inr (Or.inr (Or.inr (Or.inl (Int32.toInt_inj.mp e)))))))))) | exact Or.inr (Or.inr (Or.inr (Or.inr (Or.inr (Or.inr (Or.inr (Or.inr (Or.inr (Or.inr (Or.inl (Int32.toInt_inj.mp e))))))))))) | exact Or.inr (Or.inr (Or.inr (Or.inr (Or.inr (Or.inr (Or.inr (Or.inr (Or.inr (Or.inr (Or.inr (Or.inl (Int32.toInt_inj.mp e)))))))))))) | exact Or.inr (Or.inr (Or.inr (Or.inr (Or.inr (Or.inr (Or.inr (Or.inr (Or.inr (Or.inr (Or.inr (Or.inr (Or.inl (Int32.toInt_inj.mp e))))))))))))) | exact Or.inr (Or.inr (Or.inr (Or.inr (Or.inr (Or.inr (Or.inr (Or.inr (Or.inr (Or.inr (Or.inr (Or.inr (Or.inr (Or.inl (Int32.toInt_inj.mp e)))))))))))))) | exact Or.inr (Or.inr (Or.inr (Or.inr (Or.inr (Or.inr (Or.inr (Or.inr (Or.inr (Or.inr (Or.inr (Or.inr (Or.inr (Or.inr (Or.inl (Int32.toInt_inj.mp e))))))))))))))) | exact Or.inr (Or.inr (Or.inr (Or.inr (Or.inr (Or.inr (Or.inr (Or.inr (Or.inr (Or.inr (Or.inr (Or.inr (Or.inr (Or.inr (Or.inr (Or.inl (Int32.toInt_inj.mp e)))))))))))))))) | exact Or.inr (Or.inr (Or.inr (Or.inr (Or.inr (Or.inr (Or.inr (Or.inr (Or.inr (Or.inr (Or.inr (Or.inr (Or.inr (Or.inr (Or.inr (Or.inr (Or.inl (Int32.toInt_inj.mp e))))))))))))))))) | exact Or.inr (Or.inr (Or.inr (Or.inr (Or.inr (Or.inr (Or.inr (Or.inr (Or.inr (Or.inr (Or.inr (Or.inr (Or.inr (Or.inr (Or.inr (Or.inr (Or.inr (Or.inl (Int32.toInt_inj.mp e)))))))))))))))))) | exact Or.inr (Or.inr (Or.inr (Or.inr (Or.inr (Or.inr (Or.inr (Or.inr (Or.inr (Or.inr (Or.inr (Or.inr (Or.inr (Or.inr (Or.inr (Or.inr (Or.inr (Or.inr (Or.inl (Int32.toInt_inj.mp e))))))))))))))))))) | exact Or.inr (Or.inr (Or.inr (Or.inr (Or.inr (Or.inr (Or.inr (Or.inr (Or.inr (Or.inr (Or.inr (Or.inr (Or.inr (Or.inr (Or.inr (Or.inr (Or.inr (Or.inr (Or.inr (Or.inl (Int32.toInt_inj.mp e)))))))))))))))))))) | exact Or.inr (Or.inr (Or.inr (Or.inr (Or.inr (Or.inr (Or.inr (Or.inr (Or.inr (Or.inr (Or.inr (Or.inr (Or.inr (Or.inr (Or.inr (Or.inr (Or.inr (Or.inr (Or.inr (Or.inr (Int32.toInt_inj.mp e)))))))))))))))))))))
theorem own_tab {k : Int32} (h : 0 ≤ k.toInt ∧ k.toInt < 21) : ([(.int (9 : Int32)), (.int (12 : Int32)), (.int (6 : Int32)), (.int (9 : Int32)), (.int (8 : Int32)), (.int (6 : Int32)), (.int (3 : Int32)), (.int (6 : Int32)), (.int (4 : Int32)), (.int (4 : Int32)), (.int (4 : Int32)), (.int (3 : Int32)), (.int (5 : Int32)), (.int (2 : Int32)), (.int (4 : Int32)), (.int (4 : Int32)), (.int (2 : Int32)), (.int (0 : Int32)), (.int (0 : Int32)), (.int (0 : Int32)), (.int (0 : Int32))] : List Value).getD k.toNatClampNeg (.int (0 : Int32)) = .int (own_ff k) := by
  rcases own_k h.1 h.2 with rfl | rfl | rfl | rfl | rfl | rfl | rfl | rfl | rfl | rfl | rfl | rfl | rfl | rfl | rfl | rfl | rfl | rfl | rfl | rfl | rfl <;> rfl
theorem own_m (p : Int32) : 0 ≤ ((p &&& (2147483647 : Int32)) % (21 : Int32)).toInt ∧ ((p &&& (2147483647 : Int32)) % (21 : Int32)).toInt < 21 := by
  have e : (p &&& (2147483647 : Int32)).toInt = p.toInt % 2 ^ 31 := Jvm.Kit.i32_mask p _ (k := 31) (by decide) (by decide)
  have e1 : ((p &&& (2147483647 : Int32)) % (21 : Int32)).toInt = (p.toInt % 2 ^ 31) % 21 := by
    rw [Jvm.Kit.i32_rem_nonneg (by omega), e]; rfl
  omega
theorem own_in {k : Int32} (h : 0 ≤ k.toInt ∧ k.toInt < 21) : ¬ k < 0 ∧ k < (21 : Int32) := by
  have e : (21 : Int32).toInt = 21 := by decide
  rw [Int32.lt_iff_toInt_lt, Int32.lt_iff_toInt_lt, Int32.toInt_zero, e]; omega
theorem own_neF {Z : State} {h : Heap} {a b : Addr} {C n d : String} {v w : Value} (F : Fld Z h a C n d v) (E : Fld Z h b C n d w) (q : v ≠ w) : ¬ (a = b) := fun e => by
  subst e
  obtain ⟨c1, _, _, _, f1, a1, a2, -, -, -, -, a7⟩ := F
  obtain ⟨c2, _, _, _, f2, b1, b2, -, -, -, -, b7⟩ := E
  cases a1.symm.trans b1
  cases a2.symm.trans b2
  exact q (Option.some.inj (a7.symm.trans b7))
theorem d1_0 : decode method_3_code 0 = .ok (.iload_n 0, 1) := by decide +kernel
theorem d1_1 : decode method_3_code 1 = .ok (.ifCond .ne 7, 3) := by decide +kernel
theorem d1_4 : decode method_3_code 4 = .ok (.getstatic 39, 3) := by decide +kernel
theorem d1_7 : decode method_3_code 7 = .ok (.areturn, 1) := by decide +kernel
theorem d1_8 : decode method_3_code 8 = .ok (.iload_n 0, 1) := by decide +kernel
theorem d1_9 : decode method_3_code 9 = .ok (.iconst 1, 1) := by decide +kernel
theorem d1_10 : decode method_3_code 10 = .ok (.if_icmp .ne 7, 3) := by decide +kernel
theorem d1_13 : decode method_3_code 13 = .ok (.getstatic 45, 3) := by decide +kernel
theorem d1_16 : decode method_3_code 16 = .ok (.areturn, 1) := by decide +kernel
theorem d1_17 : decode method_3_code 17 = .ok (.iload_n 0, 1) := by decide +kernel
theorem d1_18 : decode method_3_code 18 = .ok (.iconst 2, 1) := by decide +kernel
theorem d1_19 : decode method_3_code 19 = .ok (.if_icmp .ne 7, 3) := by decide +kernel
theorem d1_22 : decode method_3_code 22 = .ok (.getstatic 48, 3) := by decide +kernel
theorem d1_25 : decode method_3_code 25 = .ok (.areturn, 1) := by decide +kernel
theorem d1_26 : decode method_3_code 26 = .ok (.iload_n 0, 1) := by decide +kernel
theorem d1_27 : decode method_3_code 27 = .ok (.iconst 3, 1) := by decide +kernel
theorem d1_28 : decode method_3_code 28 = .ok (.if_icmp .ne 7, 3) := by decide +kernel
theorem d1_31 : decode method_3_code 31 = .ok (.getstatic 51, 3) := by decide +kernel
theorem d1_34 : decode method_3_code 34 = .ok (.areturn, 1) := by decide +kernel
theorem d1_35 : decode method_3_code 35 = .ok (.iload_n 0, 1) := by decide +kernel
theorem d1_36 : decode method_3_code 36 = .ok (.iconst 4, 1) := by decide +kernel
theorem d1_37 : decode method_3_code 37 = .ok (.if_icmp .ne 7, 3) := by decide +kernel
theorem d1_40 : decode method_3_code 40 = .ok (.getstatic 54, 3) := by decide +kernel
theorem d1_43 : decode method_3_code 43 = .ok (.areturn, 1) := by decide +kernel
theorem d1_44 : decode method_3_code 44 = .ok (.iload_n 0, 1) := by decide +kernel
theorem d1_45 : decode method_3_code 45 = .ok (.iconst 5, 1) := by decide +kernel
theorem d1_46 : decode method_3_code 46 = .ok (.if_icmp .ne 7, 3) := by decide +kernel
theorem d1_49 : decode method_3_code 49 = .ok (.getstatic 57, 3) := by decide +kernel
theorem d1_52 : decode method_3_code 52 = .ok (.areturn, 1) := by decide +kernel
theorem d1_53 : decode method_3_code 53 = .ok (.iload_n 0, 1) := by decide +kernel
theorem d1_54 : decode method_3_code 54 = .ok (.bipush 6, 2) := by decide +kernel
theorem d1_56 : decode method_3_code 56 = .ok (.if_icmp .ne 7, 3) := by decide +kernel
theorem d1_59 : decode method_3_code 59 = .ok (.getstatic 60, 3) := by decide +kernel
theorem d1_62 : decode method_3_code 62 = .ok (.areturn, 1) := by decide +kernel
theorem d1_63 : decode method_3_code 63 = .ok (.iload_n 0, 1) := by decide +kernel
theorem d1_64 : decode method_3_code 64 = .ok (.bipush 7, 2) := by decide +kernel
theorem d1_66 : decode method_3_code 66 = .ok (.if_icmp .ne 7, 3) := by decide +kernel
theorem d1_69 : decode method_3_code 69 = .ok (.getstatic 63, 3) := by decide +kernel
theorem d1_72 : decode method_3_code 72 = .ok (.areturn, 1) := by decide +kernel
theorem d1_73 : decode method_3_code 73 = .ok (.iload_n 0, 1) := by decide +kernel
theorem d1_74 : decode method_3_code 74 = .ok (.bipush 8, 2) := by decide +kernel
theorem d1_76 : decode method_3_code 76 = .ok (.if_icmp .ne 7, 3) := by decide +kernel
theorem d1_79 : decode method_3_code 79 = .ok (.getstatic 66, 3) := by decide +kernel
theorem d1_82 : decode method_3_code 82 = .ok (.areturn, 1) := by decide +kernel
theorem d1_83 : decode method_3_code 83 = .ok (.iload_n 0, 1) := by decide +kernel
theorem d1_84 : decode method_3_code 84 = .ok (.bipush 9, 2) := by decide +kernel
theorem d1_86 : decode method_3_code 86 = .ok (.if_icmp .ne 7, 3) := by decide +kernel
theorem d1_89 : decode method_3_code 89 = .ok (.getstatic 69, 3) := by decide +kernel
theorem d1_92 : decode method_3_code 92 = .ok (.areturn, 1) := by decide +kernel
theorem d1_93 : decode method_3_code 93 = .ok (.iload_n 0, 1) := by decide +kernel
theorem d1_94 : decode method_3_code 94 = .ok (.bipush 10, 2) := by decide +kernel
theorem d1_96 : decode method_3_code 96 = .ok (.if_icmp .ne 7, 3) := by decide +kernel
theorem d1_99 : decode method_3_code 99 = .ok (.getstatic 72, 3) := by decide +kernel
theorem d1_102 : decode method_3_code 102 = .ok (.areturn, 1) := by decide +kernel
theorem d1_103 : decode method_3_code 103 = .ok (.iload_n 0, 1) := by decide +kernel
theorem d1_104 : decode method_3_code 104 = .ok (.bipush 11, 2) := by decide +kernel
theorem d1_106 : decode method_3_code 106 = .ok (.if_icmp .ne 7, 3) := by decide +kernel
theorem d1_109 : decode method_3_code 109 = .ok (.getstatic 75, 3) := by decide +kernel
theorem d1_112 : decode method_3_code 112 = .ok (.areturn, 1) := by decide +kernel
theorem d1_113 : decode method_3_code 113 = .ok (.iload_n 0, 1) := by decide +kernel
theorem d1_114 : decode method_3_code 114 = .ok (.bipush 12, 2) := by decide +kernel
theorem d1_116 : decode method_3_code 116 = .ok (.if_icmp .ne 7, 3) := by decide +kernel
theorem d1_119 : decode method_3_code 119 = .ok (.getstatic 78, 3) := by decide +kernel
theorem d1_122 : decode method_3_code 122 = .ok (.areturn, 1) := by decide +kernel
theorem d1_123 : decode method_3_code 123 = .ok (.iload_n 0, 1) := by decide +kernel
theorem d1_124 : decode method_3_code 124 = .ok (.bipush 13, 2) := by decide +kernel
theorem d1_126 : decode method_3_code 126 = .ok (.if_icmp .ne 7, 3) := by decide +kernel
theorem d1_129 : decode method_3_code 129 = .ok (.getstatic 81, 3) := by decide +kernel
theorem d1_132 : decode method_3_code 132 = .ok (.areturn, 1) := by decide +kernel
theorem d1_133 : decode method_3_code 133 = .ok (.iload_n 0, 1) := by decide +kernel
theorem d1_134 : decode method_3_code 134 = .ok (.bipush 14, 2) := by decide +kernel
theorem d1_136 : decode method_3_code 136 = .ok (.if_icmp .ne 7, 3) := by decide +kernel
theorem d1_139 : decode method_3_code 139 = .ok (.getstatic 84, 3) := by decide +kernel
theorem d1_142 : decode method_3_code 142 = .ok (.areturn, 1) := by decide +kernel
theorem d1_143 : decode method_3_code 143 = .ok (.iload_n 0, 1) := by decide +kernel
theorem d1_144 : decode method_3_code 144 = .ok (.bipush 15, 2) := by decide +kernel
theorem d1_146 : decode method_3_code 146 = .ok (.if_icmp .ne 7, 3) := by decide +kernel
theorem d1_149 : decode method_3_code 149 = .ok (.getstatic 87, 3) := by decide +kernel
theorem d1_152 : decode method_3_code 152 = .ok (.areturn, 1) := by decide +kernel
theorem d1_153 : decode method_3_code 153 = .ok (.iload_n 0, 1) := by decide +kernel
theorem d1_154 : decode method_3_code 154 = .ok (.bipush 16, 2) := by decide +kernel
theorem d1_156 : decode method_3_code 156 = .ok (.if_icmp .ne 7, 3) := by decide +kernel
theorem d1_159 : decode method_3_code 159 = .ok (.getstatic 90, 3) := by decide +kernel
theorem d1_162 : decode method_3_code 162 = .ok (.areturn, 1) := by decide +kernel
theorem d1_163 : decode method_3_code 163 = .ok (.iload_n 0, 1) := by decide +kernel
theorem d1_164 : decode method_3_code 164 = .ok (.bipush 17, 2) := by decide +kernel
theorem d1_166 : decode method_3_code 166 = .ok (.if_icmp .ne 7, 3) := by decide +kernel
theorem d1_169 : decode method_3_code 169 = .ok (.getstatic 93, 3) := by decide +kernel
theorem d1_172 : decode method_3_code 172 = .ok (.areturn, 1) := by decide +kernel
theorem d1_173 : decode method_3_code 173 = .ok (.iload_n 0, 1) := by decide +kernel
theorem d1_174 : decode method_3_code 174 = .ok (.bipush 18, 2) := by decide +kernel
theorem d1_176 : decode method_3_code 176 = .ok (.if_icmp .ne 7, 3) := by decide +kernel
theorem d1_179 : decode method_3_code 179 = .ok (.getstatic 96, 3) := by decide +kernel
theorem d1_182 : decode method_3_code 182 = .ok (.areturn, 1) := by decide +kernel
theorem d1_183 : decode method_3_code 183 = .ok (.iload_n 0, 1) := by decide +kernel
theorem d1_184 : decode method_3_code 184 = .ok (.bipush 19, 2) := by decide +kernel
theorem d1_186 : decode method_3_code 186 = .ok (.if_icmp .ne 7, 3) := by decide +kernel
theorem d1_189 : decode method_3_code 189 = .ok (.getstatic 99, 3) := by decide +kernel
theorem d1_192 : decode method_3_code 192 = .ok (.areturn, 1) := by decide +kernel
theorem d1_193 : decode method_3_code 193 = .ok (.getstatic 102, 3) := by decide +kernel
theorem d1_196 : decode method_3_code 196 = .ok (.areturn, 1) := by decide +kernel
theorem pn_com_example_alviso_alviso_protocol_ResponseHeaderAnsweringPinLaw : plainName "com/example/alviso/alviso/protocol/ResponseHeaderAnsweringPinLaw" = true := by first | (simp [plainName, overriddenIn]; done) | decide +kernel
theorem ef_rm1 (m : MethodId) (p1 : Int32) : entryFrame m #[(.int p1)] 1 = mkF m 0 #[.val (.int p1)] [] := by first | (simp [entryFrame, mkF, argsToLocals, Value.category]; done) | rfl
def Q_rm1 (Z : State) (p1 : Int32) (w_PRODUCE : Addr) (w_FETCH : Addr) (w_LIST_OFFSETS : Addr) (w_METADATA : Addr) (w_OFFSET_COMMIT : Addr) (w_OFFSET_FETCH : Addr) (w_FIND_COORDINATOR : Addr) (w_JOIN_GROUP : Addr) (w_HEARTBEAT : Addr) (w_LEAVE_GROUP : Addr) (w_SYNC_GROUP : Addr) (w_API_VERSIONS : Addr) (w_CREATE_TOPICS : Addr) (w_INIT_PRODUCER_ID : Addr) (w_OFFSET_FOR_LEADER_EPOCH : Addr) (w_DESCRIBE_CONFIGS : Addr) (w_ELECT_LEADERS : Addr) (w_ALTER_PARTITION : Addr) (w_BROKER_REGISTRATION : Addr) (w_BROKER_HEARTBEAT : Addr) (w_ALLOCATE_PRODUCER_IDS : Addr) (h0 : Heap) (n0 : Nat) (v : Option Value) (h : Heap) (L : List Loc) : Prop := ∃ r : Addr, v = some (.ref r) ∧ Fr n0 L ∧ h = h0 ∧ Exa Z h r "com/example/alviso/alviso/protocol/ApiKey" ∧ Fld Z h r "com/example/alviso/alviso/protocol/ApiKey" "firstFlexibleVersion" "S" (.int (own_ff p1)) ∧ (r = w_API_VERSIONS ↔ p1 = (11 : Int32))
set_option maxRecDepth 65536 in
set_option maxHeartbeats 40000000 in
theorem rm1 (l : Launch) (Z : State) (a0 : Array Value) (hw : ∀ d ∈ tables_1, d.before a0 Z = true) (ws : List Jvm.Cond) (p1 : Int32) (w_PRODUCE : Addr) (w_FETCH : Addr) (w_LIST_OFFSETS : Addr) (w_METADATA : Addr) (w_OFFSET_COMMIT : Addr) (w_OFFSET_FETCH : Addr) (w_FIND_COORDINATOR : Addr) (w_JOIN_GROUP : Addr) (w_HEARTBEAT : Addr) (w_LEAVE_GROUP : Addr) (w_SYNC_GROUP : Addr) (w_API_VERSIONS : Addr) (w_CREATE_TOPICS : Addr) (w_INIT_PRODUCER_ID : Addr) (w_OFFSET_FOR_LEADER_EPOCH : Addr) (w_DESCRIBE_CONFIGS : Addr) (w_ELECT_LEADERS : Addr) (w_ALTER_PARTITION : Addr) (w_BROKER_REGISTRATION : Addr) (w_BROKER_HEARTBEAT : Addr) (w_ALLOCATE_PRODUCER_IDS : Addr) (h0 : Heap) (n0 : Nat) (Z0 : n0 ≤ h0.size) (S_PRODUCE : Sta Z h0 "com/example/alviso/alviso/protocol/ApiKey" "PRODUCE" "Lcom/example/alviso/alviso/protocol/ApiKey;" (.ref w_PRODUCE)) (S_FETCH : Sta Z h0 "com/example/alviso/alviso/protocol/ApiKey" "FETCH" "Lcom/example/alviso/alviso/protocol/ApiKey;" (.ref w_FETCH)) (S_LIST_OFFSETS : Sta Z h0 "com/example/alviso/alviso/protocol/ApiKey" "LIST_OFFSETS" "Lcom/example/alviso/alviso/protocol/ApiKey;" (.ref w_LIST_OFFSETS)) (S_METADATA : Sta Z h0 "com/example/alviso/alviso/protocol/ApiKey" "METADATA" "Lcom/example/alviso/alviso/protocol/ApiKey;" (.ref w_METADATA)) (S_OFFSET_COMMIT : Sta Z h0 "com/example/alviso/alviso/protocol/ApiKey" "OFFSET_COMMIT" "Lcom/example/alviso/alviso/protocol/ApiKey;" (.ref w_OFFSET_COMMIT)) (S_OFFSET_FETCH : Sta Z h0 "com/example/alviso/alviso/protocol/ApiKey" "OFFSET_FETCH" "Lcom/example/alviso/alviso/protocol/ApiKey;" (.ref w_OFFSET_FETCH)) (S_FIND_COORDINATOR : Sta Z h0 "com/example/alviso/alviso/protocol/ApiKey" "FIND_COORDINATOR" "Lcom/example/alviso/alviso/protocol/ApiKey;" (.ref w_FIND_COORDINATOR)) (S_JOIN_GROUP : Sta Z h0 "com/example/alviso/alviso/protocol/ApiKey" "JOIN_GROUP" "Lcom/example/alviso/alviso/protocol/ApiKey;" (.ref w_JOIN_GROUP)) (S_HEARTBEAT : Sta Z h0 "com/example/alviso/alviso/protocol/ApiKey" "HEARTBEAT" "Lcom/example/alviso/alviso/protocol/ApiKey;" (.ref w_HEARTBEAT)) (S_LEAVE_GROUP : Sta Z h0 "com/example/alviso/alviso/protocol/ApiKey" "LEAVE_GROUP" "Lcom/example/alviso/alviso/protocol/ApiKey;" (.ref w_LEAVE_GROUP)) (S_SYNC_GROUP : Sta Z h0 "com/example/alviso/alviso/protocol/ApiKey" "SYNC_GROUP" "Lcom/example/alviso/alviso/protocol/ApiKey;" (.ref w_SYNC_GROUP)) (S_API_VERSIONS : Sta Z h0 "com/example/alviso/alviso/protocol/ApiKey" "API_VERSIONS" "Lcom/example/alviso/alviso/protocol/ApiKey;" (.ref w_API_VERSIONS)) (S_CREATE_TOPICS : Sta Z h0 "com/example/alviso/alviso/protocol/ApiKey" "CREATE_TOPICS" "Lcom/example/alviso/alviso/protocol/ApiKey;" (.ref w_CREATE_TOPICS)) (S_INIT_PRODUCER_ID : Sta Z h0 "com/example/alviso/alviso/protocol/ApiKey" "INIT_PRODUCER_ID" "Lcom/example/alviso/alviso/protocol/ApiKey;" (.ref w_INIT_PRODUCER_ID)) (S_OFFSET_FOR_LEADER_EPOCH : Sta Z h0 "com/example/alviso/alviso/protocol/ApiKey" "OFFSET_FOR_LEADER_EPOCH" "Lcom/example/alviso/alviso/protocol/ApiKey;" (.ref w_OFFSET_FOR_LEADER_EPOCH)) (S_DESCRIBE_CONFIGS : Sta Z h0 "com/example/alviso/alviso/protocol/ApiKey" "DESCRIBE_CONFIGS" "Lcom/example/alviso/alviso/protocol/ApiKey;" (.ref w_DESCRIBE_CONFIGS)) (S_ELECT_LEADERS : Sta Z h0 "com/example/alviso/alviso/protocol/ApiKey" "ELECT_LEADERS" "Lcom/example/alviso/alviso/protocol/ApiKey;" (.ref w_ELECT_LEADERS)) (S_ALTER_PARTITION : Sta Z h0 "com/example/alviso/alviso/protocol/ApiKey" "ALTER_PARTITION" "Lcom/example/alviso/alviso/protocol/ApiKey;" (.ref w_ALTER_PARTITION)) (S_BROKER_REGISTRATION : Sta Z h0 "com/example/alviso/alviso/protocol/ApiKey" "BROKER_REGISTRATION" "Lcom/example/alviso/alviso/protocol/ApiKey;" (.ref w_BROKER_REGISTRATION)) (S_BROKER_HEARTBEAT : Sta Z h0 "com/example/alviso/alviso/protocol/ApiKey" "BROKER_HEARTBEAT" "Lcom/example/alviso/alviso/protocol/ApiKey;" (.ref w_BROKER_HEARTBEAT)) (S_ALLOCATE_PRODUCER_IDS : Sta Z h0 "com/example/alviso/alviso/protocol/ApiKey" "ALLOCATE_PRODUCER_IDS" "Lcom/example/alviso/alviso/protocol/ApiKey;" (.ref w_ALLOCATE_PRODUCER_IDS)) (E_w_PRODUCE : Exa Z h0 w_PRODUCE "com/example/alviso/alviso/protocol/ApiKey") (E_w_FETCH : Exa Z h0 w_FETCH "com/example/alviso/alviso/protocol/ApiKey") (E_w_LIST_OFFSETS : Exa Z h0 w_LIST_OFFSETS "com/example/alviso/alviso/protocol/ApiKey") (E_w_METADATA : Exa Z h0 w_METADATA "com/example/alviso/alviso/protocol/ApiKey") (E_w_OFFSET_COMMIT : Exa Z h0 w_OFFSET_COMMIT "com/example/alviso/alviso/protocol/ApiKey") (E_w_OFFSET_FETCH : Exa Z h0 w_OFFSET_FETCH "com/example/alviso/alviso/protocol/ApiKey") (E_w_FIND_COORDINATOR : Exa Z h0 w_FIND_COORDINATOR "com/example/alviso/alviso/protocol/ApiKey") (E_w_JOIN_GROUP : Exa Z h0 w_JOIN_GROUP "com/example/alviso/alviso/protocol/ApiKey") (E_w_HEARTBEAT : Exa Z h0 w_HEARTBEAT "com/example/alviso/alviso/protocol/ApiKey") (E_w_LEAVE_GROUP : Exa Z h0 w_LEAVE_GROUP "com/example/alviso/alviso/protocol/ApiKey") (E_w_SYNC_GROUP : Exa Z h0 w_SYNC_GROUP "com/example/alviso/alviso/protocol/ApiKey") (E_w_API_VERSIONS : Exa Z h0 w_API_VERSIONS "com/example/alviso/alviso/protocol/ApiKey") (E_w_CREATE_TOPICS : Exa Z h0 w_CREATE_TOPICS "com/example/alviso/alviso/protocol/ApiKey") (E_w_INIT_PRODUCER_ID : Exa Z h0 w_INIT_PRODUCER_ID "com/example/alviso/alviso/protocol/ApiKey") (E_w_OFFSET_FOR_LEADER_EPOCH : Exa Z h0 w_OFFSET_FOR_LEADER_EPOCH "com/example/alviso/alviso/protocol/ApiKey") (E_w_DESCRIBE_CONFIGS : Exa Z h0 w_DESCRIBE_CONFIGS "com/example/alviso/alviso/protocol/ApiKey") (E_w_ELECT_LEADERS : Exa Z h0 w_ELECT_LEADERS "com/example/alviso/alviso/protocol/ApiKey") (E_w_ALTER_PARTITION : Exa Z h0 w_ALTER_PARTITION "com/example/alviso/alviso/protocol/ApiKey") (E_w_BROKER_REGISTRATION : Exa Z h0 w_BROKER_REGISTRATION "com/example/alviso/alviso/protocol/ApiKey") (E_w_BROKER_HEARTBEAT : Exa Z h0 w_BROKER_HEARTBEAT "com/example/alviso/alviso/protocol/ApiKey") (E_w_ALLOCATE_PRODUCER_IDS : Exa Z h0 w_ALLOCATE_PRODUCER_IDS "com/example/alviso/alviso/protocol/ApiKey") (F_firstFlexibleVersion_w_PRODUCE : Fld Z h0 w_PRODUCE "com/example/alviso/alviso/protocol/ApiKey" "firstFlexibleVersion" "S" (.int (9 : Int32))) (F_firstFlexibleVersion_w_FETCH : Fld Z h0 w_FETCH "com/example/alviso/alviso/protocol/ApiKey" "firstFlexibleVersion" "S" (.int (12 : Int32))) (F_firstFlexibleVersion_w_LIST_OFFSETS : Fld Z h0 w_LIST_OFFSETS "com/example/alviso/alviso/protocol/ApiKey" "firstFlexibleVersion" "S" (.int (6 : Int32))) (F_firstFlexibleVersion_w_METADATA : Fld Z h0 w_METADATA "com/example/alviso/alviso/protocol/ApiKey" "firstFlexibleVersion" "S" (.int (9 : Int32))) (F_firstFlexibleVersion_w_OFFSET_COMMIT : Fld Z h0 w_OFFSET_COMMIT "com/example/alviso/alviso/protocol/ApiKey" "firstFlexibleVersion" "S" (.int (8 : Int32))) (F_firstFlexibleVersion_w_OFFSET_FETCH : Fld Z h0 w_OFFSET_FETCH "com/example/alviso/alviso/protocol/ApiKey" "firstFlexibleVersion" "S" (.int (6 : Int32))) (F_firstFlexibleVersion_w_FIND_COORDINATOR : Fld Z h0 w_FIND_COORDINATOR "com/example/alviso/alviso/protocol/ApiKey" "firstFlexibleVersion" "S" (.int (3 : Int32))) (F_firstFlexibleVersion_w_JOIN_GROUP : Fld Z h0 w_JOIN_GROUP "com/example/alviso/alviso/protocol/ApiKey" "firstFlexibleVersion" "S" (.int (6 : Int32))) (F_firstFlexibleVersion_w_HEARTBEAT : Fld Z h0 w_HEARTBEAT "com/example/alviso/alviso/protocol/ApiKey" "firstFlexibleVersion" "S" (.int (4 : Int32))) (F_firstFlexibleVersion_w_LEAVE_GROUP : Fld Z h0 w_LEAVE_GROUP "com/example/alviso/alviso/protocol/ApiKey" "firstFlexibleVersion" "S" (.int (4 : Int32))) (F_firstFlexibleVersion_w_SYNC_GROUP : Fld Z h0 w_SYNC_GROUP "com/example/alviso/alviso/protocol/ApiKey" "firstFlexibleVersion" "S" (.int (4 : Int32))) (F_firstFlexibleVersion_w_API_VERSIONS : Fld Z h0 w_API_VERSIONS "com/example/alviso/alviso/protocol/ApiKey" "firstFlexibleVersion" "S" (.int (3 : Int32))) (F_firstFlexibleVersion_w_CREATE_TOPICS : Fld Z h0 w_CREATE_TOPICS "com/example/alviso/alviso/protocol/ApiKey" "firstFlexibleVersion" "S" (.int (5 : Int32))) (F_firstFlexibleVersion_w_INIT_PRODUCER_ID : Fld Z h0 w_INIT_PRODUCER_ID "com/example/alviso/alviso/protocol/ApiKey" "firstFlexibleVersion" "S" (.int (2 : Int32))) (F_firstFlexibleVersion_w_OFFSET_FOR_LEADER_EPOCH : Fld Z h0 w_OFFSET_FOR_LEADER_EPOCH "com/example/alviso/alviso/protocol/ApiKey" "firstFlexibleVersion" "S" (.int (4 : Int32))) (F_firstFlexibleVersion_w_DESCRIBE_CONFIGS : Fld Z h0 w_DESCRIBE_CONFIGS "com/example/alviso/alviso/protocol/ApiKey" "firstFlexibleVersion" "S" (.int (4 : Int32))) (F_firstFlexibleVersion_w_ELECT_LEADERS : Fld Z h0 w_ELECT_LEADERS "com/example/alviso/alviso/protocol/ApiKey" "firstFlexibleVersion" "S" (.int (2 : Int32))) (F_firstFlexibleVersion_w_ALTER_PARTITION : Fld Z h0 w_ALTER_PARTITION "com/example/alviso/alviso/protocol/ApiKey" "firstFlexibleVersion" "S" (.int (0 : Int32))) (F_firstFlexibleVersion_w_BROKER_REGISTRATION : Fld Z h0 w_BROKER_REGISTRATION "com/example/alviso/alviso/protocol/ApiKey" "firstFlexibleVersion" "S" (.int (0 : Int32))) (F_firstFlexibleVersion_w_BROKER_HEARTBEAT : Fld Z h0 w_BROKER_HEARTBEAT "com/example/alviso/alviso/protocol/ApiKey" "firstFlexibleVersion" "S" (.int (0 : Int32))) (F_firstFlexibleVersion_w_ALLOCATE_PRODUCER_IDS : Fld Z h0 w_ALLOCATE_PRODUCER_IDS "com/example/alviso/alviso/protocol/ApiKey" "firstFlexibleVersion" "S" (.int (0 : Int32))) (hne_PRODUCE : ¬ (w_PRODUCE = w_API_VERSIONS)) (hne_FETCH : ¬ (w_FETCH = w_API_VERSIONS)) (hne_LIST_OFFSETS : ¬ (w_LIST_OFFSETS = w_API_VERSIONS)) (hne_METADATA : ¬ (w_METADATA = w_API_VERSIONS)) (hne_OFFSET_COMMIT : ¬ (w_OFFSET_COMMIT = w_API_VERSIONS)) (hne_OFFSET_FETCH : ¬ (w_OFFSET_FETCH = w_API_VERSIONS)) (hne_FIND_COORDINATOR : ¬ (w_FIND_COORDINATOR = w_API_VERSIONS)) (hne_JOIN_GROUP : ¬ (w_JOIN_GROUP = w_API_VERSIONS)) (hne_HEARTBEAT : ¬ (w_HEARTBEAT = w_API_VERSIONS)) (hne_LEAVE_GROUP : ¬ (w_LEAVE_GROUP = w_API_VERSIONS)) (hne_SYNC_GROUP : ¬ (w_SYNC_GROUP = w_API_VERSIONS)) (hne_CREATE_TOPICS : ¬ (w_CREATE_TOPICS = w_API_VERSIONS)) (hne_INIT_PRODUCER_ID : ¬ (w_INIT_PRODUCER_ID = w_API_VERSIONS)) (hne_OFFSET_FOR_LEADER_EPOCH : ¬ (w_OFFSET_FOR_LEADER_EPOCH = w_API_VERSIONS)) (hne_DESCRIBE_CONFIGS : ¬ (w_DESCRIBE_CONFIGS = w_API_VERSIONS)) (hne_ELECT_LEADERS : ¬ (w_ELECT_LEADERS = w_API_VERSIONS)) (hne_ALTER_PARTITION : ¬ (w_ALTER_PARTITION = w_API_VERSIONS)) (hne_BROKER_REGISTRATION : ¬ (w_BROKER_REGISTRATION = w_API_VERSIONS)) (hne_BROKER_HEARTBEAT : ¬ (w_BROKER_HEARTBEAT = w_API_VERSIONS)) (hne_ALLOCATE_PRODUCER_IDS : ¬ (w_ALLOCATE_PRODUCER_IDS = w_API_VERSIONS)) :
    MetFree l (⟨"com/example/alviso/alviso/protocol/ResponseHeaderAnsweringPinLaw", "api", "(I)Lcom/example/alviso/alviso/protocol/ApiKey;"⟩ : MethodName) (head1 (Jvm.Cond.code (⟨"com/example/alviso/alviso/protocol/ResponseHeaderAnsweringPinLaw", "api", "(I)Lcom/example/alviso/alviso/protocol/ApiKey;"⟩ : MethodName) method_3_code 1 (some (.object "com/example/alviso/alviso/protocol/ApiKey")) :: ws) ({ frames := 0, cells := 0, slots := 0, locals := 0 } : Room)) (fun a U => a = #[(.int p1)] ∧ Z.Warmed39 U.vm ∧ U.heap = h0) (fun _ _ _ _ _ => True) (fun _ U o U' => ∃ v L, o = .returned v ∧ Q_rm1 Z p1 w_PRODUCE w_FETCH w_LIST_OFFSETS w_METADATA w_OFFSET_COMMIT w_OFFSET_FETCH w_FIND_COORDINATOR w_JOIN_GROUP w_HEARTBEAT w_LEAVE_GROUP w_SYNC_GROUP w_API_VERSIONS w_CREATE_TOPICS w_INIT_PRODUCER_ID w_OFFSET_FOR_LEADER_EPOCH w_DESCRIBE_CONFIGS w_ELECT_LEADERS w_ALTER_PARTITION w_BROKER_REGISTRATION w_BROKER_HEARTBEAT w_ALLOCATE_PRODUCER_IDS h0 n0 v U'.heap L ∧ FrameEnd U o U' L ({ frames := 0, cells := 0, slots := 0, locals := 0 } : Room).cells ({ frames := 0, cells := 0, slots := 0, locals := 0 } : Room).slots) := by
  refine MetFree.of_bodySF (plainFor_of_name pn_com_example_alviso_alviso_protocol_ResponseHeaderAnsweringPinLaw) hisR ?_
  intro p e s m args below meth c s₁ Bd hml0 hP hK
  obtain ⟨rfl, hZ, hh⟩ := hP
  have hx := Bd.exec
  have hby := Bd.bytes
  have hml : c.maxLocals = 1 := hml0
  have hown : s.vm.findClass "com/example/alviso/alviso/protocol/ResponseHeaderAnsweringPinLaw" = some m.cls := findClass_of_methodNamed Bd.named
  have hnm := (name_of_methodNamed Bd.named Bd.method).1
  have X0 : Stand p l e ({ frames := 0, cells := 0, slots := 0, locals := 0 } : Room) s m #[(.int p1)] below meth c s₁ [] 0 0 := Stand.of_body Bd
  have e0 : s₁.heap = h0 := by rw [← hh, Bd.state]; rfl
  have N0 := Fr.nil n0
  have pre0 : ∀ t, Steps p.tables e below (s₁.setTop (mkF m 0 #[.val (.int p1)] [])) t → Steps p.tables e below (s₁.setTop (entryFrame m #[(.int p1)] 1)) t := fun t k => castTop (ef_rm1 m p1) k
  have pre2 : ∀ t, Steps p.tables e below (s₁.setTop (mkF m 1 #[.val (.int p1)] [(.int p1)])) t → Steps p.tables e below (s₁.setTop (entryFrame m #[(.int p1)] 1)) t := fun t kt => by
    refine pre0 t ?_
    show Steps p.tables e below (s₁.setTop (mkF m 0 #[.val (.int p1)] [])) _
    refine XS.iloadN X0.here hx rfl (hb hby d1_0) rfl ?_
    exact kt
  by_cases hc1_1 : p1 = (0 : Int32)
  · obtain ⟨T3, X3, e3, st3⟩ := getS2 X0 hx hZ hown (host := "") (Or.inl (hw _ (List.mem_of_getElem? (i := 5) rfl))) Via.refl e0 S_PRODUCE (g := (mkF m 4 #[.val (.int p1)] [])) rfl (hb hby d1_4)
    obtain ⟨fs, hr, hrun, hended, hW, hsame⟩ := X3.leave (v := some (.ref w_PRODUCE)) (fun h => by rw [Bd.returns] at h; cases h)
    refine ⟨_, _, pre2 _ ?_, hrun, hended, _, _, rfl, ?_, ⟨_, rfl⟩, hW, hsame.mono (by decide) (by decide)⟩
    · show Steps p.tables e below (s₁.setTop (mkF m 1 #[.val (.int p1)] [(.int p1)])) _
      refine XS.ifNo X0.here hx rfl (hb hby d1_1) rfl ((if0 _ _).trans (teq hc1_1).2) ?_
      show Steps p.tables e below (s₁.setTop (mkF m 4 #[.val (.int p1)] [])) _
      refine st3 _ ?_
      show Steps p.tables e below (T3.setTop (mkF m 7 #[.val (.int p1)] [(.ref w_PRODUCE)])) _
      jvm_step X3.here [X3.here.top, hx, (hb hby d1_7), X3.method', Bd.returns, Value.isRef, FieldType.isReference]
      first | (intro acts; rw [hr _ acts rfl rfl rfl]) | rw [hr _ _ rfl rfl rfl]
      exact Steps.refl _
    · show Q_rm1 Z p1 w_PRODUCE w_FETCH w_LIST_OFFSETS w_METADATA w_OFFSET_COMMIT w_OFFSET_FETCH w_FIND_COORDINATOR w_JOIN_GROUP w_HEARTBEAT w_LEAVE_GROUP w_SYNC_GROUP w_API_VERSIONS w_CREATE_TOPICS w_INIT_PRODUCER_ID w_OFFSET_FOR_LEADER_EPOCH w_DESCRIBE_CONFIGS w_ELECT_LEADERS w_ALTER_PARTITION w_BROKER_REGISTRATION w_BROKER_HEARTBEAT w_ALLOCATE_PRODUCER_IDS h0 n0 _ T3.heap _
      rw [e3]
      exact ⟨w_PRODUCE, rfl, N0, rfl, E_w_PRODUCE, (by rw [own_ff, if_pos hc1_1]; exact F_firstFlexibleVersion_w_PRODUCE), ⟨fun q => absurd q hne_PRODUCE, fun q => absurd (q.symm.trans hc1_1) (by decide)⟩⟩
  · have pre5 : ∀ t, Steps p.tables e below (s₁.setTop (mkF m 10 #[.val (.int p1)] [(.int (1 : Int32)), (.int p1)])) t → Steps p.tables e below (s₁.setTop (entryFrame m #[(.int p1)] 1)) t := fun t kt => by
      refine pre2 t ?_
      show Steps p.tables e below (s₁.setTop (mkF m 1 #[.val (.int p1)] [(.int p1)])) _
      refine XS.ifYes X0.here hx rfl (pc0 := 1) (pc' := 8) rfl (hb hby d1_1) rfl ((if0 _ _).trans (feq hc1_1).2) (by decide) (by decide) ?_
      show Steps p.tables e below (s₁.setTop (mkF m 8 #[.val (.int p1)] [])) _
      refine XS.iloadN X0.here hx rfl (hb hby d1_8) rfl ?_
      show Steps p.tables e below (s₁.setTop (mkF m 9 #[.val (.int p1)] [(.int p1)])) _
      refine XS.iconst X0.here hx rfl (hb hby d1_9) ?_
      exact kt
    by_cases hc10_4 : p1 = (1 : Int32)
    · obtain ⟨T6, X6, e6, st6⟩ := getS2 X0 hx hZ hown (host := "") (Or.inl (hw _ (List.mem_of_getElem? (i := 110) rfl))) Via.refl e0 S_FETCH (g := (mkF m 13 #[.val (.int p1)] [])) rfl (hb hby d1_13)
      obtain ⟨fs, hr, hrun, hended, hW, hsame⟩ := X6.leave (v := some (.ref w_FETCH)) (fun h => by rw [Bd.returns] at h; cases h)
      refine ⟨_, _, pre5 _ ?_, hrun, hended, _, _, rfl, ?_, ⟨_, rfl⟩, hW, hsame.mono (by decide) (by decide)⟩
      · show Steps p.tables e below (s₁.setTop (mkF m 10 #[.val (.int p1)] [(.int (1 : Int32)), (.int p1)])) _
        refine XS.icmpNo X0.here hx rfl (hb hby d1_10) rfl (teq hc10_4).2 ?_
        show Steps p.tables e below (s₁.setTop (mkF m 13 #[.val (.int p1)] [])) _
        refine st6 _ ?_
        show Steps p.tables e below (T6.setTop (mkF m 16 #[.val (.int p1)] [(.ref w_FETCH)])) _
        jvm_step X6.here [X6.here.top, hx, (hb hby d1_16), X6.method', Bd.returns, Value.isRef, FieldType.isReference]
        first | (intro acts; rw [hr _ acts rfl rfl rfl]) | rw [hr _ _ rfl rfl rfl]
        exact Steps.refl _
      · show Q_rm1 Z p1 w_PRODUCE w_FETCH w_LIST_OFFSETS w_METADATA w_OFFSET_COMMIT w_OFFSET_FETCH w_FIND_COORDINATOR w_JOIN_GROUP w_HEARTBEAT w_LEAVE_GROUP w_SYNC_GROUP w_API_VERSIONS w_CREATE_TOPICS w_INIT_PRODUCER_ID w_OFFSET_FOR_LEADER_EPOCH w_DESCRIBE_CONFIGS w_ELECT_LEADERS w_ALTER_PARTITION w_BROKER_REGISTRATION w_BROKER_HEARTBEAT w_ALLOCATE_PRODUCER_IDS h0 n0 _ T6.heap _
        rw [e6]
        exact ⟨w_FETCH, rfl, N0, rfl, E_w_FETCH, (by rw [own_ff, if_neg hc1_1, if_pos hc10_4]; exact F_firstFlexibleVersion_w_FETCH), ⟨fun q => absurd q hne_FETCH, fun q => absurd (q.symm.trans hc10_4) (by decide)⟩⟩
    · have pre8 : ∀ t, Steps p.tables e below (s₁.setTop (mkF m 19 #[.val (.int p1)] [(.int (2 : Int32)), (.int p1)])) t → Steps p.tables e below (s₁.setTop (entryFrame m #[(.int p1)] 1)) t := fun t kt => by
        refine pre5 t ?_
        show Steps p.tables e below (s₁.setTop (mkF m 10 #[.val (.int p1)] [(.int (1 : Int32)), (.int p1)])) _
        refine XS.icmpYes X0.here hx rfl (pc0 := 10) (pc' := 17) rfl (hb hby d1_10) rfl (feq hc10_4).2 (by decide) (by decide) ?_
        show Steps p.tables e below (s₁.setTop (mkF m 17 #[.val (.int p1)] [])) _
        refine XS.iloadN X0.here hx rfl (hb hby d1_17) rfl ?_
        show Steps p.tables e below (s₁.setTop (mkF m 18 #[.val (.int p1)] [(.int p1)])) _
        refine XS.iconst X0.here hx rfl (hb hby d1_18) ?_
        exact kt
      by_cases hc19_7 : p1 = (2 : Int32)
      · obtain ⟨T9, X9, e9, st9⟩ := getS2 X0 hx hZ hown (host := "") (Or.inl (hw _ (List.mem_of_getElem? (i := 122) rfl))) Via.refl e0 S_LIST_OFFSETS (g := (mkF m 22 #[.val (.int p1)] [])) rfl (hb hby d1_22)
        obtain ⟨fs, hr, hrun, hended, hW, hsame⟩ := X9.leave (v := some (.ref w_LIST_OFFSETS)) (fun h => by rw [Bd.returns] at h; cases h)
        refine ⟨_, _, pre8 _ ?_, hrun, hended, _, _, rfl, ?_, ⟨_, rfl⟩, hW, hsame.mono (by decide) (by decide)⟩
        · show Steps p.tables e below (s₁.setTop (mkF m 19 #[.val (.int p1)] [(.int (2 : Int32)), (.int p1)])) _
          refine XS.icmpNo X0.here hx rfl (hb hby d1_19) rfl (teq hc19_7).2 ?_
          show Steps p.tables e below (s₁.setTop (mkF m 22 #[.val (.int p1)] [])) _
          refine st9 _ ?_
          show Steps p.tables e below (T9.setTop (mkF m 25 #[.val (.int p1)] [(.ref w_LIST_OFFSETS)])) _
          jvm_step X9.here [X9.here.top, hx, (hb hby d1_25), X9.method', Bd.returns, Value.isRef, FieldType.isReference]
          first | (intro acts; rw [hr _ acts rfl rfl rfl]) | rw [hr _ _ rfl rfl rfl]
          exact Steps.refl _
        · show Q_rm1 Z p1 w_PRODUCE w_FETCH w_LIST_OFFSETS w_METADATA w_OFFSET_COMMIT w_OFFSET_FETCH w_FIND_COORDINATOR w_JOIN_GROUP w_HEARTBEAT w_LEAVE_GROUP w_SYNC_GROUP w_API_VERSIONS w_CREATE_TOPICS w_INIT_PRODUCER_ID w_OFFSET_FOR_LEADER_EPOCH w_DESCRIBE_CONFIGS w_ELECT_LEADERS w_ALTER_PARTITION w_BROKER_REGISTRATION w_BROKER_HEARTBEAT w_ALLOCATE_PRODUCER_IDS h0 n0 _ T9.heap _
          rw [e9]
          exact ⟨w_LIST_OFFSETS, rfl, N0, rfl, E_w_LIST_OFFSETS, (by rw [own_ff, if_neg hc1_1, if_neg hc10_4, if_pos hc19_7]; exact F_firstFlexibleVersion_w_LIST_OFFSETS), ⟨fun q => absurd q hne_LIST_OFFSETS, fun q => absurd (q.symm.trans hc19_7) (by decide)⟩⟩
      · have pre11 : ∀ t, Steps p.tables e below (s₁.setTop (mkF m 28 #[.val (.int p1)] [(.int (3 : Int32)), (.int p1)])) t → Steps p.tables e below (s₁.setTop (entryFrame m #[(.int p1)] 1)) t := fun t kt => by
          refine pre8 t ?_
          show Steps p.tables e below (s₁.setTop (mkF m 19 #[.val (.int p1)] [(.int (2 : Int32)), (.int p1)])) _
          refine XS.icmpYes X0.here hx rfl (pc0 := 19) (pc' := 26) rfl (hb hby d1_19) rfl (feq hc19_7).2 (by decide) (by decide) ?_
          show Steps p.tables e below (s₁.setTop (mkF m 26 #[.val (.int p1)] [])) _
          refine XS.iloadN X0.here hx rfl (hb hby d1_26) rfl ?_
          show Steps p.tables e below (s₁.setTop (mkF m 27 #[.val (.int p1)] [(.int p1)])) _
          refine XS.iconst X0.here hx rfl (hb hby d1_27) ?_
          exact kt
        by_cases hc28_10 : p1 = (3 : Int32)
        · obtain ⟨T12, X12, e12, st12⟩ := getS2 X0 hx hZ hown (host := "") (Or.inl (hw _ (List.mem_of_getElem? (i := 112) rfl))) Via.refl e0 S_METADATA (g := (mkF m 31 #[.val (.int p1)] [])) rfl (hb hby d1_31)
          obtain ⟨fs, hr, hrun, hended, hW, hsame⟩ := X12.leave (v := some (.ref w_METADATA)) (fun h => by rw [Bd.returns] at h; cases h)
          refine ⟨_, _, pre11 _ ?_, hrun, hended, _, _, rfl, ?_, ⟨_, rfl⟩, hW, hsame.mono (by decide) (by decide)⟩
          · show Steps p.tables e below (s₁.setTop (mkF m 28 #[.val (.int p1)] [(.int (3 : Int32)), (.int p1)])) _
            refine XS.icmpNo X0.here hx rfl (hb hby d1_28) rfl (teq hc28_10).2 ?_
            show Steps p.tables e below (s₁.setTop (mkF m 31 #[.val (.int p1)] [])) _
            refine st12 _ ?_
            show Steps p.tables e below (T12.setTop (mkF m 34 #[.val (.int p1)] [(.ref w_METADATA)])) _
            jvm_step X12.here [X12.here.top, hx, (hb hby d1_34), X12.method', Bd.returns, Value.isRef, FieldType.isReference]
            first | (intro acts; rw [hr _ acts rfl rfl rfl]) | rw [hr _ _ rfl rfl rfl]
            exact Steps.refl _
          · show Q_rm1 Z p1 w_PRODUCE w_FETCH w_LIST_OFFSETS w_METADATA w_OFFSET_COMMIT w_OFFSET_FETCH w_FIND_COORDINATOR w_JOIN_GROUP w_HEARTBEAT w_LEAVE_GROUP w_SYNC_GROUP w_API_VERSIONS w_CREATE_TOPICS w_INIT_PRODUCER_ID w_OFFSET_FOR_LEADER_EPOCH w_DESCRIBE_CONFIGS w_ELECT_LEADERS w_ALTER_PARTITION w_BROKER_REGISTRATION w_BROKER_HEARTBEAT w_ALLOCATE_PRODUCER_IDS h0 n0 _ T12.heap _
            rw [e12]
            exact ⟨w_METADATA, rfl, N0, rfl, E_w_METADATA, (by rw [own_ff, if_neg hc1_1, if_neg hc10_4, if_neg hc19_7, if_pos hc28_10]; exact F_firstFlexibleVersion_w_METADATA), ⟨fun q => absurd q hne_METADATA, fun q => absurd (q.symm.trans hc28_10) (by decide)⟩⟩
        · have pre14 : ∀ t, Steps p.tables e below (s₁.setTop (mkF m 37 #[.val (.int p1)] [(.int (4 : Int32)), (.int p1)])) t → Steps p.tables e below (s₁.setTop (entryFrame m #[(.int p1)] 1)) t := fun t kt => by
            refine pre11 t ?_
            show Steps p.tables e below (s₁.setTop (mkF m 28 #[.val (.int p1)] [(.int (3 : Int32)), (.int p1)])) _
            refine XS.icmpYes X0.here hx rfl (pc0 := 28) (pc' := 35) rfl (hb hby d1_28) rfl (feq hc28_10).2 (by decide) (by decide) ?_
            show Steps p.tables e below (s₁.setTop (mkF m 35 #[.val (.int p1)] [])) _
            refine XS.iloadN X0.here hx rfl (hb hby d1_35) rfl ?_
            show Steps p.tables e below (s₁.setTop (mkF m 36 #[.val (.int p1)] [(.int p1)])) _
            refine XS.iconst X0.here hx rfl (hb hby d1_36) ?_
            exact kt
          by_cases hc37_13 : p1 = (4 : Int32)
          · obtain ⟨T15, X15, e15, st15⟩ := getS2 X0 hx hZ hown (host := "") (Or.inl (hw _ (List.mem_of_getElem? (i := 120) rfl))) Via.refl e0 S_OFFSET_COMMIT (g := (mkF m 40 #[.val (.int p1)] [])) rfl (hb hby d1_40)
            obtain ⟨fs, hr, hrun, hended, hW, hsame⟩ := X15.leave (v := some (.ref w_OFFSET_COMMIT)) (fun h => by rw [Bd.returns] at h; cases h)
            refine ⟨_, _, pre14 _ ?_, hrun, hended, _, _, rfl, ?_, ⟨_, rfl⟩, hW, hsame.mono (by decide) (by decide)⟩
            · show Steps p.tables e below (s₁.setTop (mkF m 37 #[.val (.int p1)] [(.int (4 : Int32)), (.int p1)])) _
              refine XS.icmpNo X0.here hx rfl (hb hby d1_37) rfl (teq hc37_13).2 ?_
              show Steps p.tables e below (s₁.setTop (mkF m 40 #[.val (.int p1)] [])) _
              refine st15 _ ?_
              show Steps p.tables e below (T15.setTop (mkF m 43 #[.val (.int p1)] [(.ref w_OFFSET_COMMIT)])) _
              jvm_step X15.here [X15.here.top, hx, (hb hby d1_43), X15.method', Bd.returns, Value.isRef, FieldType.isReference]
              first | (intro acts; rw [hr _ acts rfl rfl rfl]) | rw [hr _ _ rfl rfl rfl]
              exact Steps.refl _
            · show Q_rm1 Z p1 w_PRODUCE w_FETCH w_LIST_OFFSETS w_METADATA w_OFFSET_COMMIT w_OFFSET_FETCH w_FIND_COORDINATOR w_JOIN_GROUP w_HEARTBEAT w_LEAVE_GROUP w_SYNC_GROUP w_API_VERSIONS w_CREATE_TOPICS w_INIT_PRODUCER_ID w_OFFSET_FOR_LEADER_EPOCH w_DESCRIBE_CONFIGS w_ELECT_LEADERS w_ALTER_PARTITION w_BROKER_REGISTRATION w_BROKER_HEARTBEAT w_ALLOCATE_PRODUCER_IDS h0 n0 _ T15.heap _
              rw [e15]
              exact ⟨w_OFFSET_COMMIT, rfl, N0, rfl, E_w_OFFSET_COMMIT, (by rw [own_ff, if_neg hc1_1, if_neg hc10_4, if_neg hc19_7, if_neg hc28_10, if_pos hc37_13]; exact F_firstFlexibleVersion_w_OFFSET_COMMIT), ⟨fun q => absurd q hne_OFFSET_COMMIT, fun q => absurd (q.symm.trans hc37_13) (by decide)⟩⟩
          · have pre17 : ∀ t, Steps p.tables e below (s₁.setTop (mkF m 46 #[.val (.int p1)] [(.int (5 : Int32)), (.int p1)])) t → Steps p.tables e below (s₁.setTop (entryFrame m #[(.int p1)] 1)) t := fun t kt => by
              refine pre14 t ?_
              show Steps p.tables e below (s₁.setTop (mkF m 37 #[.val (.int p1)] [(.int (4 : Int32)), (.int p1)])) _
              refine XS.icmpYes X0.here hx rfl (pc0 := 37) (pc' := 44) rfl (hb hby d1_37) rfl (feq hc37_13).2 (by decide) (by decide) ?_
              show Steps p.tables e below (s₁.setTop (mkF m 44 #[.val (.int p1)] [])) _
              refine XS.iloadN X0.here hx rfl (hb hby d1_44) rfl ?_
              show Steps p.tables e below (s₁.setTop (mkF m 45 #[.val (.int p1)] [(.int p1)])) _
              refine XS.iconst X0.here hx rfl (hb hby d1_45) ?_
              exact kt
            by_cases hc46_16 : p1 = (5 : Int32)
            · obtain ⟨T18, X18, e18, st18⟩ := getS2 X0 hx hZ hown (host := "") (Or.inl (hw _ (List.mem_of_getElem? (i := 134) rfl))) Via.refl e0 S_OFFSET_FETCH (g := (mkF m 49 #[.val (.int p1)] [])) rfl (hb hby d1_49)
              obtain ⟨fs, hr, hrun, hended, hW, hsame⟩ := X18.leave (v := some (.ref w_OFFSET_FETCH)) (fun h => by rw [Bd.returns] at h; cases h)
              refine ⟨_, _, pre17 _ ?_, hrun, hended, _, _, rfl, ?_, ⟨_, rfl⟩, hW, hsame.mono (by decide) (by decide)⟩
              · show Steps p.tables e below (s₁.setTop (mkF m 46 #[.val (.int p1)] [(.int (5 : Int32)), (.int p1)])) _
                refine XS.icmpNo X0.here hx rfl (hb hby d1_46) rfl (teq hc46_16).2 ?_
                show Steps p.tables e below (s₁.setTop (mkF m 49 #[.val (.int p1)] [])) _
                refine st18 _ ?_
                show Steps p.tables e below (T18.setTop (mkF m 52 #[.val (.int p1)] [(.ref w_OFFSET_FETCH)])) _
                jvm_step X18.here [X18.here.top, hx, (hb hby d1_52), X18.method', Bd.returns, Value.isRef, FieldType.isReference]
                first | (intro acts; rw [hr _ acts rfl rfl rfl]) | rw [hr _ _ rfl rfl rfl]
                exact Steps.refl _
              · show Q_rm1 Z p1 w_PRODUCE w_FETCH w_LIST_OFFSETS w_METADATA w_OFFSET_COMMIT w_OFFSET_FETCH w_FIND_COORDINATOR w_JOIN_GROUP w_HEARTBEAT w_LEAVE_GROUP w_SYNC_GROUP w_API_VERSIONS w_CREATE_TOPICS w_INIT_PRODUCER_ID w_OFFSET_FOR_LEADER_EPOCH w_DESCRIBE_CONFIGS w_ELECT_LEADERS w_ALTER_PARTITION w_BROKER_REGISTRATION w_BROKER_HEARTBEAT w_ALLOCATE_PRODUCER_IDS h0 n0 _ T18.heap _
                rw [e18]
                exact ⟨w_OFFSET_FETCH, rfl, N0, rfl, E_w_OFFSET_FETCH, (by rw [own_ff, if_neg hc1_1, if_neg hc10_4, if_neg hc19_7, if_neg hc28_10, if_neg hc37_13, if_pos hc46_16]; exact F_firstFlexibleVersion_w_OFFSET_FETCH), ⟨fun q => absurd q hne_OFFSET_FETCH, fun q => absurd (q.symm.trans hc46_16) (by decide)⟩⟩
            · have pre20 : ∀ t, Steps p.tables e below (s₁.setTop (mkF m 56 #[.val (.int p1)] [(.int (6 : Int32)), (.int p1)])) t → Steps p.tables e below (s₁.setTop (entryFrame m #[(.int p1)] 1)) t := fun t kt => by
                refine pre17 t ?_
                show Steps p.tables e below (s₁.setTop (mkF m 46 #[.val (.int p1)] [(.int (5 : Int32)), (.int p1)])) _
                refine XS.icmpYes X0.here hx rfl (pc0 := 46) (pc' := 53) rfl (hb hby d1_46) rfl (feq hc46_16).2 (by decide) (by decide) ?_
                show Steps p.tables e below (s₁.setTop (mkF m 53 #[.val (.int p1)] [])) _
                refine XS.iloadN X0.here hx rfl (hb hby d1_53) rfl ?_
                show Steps p.tables e below (s₁.setTop (mkF m 54 #[.val (.int p1)] [(.int p1)])) _
                refine XS.bipush X0.here hx rfl (hb hby d1_54) ?_
                exact kt
              by_cases hc56_19 : p1 = (6 : Int32)
              · obtain ⟨T21, X21, e21, st21⟩ := getS2 X0 hx hZ hown (host := "") (Or.inl (hw _ (List.mem_of_getElem? (i := 136) rfl))) Via.refl e0 S_FIND_COORDINATOR (g := (mkF m 59 #[.val (.int p1)] [])) rfl (hb hby d1_59)
                obtain ⟨fs, hr, hrun, hended, hW, hsame⟩ := X21.leave (v := some (.ref w_FIND_COORDINATOR)) (fun h => by rw [Bd.returns] at h; cases h)
                refine ⟨_, _, pre20 _ ?_, hrun, hended, _, _, rfl, ?_, ⟨_, rfl⟩, hW, hsame.mono (by decide) (by decide)⟩
                · show Steps p.tables e below (s₁.setTop (mkF m 56 #[.val (.int p1)] [(.int (6 : Int32)), (.int p1)])) _
                  refine XS.icmpNo X0.here hx rfl (hb hby d1_56) rfl (teq hc56_19).2 ?_
                  show Steps p.tables e below (s₁.setTop (mkF m 59 #[.val (.int p1)] [])) _
                  refine st21 _ ?_
                  show Steps p.tables e below (T21.setTop (mkF m 62 #[.val (.int p1)] [(.ref w_FIND_COORDINATOR)])) _
                  jvm_step X21.here [X21.here.top, hx, (hb hby d1_62), X21.method', Bd.returns, Value.isRef, FieldType.isReference]
                  first | (intro acts; rw [hr _ acts rfl rfl rfl]) | rw [hr _ _ rfl rfl rfl]
                  exact Steps.refl _
                · show Q_rm1 Z p1 w_PRODUCE w_FETCH w_LIST_OFFSETS w_METADATA w_OFFSET_COMMIT w_OFFSET_FETCH w_FIND_COORDINATOR w_JOIN_GROUP w_HEARTBEAT w_LEAVE_GROUP w_SYNC_GROUP w_API_VERSIONS w_CREATE_TOPICS w_INIT_PRODUCER_ID w_OFFSET_FOR_LEADER_EPOCH w_DESCRIBE_CONFIGS w_ELECT_LEADERS w_ALTER_PARTITION w_BROKER_REGISTRATION w_BROKER_HEARTBEAT w_ALLOCATE_PRODUCER_IDS h0 n0 _ T21.heap _
                  rw [e21]
                  exact ⟨w_FIND_COORDINATOR, rfl, N0, rfl, E_w_FIND_COORDINATOR, (by rw [own_ff, if_neg hc1_1, if_neg hc10_4, if_neg hc19_7, if_neg hc28_10, if_neg hc37_13, if_neg hc46_16, if_pos hc56_19]; exact F_firstFlexibleVersion_w_FIND_COORDINATOR), ⟨fun q => absurd q hne_FIND_COORDINATOR, fun q => absurd (q.symm.trans hc56_19) (by decide)⟩⟩
              · have pre23 : ∀ t, Steps p.tables e below (s₁.setTop (mkF m 66 #[.val (.int p1)] [(.int (7 : Int32)), (.int p1)])) t → Steps p.tables e below (s₁.setTop (entryFrame m #[(.int p1)] 1)) t := fun t kt => by
                  refine pre20 t ?_
                  show Steps p.tables e below (s₁.setTop (mkF m 56 #[.val (.int p1)] [(.int (6 : Int32)), (.int p1)])) _
                  refine XS.icmpYes X0.here hx rfl (pc0 := 56) (pc' := 63) rfl (hb hby d1_56) rfl (feq hc56_19).2 (by decide) (by decide) ?_
                  show Steps p.tables e below (s₁.setTop (mkF m 63 #[.val (.int p1)] [])) _
                  refine XS.iloadN X0.here hx rfl (hb hby d1_63) rfl ?_
                  show Steps p.tables e below (s₁.setTop (mkF m 64 #[.val (.int p1)] [(.int p1)])) _
                  refine XS.bipush X0.here hx rfl (hb hby d1_64) ?_
                  exact kt
                by_cases hc66_22 : p1 = (7 : Int32)
                · obtain ⟨T24, X24, e24, st24⟩ := getS2 X0 hx hZ hown (host := "") (Or.inl (hw _ (List.mem_of_getElem? (i := 118) rfl))) Via.refl e0 S_JOIN_GROUP (g := (mkF m 69 #[.val (.int p1)] [])) rfl (hb hby d1_69)
                  obtain ⟨fs, hr, hrun, hended, hW, hsame⟩ := X24.leave (v := some (.ref w_JOIN_GROUP)) (fun h => by rw [Bd.returns] at h; cases h)
                  refine ⟨_, _, pre23 _ ?_, hrun, hended, _, _, rfl, ?_, ⟨_, rfl⟩, hW, hsame.mono (by decide) (by decide)⟩
                  · show Steps p.tables e below (s₁.setTop (mkF m 66 #[.val (.int p1)] [(.int (7 : Int32)), (.int p1)])) _
                    refine XS.icmpNo X0.here hx rfl (hb hby d1_66) rfl (teq hc66_22).2 ?_
                    show Steps p.tables e below (s₁.setTop (mkF m 69 #[.val (.int p1)] [])) _
                    refine st24 _ ?_
                    show Steps p.tables e below (T24.setTop (mkF m 72 #[.val (.int p1)] [(.ref w_JOIN_GROUP)])) _
                    jvm_step X24.here [X24.here.top, hx, (hb hby d1_72), X24.method', Bd.returns, Value.isRef, FieldType.isReference]
                    first | (intro acts; rw [hr _ acts rfl rfl rfl]) | rw [hr _ _ rfl rfl rfl]
                    exact Steps.refl _
                  · show Q_rm1 Z p1 w_PRODUCE w_FETCH w_LIST_OFFSETS w_METADATA w_OFFSET_COMMIT w_OFFSET_FETCH w_FIND_COORDINATOR w_JOIN_GROUP w_HEARTBEAT w_LEAVE_GROUP w_SYNC_GROUP w_API_VERSIONS w_CREATE_TOPICS w_INIT_PRODUCER_ID w_OFFSET_FOR_LEADER_EPOCH w_DESCRIBE_CONFIGS w_ELECT_LEADERS w_ALTER_PARTITION w_BROKER_REGISTRATION w_BROKER_HEARTBEAT w_ALLOCATE_PRODUCER_IDS h0 n0 _ T24.heap _
                    rw [e24]
                    exact ⟨w_JOIN_GROUP, rfl, N0, rfl, E_w_JOIN_GROUP, (by rw [own_ff, if_neg hc1_1, if_neg hc10_4, if_neg hc19_7, if_neg hc28_10, if_neg hc37_13, if_neg hc46_16, if_neg hc56_19, if_pos hc66_22]; exact F_firstFlexibleVersion_w_JOIN_GROUP), ⟨fun q => absurd q hne_JOIN_GROUP, fun q => absurd (q.symm.trans hc66_22) (by decide)⟩⟩
                · have pre26 : ∀ t, Steps p.tables e below (s₁.setTop (mkF m 76 #[.val (.int p1)] [(.int (8 : Int32)), (.int p1)])) t → Steps p.tables e below (s₁.setTop (entryFrame m #[(.int p1)] 1)) t := fun t kt => by
                    refine pre23 t ?_
                    show Steps p.tables e below (s₁.setTop (mkF m 66 #[.val (.int p1)] [(.int (7 : Int32)), (.int p1)])) _
                    refine XS.icmpYes X0.here hx rfl (pc0 := 66) (pc' := 73) rfl (hb hby d1_66) rfl (feq hc66_22).2 (by decide) (by decide) ?_
                    show Steps p.tables e below (s₁.setTop (mkF m 73 #[.val (.int p1)] [])) _
                    refine XS.iloadN X0.here hx rfl (hb hby d1_73) rfl ?_
                    show Steps p.tables e below (s₁.setTop (mkF m 74 #[.val (.int p1)] [(.int p1)])) _
                    refine XS.bipush X0.here hx rfl (hb hby d1_74) ?_
                    exact kt
                  by_cases hc76_25 : p1 = (8 : Int32)
                  · obtain ⟨T27, X27, e27, st27⟩ := getS2 X0 hx hZ hown (host := "") (Or.inl (hw _ (List.mem_of_getElem? (i := 116) rfl))) Via.refl e0 S_HEARTBEAT (g := (mkF m 79 #[.val (.int p1)] [])) rfl (hb hby d1_79)
                    obtain ⟨fs, hr, hrun, hended, hW, hsame⟩ := X27.leave (v := some (.ref w_HEARTBEAT)) (fun h => by rw [Bd.returns] at h; cases h)
                    refine ⟨_, _, pre26 _ ?_, hrun, hended, _, _, rfl, ?_, ⟨_, rfl⟩, hW, hsame.mono (by decide) (by decide)⟩
                    · show Steps p.tables e below (s₁.setTop (mkF m 76 #[.val (.int p1)] [(.int (8 : Int32)), (.int p1)])) _
                      refine XS.icmpNo X0.here hx rfl (hb hby d1_76) rfl (teq hc76_25).2 ?_
                      show Steps p.tables e below (s₁.setTop (mkF m 79 #[.val (.int p1)] [])) _
                      refine st27 _ ?_
                      show Steps p.tables e below (T27.setTop (mkF m 82 #[.val (.int p1)] [(.ref w_HEARTBEAT)])) _
                      jvm_step X27.here [X27.here.top, hx, (hb hby d1_82), X27.method', Bd.returns, Value.isRef, FieldType.isReference]
                      first | (intro acts; rw [hr _ acts rfl rfl rfl]) | rw [hr _ _ rfl rfl rfl]
                      exact Steps.refl _
                    · show Q_rm1 Z p1 w_PRODUCE w_FETCH w_LIST_OFFSETS w_METADATA w_OFFSET_COMMIT w_OFFSET_FETCH w_FIND_COORDINATOR w_JOIN_GROUP w_HEARTBEAT w_LEAVE_GROUP w_SYNC_GROUP w_API_VERSIONS w_CREATE_TOPICS w_INIT_PRODUCER_ID w_OFFSET_FOR_LEADER_EPOCH w_DESCRIBE_CONFIGS w_ELECT_LEADERS w_ALTER_PARTITION w_BROKER_REGISTRATION w_BROKER_HEARTBEAT w_ALLOCATE_PRODUCER_IDS h0 n0 _ T27.heap _
                      rw [e27]
                      exact ⟨w_HEARTBEAT, rfl, N0, rfl, E_w_HEARTBEAT, (by rw [own_ff, if_neg hc1_1, if_neg hc10_4, if_neg hc19_7, if_neg hc28_10, if_neg hc37_13, if_neg hc46_16, if_neg hc56_19, if_neg hc66_22, if_pos hc76_25]; exact F_firstFlexibleVersion_w_HEARTBEAT), ⟨fun q => absurd q hne_HEARTBEAT, fun q => absurd (q.symm.trans hc76_25) (by decide)⟩⟩
                  · have pre29 : ∀ t, Steps p.tables e below (s₁.setTop (mkF m 86 #[.val (.int p1)] [(.int (9 : Int32)), (.int p1)])) t → Steps p.tables e below (s₁.setTop (entryFrame m #[(.int p1)] 1)) t := fun t kt => by
                      refine pre26 t ?_
                      show Steps p.tables e below (s₁.setTop (mkF m 76 #[.val (.int p1)] [(.int (8 : Int32)), (.int p1)])) _
                      refine XS.icmpYes X0.here hx rfl (pc0 := 76) (pc' := 83) rfl (hb hby d1_76) rfl (feq hc76_25).2 (by decide) (by decide) ?_
                      show Steps p.tables e below (s₁.setTop (mkF m 83 #[.val (.int p1)] [])) _
                      refine XS.iloadN X0.here hx rfl (hb hby d1_83) rfl ?_
                      show Steps p.tables e below (s₁.setTop (mkF m 84 #[.val (.int p1)] [(.int p1)])) _
                      refine XS.bipush X0.here hx rfl (hb hby d1_84) ?_
                      exact kt
                    by_cases hc86_28 : p1 = (9 : Int32)
                    · obtain ⟨T30, X30, e30, st30⟩ := getS2 X0 hx hZ hown (host := "") (Or.inl (hw _ (List.mem_of_getElem? (i := 130) rfl))) Via.refl e0 S_LEAVE_GROUP (g := (mkF m 89 #[.val (.int p1)] [])) rfl (hb hby d1_89)
                      obtain ⟨fs, hr, hrun, hended, hW, hsame⟩ := X30.leave (v := some (.ref w_LEAVE_GROUP)) (fun h => by rw [Bd.returns] at h; cases h)
                      refine ⟨_, _, pre29 _ ?_, hrun, hended, _, _, rfl, ?_, ⟨_, rfl⟩, hW, hsame.mono (by decide) (by decide)⟩
                      · show Steps p.tables e below (s₁.setTop (mkF m 86 #[.val (.int p1)] [(.int (9 : Int32)), (.int p1)])) _
                        refine XS.icmpNo X0.here hx rfl (hb hby d1_86) rfl (teq hc86_28).2 ?_
                        show Steps p.tables e below (s₁.setTop (mkF m 89 #[.val (.int p1)] [])) _
                        refine st30 _ ?_
                        show Steps p.tables e below (T30.setTop (mkF m 92 #[.val (.int p1)] [(.ref w_LEAVE_GROUP)])) _
                        jvm_step X30.here [X30.here.top, hx, (hb hby d1_92), X30.method', Bd.returns, Value.isRef, FieldType.isReference]
                        first | (intro acts; rw [hr _ acts rfl rfl rfl]) | rw [hr _ _ rfl rfl rfl]
                        exact Steps.refl _
                      · show Q_rm1 Z p1 w_PRODUCE w_FETCH w_LIST_OFFSETS w_METADATA w_OFFSET_COMMIT w_OFFSET_FETCH w_FIND_COORDINATOR w_JOIN_GROUP w_HEARTBEAT w_LEAVE_GROUP w_SYNC_GROUP w_API_VERSIONS w_CREATE_TOPICS w_INIT_PRODUCER_ID w_OFFSET_FOR_LEADER_EPOCH w_DESCRIBE_CONFIGS w_ELECT_LEADERS w_ALTER_PARTITION w_BROKER_REGISTRATION w_BROKER_HEARTBEAT w_ALLOCATE_PRODUCER_IDS h0 n0 _ T30.heap _
                        rw [e30]
                        exact ⟨w_LEAVE_GROUP, rfl, N0, rfl, E_w_LEAVE_GROUP, (by rw [own_ff, if_neg hc1_1, if_neg hc10_4, if_neg hc19_7, if_neg hc28_10, if_neg hc37_13, if_neg hc46_16, if_neg hc56_19, if_neg hc66_22, if_neg hc76_25, if_pos hc86_28]; exact F_firstFlexibleVersion_w_LEAVE_GROUP), ⟨fun q => absurd q hne_LEAVE_GROUP, fun q => absurd (q.symm.trans hc86_28) (by decide)⟩⟩
                    · have pre32 : ∀ t, Steps p.tables e below (s₁.setTop (mkF m 96 #[.val (.int p1)] [(.int (10 : Int32)), (.int p1)])) t → Steps p.tables e below (s₁.setTop (entryFrame m #[(.int p1)] 1)) t := fun t kt => by
                        refine pre29 t ?_
                        show Steps p.tables e below (s₁.setTop (mkF m 86 #[.val (.int p1)] [(.int (9 : Int32)), (.int p1)])) _
                        refine XS.icmpYes X0.here hx rfl (pc0 := 86) (pc' := 93) rfl (hb hby d1_86) rfl (feq hc86_28).2 (by decide) (by decide) ?_
                        show Steps p.tables e below (s₁.setTop (mkF m 93 #[.val (.int p1)] [])) _
                        refine XS.iloadN X0.here hx rfl (hb hby d1_93) rfl ?_
                        show Steps p.tables e below (s₁.setTop (mkF m 94 #[.val (.int p1)] [(.int p1)])) _
                        refine XS.bipush X0.here hx rfl (hb hby d1_94) ?_
                        exact kt
                      by_cases hc96_31 : p1 = (10 : Int32)
                      · obtain ⟨T33, X33, e33, st33⟩ := getS2 X0 hx hZ hown (host := "") (Or.inl (hw _ (List.mem_of_getElem? (i := 128) rfl))) Via.refl e0 S_SYNC_GROUP (g := (mkF m 99 #[.val (.int p1)] [])) rfl (hb hby d1_99)
                        obtain ⟨fs, hr, hrun, hended, hW, hsame⟩ := X33.leave (v := some (.ref w_SYNC_GROUP)) (fun h => by rw [Bd.returns] at h; cases h)
                        refine ⟨_, _, pre32 _ ?_, hrun, hended, _, _, rfl, ?_, ⟨_, rfl⟩, hW, hsame.mono (by decide) (by decide)⟩
                        · show Steps p.tables e below (s₁.setTop (mkF m 96 #[.val (.int p1)] [(.int (10 : Int32)), (.int p1)])) _
                          refine XS.icmpNo X0.here hx rfl (hb hby d1_96) rfl (teq hc96_31).2 ?_
                          show Steps p.tables e below (s₁.setTop (mkF m 99 #[.val (.int p1)] [])) _
                          refine st33 _ ?_
                          show Steps p.tables e below (T33.setTop (mkF m 102 #[.val (.int p1)] [(.ref w_SYNC_GROUP)])) _
                          jvm_step X33.here [X33.here.top, hx, (hb hby d1_102), X33.method', Bd.returns, Value.isRef, FieldType.isReference]
                          first | (intro acts; rw [hr _ acts rfl rfl rfl]) | rw [hr _ _ rfl rfl rfl]
                          exact Steps.refl _
                        · show Q_rm1 Z p1 w_PRODUCE w_FETCH w_LIST_OFFSETS w_METADATA w_OFFSET_COMMIT w_OFFSET_FETCH w_FIND_COORDINATOR w_JOIN_GROUP w_HEARTBEAT w_LEAVE_GROUP w_SYNC_GROUP w_API_VERSIONS w_CREATE_TOPICS w_INIT_PRODUCER_ID w_OFFSET_FOR_LEADER_EPOCH w_DESCRIBE_CONFIGS w_ELECT_LEADERS w_ALTER_PARTITION w_BROKER_REGISTRATION w_BROKER_HEARTBEAT w_ALLOCATE_PRODUCER_IDS h0 n0 _ T33.heap _
                          rw [e33]
                          exact ⟨w_SYNC_GROUP, rfl, N0, rfl, E_w_SYNC_GROUP, (by rw [own_ff, if_neg hc1_1, if_neg hc10_4, if_neg hc19_7, if_neg hc28_10, if_neg hc37_13, if_neg hc46_16, if_neg hc56_19, if_neg hc66_22, if_neg hc76_25, if_neg hc86_28, if_pos hc96_31]; exact F_firstFlexibleVersion_w_SYNC_GROUP), ⟨fun q => absurd q hne_SYNC_GROUP, fun q => absurd (q.symm.trans hc96_31) (by decide)⟩⟩
                      · have pre35 : ∀ t, Steps p.tables e below (s₁.setTop (mkF m 106 #[.val (.int p1)] [(.int (11 : Int32)), (.int p1)])) t → Steps p.tables e below (s₁.setTop (entryFrame m #[(.int p1)] 1)) t := fun t kt => by
                          refine pre32 t ?_
                          show Steps p.tables e below (s₁.setTop (mkF m 96 #[.val (.int p1)] [(.int (10 : Int32)), (.int p1)])) _
                          refine XS.icmpYes X0.here hx rfl (pc0 := 96) (pc' := 103) rfl (hb hby d1_96) rfl (feq hc96_31).2 (by decide) (by decide) ?_
                          show Steps p.tables e below (s₁.setTop (mkF m 103 #[.val (.int p1)] [])) _
                          refine XS.iloadN X0.here hx rfl (hb hby d1_103) rfl ?_
                          show Steps p.tables e below (s₁.setTop (mkF m 104 #[.val (.int p1)] [(.int p1)])) _
                          refine XS.bipush X0.here hx rfl (hb hby d1_104) ?_
                          exact kt
                        by_cases hc106_34 : p1 = (11 : Int32)
                        · obtain ⟨T36, X36, e36, st36⟩ := getS2 X0 hx hZ hown (host := "") (Or.inl (hw _ (List.mem_of_getElem? (i := 144) rfl))) Via.refl e0 S_API_VERSIONS (g := (mkF m 109 #[.val (.int p1)] [])) rfl (hb hby d1_109)
                          obtain ⟨fs, hr, hrun, hended, hW, hsame⟩ := X36.leave (v := some (.ref w_API_VERSIONS)) (fun h => by rw [Bd.returns] at h; cases h)
                          refine ⟨_, _, pre35 _ ?_, hrun, hended, _, _, rfl, ?_, ⟨_, rfl⟩, hW, hsame.mono (by decide) (by decide)⟩
                          · show Steps p.tables e below (s₁.setTop (mkF m 106 #[.val (.int p1)] [(.int (11 : Int32)), (.int p1)])) _
                            refine XS.icmpNo X0.here hx rfl (hb hby d1_106) rfl (teq hc106_34).2 ?_
                            show Steps p.tables e below (s₁.setTop (mkF m 109 #[.val (.int p1)] [])) _
                            refine st36 _ ?_
                            show Steps p.tables e below (T36.setTop (mkF m 112 #[.val (.int p1)] [(.ref w_API_VERSIONS)])) _
                            jvm_step X36.here [X36.here.top, hx, (hb hby d1_112), X36.method', Bd.returns, Value.isRef, FieldType.isReference]
                            first | (intro acts; rw [hr _ acts rfl rfl rfl]) | rw [hr _ _ rfl rfl rfl]
                            exact Steps.refl _
                          · show Q_rm1 Z p1 w_PRODUCE w_FETCH w_LIST_OFFSETS w_METADATA w_OFFSET_COMMIT w_OFFSET_FETCH w_FIND_COORDINATOR w_JOIN_GROUP w_HEARTBEAT w_LEAVE_GROUP w_SYNC_GROUP w_API_VERSIONS w_CREATE_TOPICS w_INIT_PRODUCER_ID w_OFFSET_FOR_LEADER_EPOCH w_DESCRIBE_CONFIGS w_ELECT_LEADERS w_ALTER_PARTITION w_BROKER_REGISTRATION w_BROKER_HEARTBEAT w_ALLOCATE_PRODUCER_IDS h0 n0 _ T36.heap _
                            rw [e36]
                            exact ⟨w_API_VERSIONS, rfl, N0, rfl, E_w_API_VERSIONS, (by rw [own_ff, if_neg hc1_1, if_neg hc10_4, if_neg hc19_7, if_neg hc28_10, if_neg hc37_13, if_neg hc46_16, if_neg hc56_19, if_neg hc66_22, if_neg hc76_25, if_neg hc86_28, if_neg hc96_31, if_pos hc106_34]; exact F_firstFlexibleVersion_w_API_VERSIONS), ⟨fun _ => hc106_34, fun _ => rfl⟩⟩
                        · have pre38 : ∀ t, Steps p.tables e below (s₁.setTop (mkF m 116 #[.val (.int p1)] [(.int (12 : Int32)), (.int p1)])) t → Steps p.tables e below (s₁.setTop (entryFrame m #[(.int p1)] 1)) t := fun t kt => by
                            refine pre35 t ?_
                            show Steps p.tables e below (s₁.setTop (mkF m 106 #[.val (.int p1)] [(.int (11 : Int32)), (.int p1)])) _
                            refine XS.icmpYes X0.here hx rfl (pc0 := 106) (pc' := 113) rfl (hb hby d1_106) rfl (feq hc106_34).2 (by decide) (by decide) ?_
                            show Steps p.tables e below (s₁.setTop (mkF m 113 #[.val (.int p1)] [])) _
                            refine XS.iloadN X0.here hx rfl (hb hby d1_113) rfl ?_
                            show Steps p.tables e below (s₁.setTop (mkF m 114 #[.val (.int p1)] [(.int p1)])) _
                            refine XS.bipush X0.here hx rfl (hb hby d1_114) ?_
                            exact kt
                          by_cases hc116_37 : p1 = (12 : Int32)
                          · obtain ⟨T39, X39, e39, st39⟩ := getS2 X0 hx hZ hown (host := "") (Or.inl (hw _ (List.mem_of_getElem? (i := 106) rfl))) Via.refl e0 S_CREATE_TOPICS (g := (mkF m 119 #[.val (.int p1)] [])) rfl (hb hby d1_119)
                            obtain ⟨fs, hr, hrun, hended, hW, hsame⟩ := X39.leave (v := some (.ref w_CREATE_TOPICS)) (fun h => by rw [Bd.returns] at h; cases h)
                            refine ⟨_, _, pre38 _ ?_, hrun, hended, _, _, rfl, ?_, ⟨_, rfl⟩, hW, hsame.mono (by decide) (by decide)⟩
                            · show Steps p.tables e below (s₁.setTop (mkF m 116 #[.val (.int p1)] [(.int (12 : Int32)), (.int p1)])) _
                              refine XS.icmpNo X0.here hx rfl (hb hby d1_116) rfl (teq hc116_37).2 ?_
                              show Steps p.tables e below (s₁.setTop (mkF m 119 #[.val (.int p1)] [])) _
                              refine st39 _ ?_
                              show Steps p.tables e below (T39.setTop (mkF m 122 #[.val (.int p1)] [(.ref w_CREATE_TOPICS)])) _
                              jvm_step X39.here [X39.here.top, hx, (hb hby d1_122), X39.method', Bd.returns, Value.isRef, FieldType.isReference]
                              first | (intro acts; rw [hr _ acts rfl rfl rfl]) | rw [hr _ _ rfl rfl rfl]
                              exact Steps.refl _
                            · show Q_rm1 Z p1 w_PRODUCE w_FETCH w_LIST_OFFSETS w_METADATA w_OFFSET_COMMIT w_OFFSET_FETCH w_FIND_COORDINATOR w_JOIN_GROUP w_HEARTBEAT w_LEAVE_GROUP w_SYNC_GROUP w_API_VERSIONS w_CREATE_TOPICS w_INIT_PRODUCER_ID w_OFFSET_FOR_LEADER_EPOCH w_DESCRIBE_CONFIGS w_ELECT_LEADERS w_ALTER_PARTITION w_BROKER_REGISTRATION w_BROKER_HEARTBEAT w_ALLOCATE_PRODUCER_IDS h0 n0 _ T39.heap _
                              rw [e39]
                              exact ⟨w_CREATE_TOPICS, rfl, N0, rfl, E_w_CREATE_TOPICS, (by rw [own_ff, if_neg hc1_1, if_neg hc10_4, if_neg hc19_7, if_neg hc28_10, if_neg hc37_13, if_neg hc46_16, if_neg hc56_19, if_neg hc66_22, if_neg hc76_25, if_neg hc86_28, if_neg hc96_31, if_neg hc106_34, if_pos hc116_37]; exact F_firstFlexibleVersion_w_CREATE_TOPICS), ⟨fun q => absurd q hne_CREATE_TOPICS, fun q => absurd (q.symm.trans hc116_37) (by decide)⟩⟩
                          · have pre41 : ∀ t, Steps p.tables e below (s₁.setTop (mkF m 126 #[.val (.int p1)] [(.int (13 : Int32)), (.int p1)])) t → Steps p.tables e below (s₁.setTop (entryFrame m #[(.int p1)] 1)) t := fun t kt => by
                              refine pre38 t ?_
                              show Steps p.tables e below (s₁.setTop (mkF m 116 #[.val (.int p1)] [(.int (12 : Int32)), (.int p1)])) _
                              refine XS.icmpYes X0.here hx rfl (pc0 := 116) (pc' := 123) rfl (hb hby d1_116) rfl (feq hc116_37).2 (by decide) (by decide) ?_
                              show Steps p.tables e below (s₁.setTop (mkF m 123 #[.val (.int p1)] [])) _
                              refine XS.iloadN X0.here hx rfl (hb hby d1_123) rfl ?_
                              show Steps p.tables e below (s₁.setTop (mkF m 124 #[.val (.int p1)] [(.int p1)])) _
                              refine XS.bipush X0.here hx rfl (hb hby d1_124) ?_
                              exact kt
                            by_cases hc126_40 : p1 = (13 : Int32)
                            · obtain ⟨T42, X42, e42, st42⟩ := getS2 X0 hx hZ hown (host := "") (Or.inl (hw _ (List.mem_of_getElem? (i := 124) rfl))) Via.refl e0 S_INIT_PRODUCER_ID (g := (mkF m 129 #[.val (.int p1)] [])) rfl (hb hby d1_129)
                              obtain ⟨fs, hr, hrun, hended, hW, hsame⟩ := X42.leave (v := some (.ref w_INIT_PRODUCER_ID)) (fun h => by rw [Bd.returns] at h; cases h)
                              refine ⟨_, _, pre41 _ ?_, hrun, hended, _, _, rfl, ?_, ⟨_, rfl⟩, hW, hsame.mono (by decide) (by decide)⟩
                              · show Steps p.tables e below (s₁.setTop (mkF m 126 #[.val (.int p1)] [(.int (13 : Int32)), (.int p1)])) _
                                refine XS.icmpNo X0.here hx rfl (hb hby d1_126) rfl (teq hc126_40).2 ?_
                                show Steps p.tables e below (s₁.setTop (mkF m 129 #[.val (.int p1)] [])) _
                                refine st42 _ ?_
                                show Steps p.tables e below (T42.setTop (mkF m 132 #[.val (.int p1)] [(.ref w_INIT_PRODUCER_ID)])) _
                                jvm_step X42.here [X42.here.top, hx, (hb hby d1_132), X42.method', Bd.returns, Value.isRef, FieldType.isReference]
                                first | (intro acts; rw [hr _ acts rfl rfl rfl]) | rw [hr _ _ rfl rfl rfl]
                                exact Steps.refl _
                              · show Q_rm1 Z p1 w_PRODUCE w_FETCH w_LIST_OFFSETS w_METADATA w_OFFSET_COMMIT w_OFFSET_FETCH w_FIND_COORDINATOR w_JOIN_GROUP w_HEARTBEAT w_LEAVE_GROUP w_SYNC_GROUP w_API_VERSIONS w_CREATE_TOPICS w_INIT_PRODUCER_ID w_OFFSET_FOR_LEADER_EPOCH w_DESCRIBE_CONFIGS w_ELECT_LEADERS w_ALTER_PARTITION w_BROKER_REGISTRATION w_BROKER_HEARTBEAT w_ALLOCATE_PRODUCER_IDS h0 n0 _ T42.heap _
                                rw [e42]
                                exact ⟨w_INIT_PRODUCER_ID, rfl, N0, rfl, E_w_INIT_PRODUCER_ID, (by rw [own_ff, if_neg hc1_1, if_neg hc10_4, if_neg hc19_7, if_neg hc28_10, if_neg hc37_13, if_neg hc46_16, if_neg hc56_19, if_neg hc66_22, if_neg hc76_25, if_neg hc86_28, if_neg hc96_31, if_neg hc106_34, if_neg hc116_37, if_pos hc126_40]; exact F_firstFlexibleVersion_w_INIT_PRODUCER_ID), ⟨fun q => absurd q hne_INIT_PRODUCER_ID, fun q => absurd (q.symm.trans hc126_40) (by decide)⟩⟩
                            · have pre44 : ∀ t, Steps p.tables e below (s₁.setTop (mkF m 136 #[.val (.int p1)] [(.int (14 : Int32)), (.int p1)])) t → Steps p.tables e below (s₁.setTop (entryFrame m #[(.int p1)] 1)) t := fun t kt => by
                                refine pre41 t ?_
                                show Steps p.tables e below (s₁.setTop (mkF m 126 #[.val (.int p1)] [(.int (13 : Int32)), (.int p1)])) _
                                refine XS.icmpYes X0.here hx rfl (pc0 := 126) (pc' := 133) rfl (hb hby d1_126) rfl (feq hc126_40).2 (by decide) (by decide) ?_
                                show Steps p.tables e below (s₁.setTop (mkF m 133 #[.val (.int p1)] [])) _
                                refine XS.iloadN X0.here hx rfl (hb hby d1_133) rfl ?_
                                show Steps p.tables e below (s₁.setTop (mkF m 134 #[.val (.int p1)] [(.int p1)])) _
                                refine XS.bipush X0.here hx rfl (hb hby d1_134) ?_
                                exact kt
                              by_cases hc136_43 : p1 = (14 : Int32)
                              · obtain ⟨T45, X45, e45, st45⟩ := getS2 X0 hx hZ hown (host := "") (Or.inl (hw _ (List.mem_of_getElem? (i := 114) rfl))) Via.refl e0 S_OFFSET_FOR_LEADER_EPOCH (g := (mkF m 139 #[.val (.int p1)] [])) rfl (hb hby d1_139)
                                obtain ⟨fs, hr, hrun, hended, hW, hsame⟩ := X45.leave (v := some (.ref w_OFFSET_FOR_LEADER_EPOCH)) (fun h => by rw [Bd.returns] at h; cases h)
                                refine ⟨_, _, pre44 _ ?_, hrun, hended, _, _, rfl, ?_, ⟨_, rfl⟩, hW, hsame.mono (by decide) (by decide)⟩
                                · show Steps p.tables e below (s₁.setTop (mkF m 136 #[.val (.int p1)] [(.int (14 : Int32)), (.int p1)])) _
                                  refine XS.icmpNo X0.here hx rfl (hb hby d1_136) rfl (teq hc136_43).2 ?_
                                  show Steps p.tables e below (s₁.setTop (mkF m 139 #[.val (.int p1)] [])) _
                                  refine st45 _ ?_
                                  show Steps p.tables e below (T45.setTop (mkF m 142 #[.val (.int p1)] [(.ref w_OFFSET_FOR_LEADER_EPOCH)])) _
                                  jvm_step X45.here [X45.here.top, hx, (hb hby d1_142), X45.method', Bd.returns, Value.isRef, FieldType.isReference]
                                  first | (intro acts; rw [hr _ acts rfl rfl rfl]) | rw [hr _ _ rfl rfl rfl]
                                  exact Steps.refl _
                                · show Q_rm1 Z p1 w_PRODUCE w_FETCH w_LIST_OFFSETS w_METADATA w_OFFSET_COMMIT w_OFFSET_FETCH w_FIND_COORDINATOR w_JOIN_GROUP w_HEARTBEAT w_LEAVE_GROUP w_SYNC_GROUP w_API_VERSIONS w_CREATE_TOPICS w_INIT_PRODUCER_ID w_OFFSET_FOR_LEADER_EPOCH w_DESCRIBE_CONFIGS w_ELECT_LEADERS w_ALTER_PARTITION w_BROKER_REGISTRATION w_BROKER_HEARTBEAT w_ALLOCATE_PRODUCER_IDS h0 n0 _ T45.heap _
                                  rw [e45]
                                  exact ⟨w_OFFSET_FOR_LEADER_EPOCH, rfl, N0, rfl, E_w_OFFSET_FOR_LEADER_EPOCH, (by rw [own_ff, if_neg hc1_1, if_neg hc10_4, if_neg hc19_7, if_neg hc28_10, if_neg hc37_13, if_neg hc46_16, if_neg hc56_19, if_neg hc66_22, if_neg hc76_25, if_neg hc86_28, if_neg hc96_31, if_neg hc106_34, if_neg hc116_37, if_neg hc126_40, if_pos hc136_43]; exact F_firstFlexibleVersion_w_OFFSET_FOR_LEADER_EPOCH), ⟨fun q => absurd q hne_OFFSET_FOR_LEADER_EPOCH, fun q => absurd (q.symm.trans hc136_43) (by decide)⟩⟩
                              · have pre47 : ∀ t, Steps p.tables e below (s₁.setTop (mkF m 146 #[.val (.int p1)] [(.int (15 : Int32)), (.int p1)])) t → Steps p.tables e below (s₁.setTop (entryFrame m #[(.int p1)] 1)) t := fun t kt => by
                                  refine pre44 t ?_
                                  show Steps p.tables e below (s₁.setTop (mkF m 136 #[.val (.int p1)] [(.int (14 : Int32)), (.int p1)])) _
                                  refine XS.icmpYes X0.here hx rfl (pc0 := 136) (pc' := 143) rfl (hb hby d1_136) rfl (feq hc136_43).2 (by decide) (by decide) ?_
                                  show Steps p.tables e below (s₁.setTop (mkF m 143 #[.val (.int p1)] [])) _
                                  refine XS.iloadN X0.here hx rfl (hb hby d1_143) rfl ?_
                                  show Steps p.tables e below (s₁.setTop (mkF m 144 #[.val (.int p1)] [(.int p1)])) _
                                  refine XS.bipush X0.here hx rfl (hb hby d1_144) ?_
                                  exact kt
                                by_cases hc146_46 : p1 = (15 : Int32)
                                · obtain ⟨T48, X48, e48, st48⟩ := getS2 X0 hx hZ hown (host := "") (Or.inl (hw _ (List.mem_of_getElem? (i := 140) rfl))) Via.refl e0 S_DESCRIBE_CONFIGS (g := (mkF m 149 #[.val (.int p1)] [])) rfl (hb hby d1_149)
                                  obtain ⟨fs, hr, hrun, hended, hW, hsame⟩ := X48.leave (v := some (.ref w_DESCRIBE_CONFIGS)) (fun h => by rw [Bd.returns] at h; cases h)
                                  refine ⟨_, _, pre47 _ ?_, hrun, hended, _, _, rfl, ?_, ⟨_, rfl⟩, hW, hsame.mono (by decide) (by decide)⟩
                                  · show Steps p.tables e below (s₁.setTop (mkF m 146 #[.val (.int p1)] [(.int (15 : Int32)), (.int p1)])) _
                                    refine XS.icmpNo X0.here hx rfl (hb hby d1_146) rfl (teq hc146_46).2 ?_
                                    show Steps p.tables e below (s₁.setTop (mkF m 149 #[.val (.int p1)] [])) _
                                    refine st48 _ ?_
                                    show Steps p.tables e below (T48.setTop (mkF m 152 #[.val (.int p1)] [(.ref w_DESCRIBE_CONFIGS)])) _
                                    jvm_step X48.here [X48.here.top, hx, (hb hby d1_152), X48.method', Bd.returns, Value.isRef, FieldType.isReference]
                                    first | (intro acts; rw [hr _ acts rfl rfl rfl]) | rw [hr _ _ rfl rfl rfl]
                                    exact Steps.refl _
                                  · show Q_rm1 Z p1 w_PRODUCE w_FETCH w_LIST_OFFSETS w_METADATA w_OFFSET_COMMIT w_OFFSET_FETCH w_FIND_COORDINATOR w_JOIN_GROUP w_HEARTBEAT w_LEAVE_GROUP w_SYNC_GROUP w_API_VERSIONS w_CREATE_TOPICS w_INIT_PRODUCER_ID w_OFFSET_FOR_LEADER_EPOCH w_DESCRIBE_CONFIGS w_ELECT_LEADERS w_ALTER_PARTITION w_BROKER_REGISTRATION w_BROKER_HEARTBEAT w_ALLOCATE_PRODUCER_IDS h0 n0 _ T48.heap _
                                    rw [e48]
                                    exact ⟨w_DESCRIBE_CONFIGS, rfl, N0, rfl, E_w_DESCRIBE_CONFIGS, (by rw [own_ff, if_neg hc1_1, if_neg hc10_4, if_neg hc19_7, if_neg hc28_10, if_neg hc37_13, if_neg hc46_16, if_neg hc56_19, if_neg hc66_22, if_neg hc76_25, if_neg hc86_28, if_neg hc96_31, if_neg hc106_34, if_neg hc116_37, if_neg hc126_40, if_neg hc136_43, if_pos hc146_46]; exact F_firstFlexibleVersion_w_DESCRIBE_CONFIGS), ⟨fun q => absurd q hne_DESCRIBE_CONFIGS, fun q => absurd (q.symm.trans hc146_46) (by decide)⟩⟩
                                · have pre50 : ∀ t, Steps p.tables e below (s₁.setTop (mkF m 156 #[.val (.int p1)] [(.int (16 : Int32)), (.int p1)])) t → Steps p.tables e below (s₁.setTop (entryFrame m #[(.int p1)] 1)) t := fun t kt => by
                                    refine pre47 t ?_
                                    show Steps p.tables e below (s₁.setTop (mkF m 146 #[.val (.int p1)] [(.int (15 : Int32)), (.int p1)])) _
                                    refine XS.icmpYes X0.here hx rfl (pc0 := 146) (pc' := 153) rfl (hb hby d1_146) rfl (feq hc146_46).2 (by decide) (by decide) ?_
                                    show Steps p.tables e below (s₁.setTop (mkF m 153 #[.val (.int p1)] [])) _
                                    refine XS.iloadN X0.here hx rfl (hb hby d1_153) rfl ?_
                                    show Steps p.tables e below (s₁.setTop (mkF m 154 #[.val (.int p1)] [(.int p1)])) _
                                    refine XS.bipush X0.here hx rfl (hb hby d1_154) ?_
                                    exact kt
                                  by_cases hc156_49 : p1 = (16 : Int32)
                                  · obtain ⟨T51, X51, e51, st51⟩ := getS2 X0 hx hZ hown (host := "") (Or.inl (hw _ (List.mem_of_getElem? (i := 108) rfl))) Via.refl e0 S_ELECT_LEADERS (g := (mkF m 159 #[.val (.int p1)] [])) rfl (hb hby d1_159)
                                    obtain ⟨fs, hr, hrun, hended, hW, hsame⟩ := X51.leave (v := some (.ref w_ELECT_LEADERS)) (fun h => by rw [Bd.returns] at h; cases h)
                                    refine ⟨_, _, pre50 _ ?_, hrun, hended, _, _, rfl, ?_, ⟨_, rfl⟩, hW, hsame.mono (by decide) (by decide)⟩
                                    · show Steps p.tables e below (s₁.setTop (mkF m 156 #[.val (.int p1)] [(.int (16 : Int32)), (.int p1)])) _
                                      refine XS.icmpNo X0.here hx rfl (hb hby d1_156) rfl (teq hc156_49).2 ?_
                                      show Steps p.tables e below (s₁.setTop (mkF m 159 #[.val (.int p1)] [])) _
                                      refine st51 _ ?_
                                      show Steps p.tables e below (T51.setTop (mkF m 162 #[.val (.int p1)] [(.ref w_ELECT_LEADERS)])) _
                                      jvm_step X51.here [X51.here.top, hx, (hb hby d1_162), X51.method', Bd.returns, Value.isRef, FieldType.isReference]
                                      first | (intro acts; rw [hr _ acts rfl rfl rfl]) | rw [hr _ _ rfl rfl rfl]
                                      exact Steps.refl _
                                    · show Q_rm1 Z p1 w_PRODUCE w_FETCH w_LIST_OFFSETS w_METADATA w_OFFSET_COMMIT w_OFFSET_FETCH w_FIND_COORDINATOR w_JOIN_GROUP w_HEARTBEAT w_LEAVE_GROUP w_SYNC_GROUP w_API_VERSIONS w_CREATE_TOPICS w_INIT_PRODUCER_ID w_OFFSET_FOR_LEADER_EPOCH w_DESCRIBE_CONFIGS w_ELECT_LEADERS w_ALTER_PARTITION w_BROKER_REGISTRATION w_BROKER_HEARTBEAT w_ALLOCATE_PRODUCER_IDS h0 n0 _ T51.heap _
                                      rw [e51]
                                      exact ⟨w_ELECT_LEADERS, rfl, N0, rfl, E_w_ELECT_LEADERS, (by rw [own_ff, if_neg hc1_1, if_neg hc10_4, if_neg hc19_7, if_neg hc28_10, if_neg hc37_13, if_neg hc46_16, if_neg hc56_19, if_neg hc66_22, if_neg hc76_25, if_neg hc86_28, if_neg hc96_31, if_neg hc106_34, if_neg hc116_37, if_neg hc126_40, if_neg hc136_43, if_neg hc146_46, if_pos hc156_49]; exact F_firstFlexibleVersion_w_ELECT_LEADERS), ⟨fun q => absurd q hne_ELECT_LEADERS, fun q => absurd (q.symm.trans hc156_49) (by decide)⟩⟩
                                  · have pre53 : ∀ t, Steps p.tables e below (s₁.setTop (mkF m 166 #[.val (.int p1)] [(.int (17 : Int32)), (.int p1)])) t → Steps p.tables e below (s₁.setTop (entryFrame m #[(.int p1)] 1)) t := fun t kt => by
                                      refine pre50 t ?_
                                      show Steps p.tables e below (s₁.setTop (mkF m 156 #[.val (.int p1)] [(.int (16 : Int32)), (.int p1)])) _
                                      refine XS.icmpYes X0.here hx rfl (pc0 := 156) (pc' := 163) rfl (hb hby d1_156) rfl (feq hc156_49).2 (by decide) (by decide) ?_
                                      show Steps p.tables e below (s₁.setTop (mkF m 163 #[.val (.int p1)] [])) _
                                      refine XS.iloadN X0.here hx rfl (hb hby d1_163) rfl ?_
                                      show Steps p.tables e below (s₁.setTop (mkF m 164 #[.val (.int p1)] [(.int p1)])) _
                                      refine XS.bipush X0.here hx rfl (hb hby d1_164) ?_
                                      exact kt
                                    by_cases hc166_52 : p1 = (17 : Int32)
                                    · obtain ⟨T54, X54, e54, st54⟩ := getS2 X0 hx hZ hown (host := "") (Or.inl (hw _ (List.mem_of_getElem? (i := 132) rfl))) Via.refl e0 S_ALTER_PARTITION (g := (mkF m 169 #[.val (.int p1)] [])) rfl (hb hby d1_169)
                                      obtain ⟨fs, hr, hrun, hended, hW, hsame⟩ := X54.leave (v := some (.ref w_ALTER_PARTITION)) (fun h => by rw [Bd.returns] at h; cases h)
                                      refine ⟨_, _, pre53 _ ?_, hrun, hended, _, _, rfl, ?_, ⟨_, rfl⟩, hW, hsame.mono (by decide) (by decide)⟩
                                      · show Steps p.tables e below (s₁.setTop (mkF m 166 #[.val (.int p1)] [(.int (17 : Int32)), (.int p1)])) _
                                        refine XS.icmpNo X0.here hx rfl (hb hby d1_166) rfl (teq hc166_52).2 ?_
                                        show Steps p.tables e below (s₁.setTop (mkF m 169 #[.val (.int p1)] [])) _
                                        refine st54 _ ?_
                                        show Steps p.tables e below (T54.setTop (mkF m 172 #[.val (.int p1)] [(.ref w_ALTER_PARTITION)])) _
                                        jvm_step X54.here [X54.here.top, hx, (hb hby d1_172), X54.method', Bd.returns, Value.isRef, FieldType.isReference]
                                        first | (intro acts; rw [hr _ acts rfl rfl rfl]) | rw [hr _ _ rfl rfl rfl]
                                        exact Steps.refl _
                                      · show Q_rm1 Z p1 w_PRODUCE w_FETCH w_LIST_OFFSETS w_METADATA w_OFFSET_COMMIT w_OFFSET_FETCH w_FIND_COORDINATOR w_JOIN_GROUP w_HEARTBEAT w_LEAVE_GROUP w_SYNC_GROUP w_API_VERSIONS w_CREATE_TOPICS w_INIT_PRODUCER_ID w_OFFSET_FOR_LEADER_EPOCH w_DESCRIBE_CONFIGS w_ELECT_LEADERS w_ALTER_PARTITION w_BROKER_REGISTRATION w_BROKER_HEARTBEAT w_ALLOCATE_PRODUCER_IDS h0 n0 _ T54.heap _
                                        rw [e54]
                                        exact ⟨w_ALTER_PARTITION, rfl, N0, rfl, E_w_ALTER_PARTITION, (by rw [own_ff, if_neg hc1_1, if_neg hc10_4, if_neg hc19_7, if_neg hc28_10, if_neg hc37_13, if_neg hc46_16, if_neg hc56_19, if_neg hc66_22, if_neg hc76_25, if_neg hc86_28, if_neg hc96_31, if_neg hc106_34, if_neg hc116_37, if_neg hc126_40, if_neg hc136_43, if_neg hc146_46, if_neg hc156_49, if_pos hc166_52]; exact F_firstFlexibleVersion_w_ALTER_PARTITION), ⟨fun q => absurd q hne_ALTER_PARTITION, fun q => absurd (q.symm.trans hc166_52) (by decide)⟩⟩
                                    · have pre56 : ∀ t, Steps p.tables e below (s₁.setTop (mkF m 176 #[.val (.int p1)] [(.int (18 : Int32)), (.int p1)])) t → Steps p.tables e below (s₁.setTop (entryFrame m #[(.int p1)] 1)) t := fun t kt => by
                                        refine pre53 t ?_
                                        show Steps p.tables e below (s₁.setTop (mkF m 166 #[.val (.int p1)] [(.int (17 : Int32)), (.int p1)])) _
                                        refine XS.icmpYes X0.here hx rfl (pc0 := 166) (pc' := 173) rfl (hb hby d1_166) rfl (feq hc166_52).2 (by decide) (by decide) ?_
                                        show Steps p.tables e below (s₁.setTop (mkF m 173 #[.val (.int p1)] [])) _
                                        refine XS.iloadN X0.here hx rfl (hb hby d1_173) rfl ?_
                                        show Steps p.tables e below (s₁.setTop (mkF m 174 #[.val (.int p1)] [(.int p1)])) _
                                        refine XS.bipush X0.here hx rfl (hb hby d1_174) ?_
                                        exact kt
                                      by_cases hc176_55 : p1 = (18 : Int32)
                                      · obtain ⟨T57, X57, e57, st57⟩ := getS2 X0 hx hZ hown (host := "") (Or.inl (hw _ (List.mem_of_getElem? (i := 142) rfl))) Via.refl e0 S_BROKER_REGISTRATION (g := (mkF m 179 #[.val (.int p1)] [])) rfl (hb hby d1_179)
                                        obtain ⟨fs, hr, hrun, hended, hW, hsame⟩ := X57.leave (v := some (.ref w_BROKER_REGISTRATION)) (fun h => by rw [Bd.returns] at h; cases h)
                                        refine ⟨_, _, pre56 _ ?_, hrun, hended, _, _, rfl, ?_, ⟨_, rfl⟩, hW, hsame.mono (by decide) (by decide)⟩
                                        · show Steps p.tables e below (s₁.setTop (mkF m 176 #[.val (.int p1)] [(.int (18 : Int32)), (.int p1)])) _
                                          refine XS.icmpNo X0.here hx rfl (hb hby d1_176) rfl (teq hc176_55).2 ?_
                                          show Steps p.tables e below (s₁.setTop (mkF m 179 #[.val (.int p1)] [])) _
                                          refine st57 _ ?_
                                          show Steps p.tables e below (T57.setTop (mkF m 182 #[.val (.int p1)] [(.ref w_BROKER_REGISTRATION)])) _
                                          jvm_step X57.here [X57.here.top, hx, (hb hby d1_182), X57.method', Bd.returns, Value.isRef, FieldType.isReference]
                                          first | (intro acts; rw [hr _ acts rfl rfl rfl]) | rw [hr _ _ rfl rfl rfl]
                                          exact Steps.refl _
                                        · show Q_rm1 Z p1 w_PRODUCE w_FETCH w_LIST_OFFSETS w_METADATA w_OFFSET_COMMIT w_OFFSET_FETCH w_FIND_COORDINATOR w_JOIN_GROUP w_HEARTBEAT w_LEAVE_GROUP w_SYNC_GROUP w_API_VERSIONS w_CREATE_TOPICS w_INIT_PRODUCER_ID w_OFFSET_FOR_LEADER_EPOCH w_DESCRIBE_CONFIGS w_ELECT_LEADERS w_ALTER_PARTITION w_BROKER_REGISTRATION w_BROKER_HEARTBEAT w_ALLOCATE_PRODUCER_IDS h0 n0 _ T57.heap _
                                          rw [e57]
                                          exact ⟨w_BROKER_REGISTRATION, rfl, N0, rfl, E_w_BROKER_REGISTRATION, (by rw [own_ff, if_neg hc1_1, if_neg hc10_4, if_neg hc19_7, if_neg hc28_10, if_neg hc37_13, if_neg hc46_16, if_neg hc56_19, if_neg hc66_22, if_neg hc76_25, if_neg hc86_28, if_neg hc96_31, if_neg hc106_34, if_neg hc116_37, if_neg hc126_40, if_neg hc136_43, if_neg hc146_46, if_neg hc156_49, if_neg hc166_52, if_pos hc176_55]; exact F_firstFlexibleVersion_w_BROKER_REGISTRATION), ⟨fun q => absurd q hne_BROKER_REGISTRATION, fun q => absurd (q.symm.trans hc176_55) (by decide)⟩⟩
                                      · have pre59 : ∀ t, Steps p.tables e below (s₁.setTop (mkF m 186 #[.val (.int p1)] [(.int (19 : Int32)), (.int p1)])) t → Steps p.tables e below (s₁.setTop (entryFrame m #[(.int p1)] 1)) t := fun t kt => by
                                          refine pre56 t ?_
                                          show Steps p.tables e below (s₁.setTop (mkF m 176 #[.val (.int p1)] [(.int (18 : Int32)), (.int p1)])) _
                                          refine XS.icmpYes X0.here hx rfl (pc0 := 176) (pc' := 183) rfl (hb hby d1_176) rfl (feq hc176_55).2 (by decide) (by decide) ?_
                                          show Steps p.tables e below (s₁.setTop (mkF m 183 #[.val (.int p1)] [])) _
                                          refine XS.iloadN X0.here hx rfl (hb hby d1_183) rfl ?_
                                          show Steps p.tables e below (s₁.setTop (mkF m 184 #[.val (.int p1)] [(.int p1)])) _
                                          refine XS.bipush X0.here hx rfl (hb hby d1_184) ?_
                                          exact kt
                                        by_cases hc186_58 : p1 = (19 : Int32)
                                        · obtain ⟨T60, X60, e60, st60⟩ := getS2 X0 hx hZ hown (host := "") (Or.inl (hw _ (List.mem_of_getElem? (i := 126) rfl))) Via.refl e0 S_BROKER_HEARTBEAT (g := (mkF m 189 #[.val (.int p1)] [])) rfl (hb hby d1_189)
                                          obtain ⟨fs, hr, hrun, hended, hW, hsame⟩ := X60.leave (v := some (.ref w_BROKER_HEARTBEAT)) (fun h => by rw [Bd.returns] at h; cases h)
                                          refine ⟨_, _, pre59 _ ?_, hrun, hended, _, _, rfl, ?_, ⟨_, rfl⟩, hW, hsame.mono (by decide) (by decide)⟩
                                          · show Steps p.tables e below (s₁.setTop (mkF m 186 #[.val (.int p1)] [(.int (19 : Int32)), (.int p1)])) _
                                            refine XS.icmpNo X0.here hx rfl (hb hby d1_186) rfl (teq hc186_58).2 ?_
                                            show Steps p.tables e below (s₁.setTop (mkF m 189 #[.val (.int p1)] [])) _
                                            refine st60 _ ?_
                                            show Steps p.tables e below (T60.setTop (mkF m 192 #[.val (.int p1)] [(.ref w_BROKER_HEARTBEAT)])) _
                                            jvm_step X60.here [X60.here.top, hx, (hb hby d1_192), X60.method', Bd.returns, Value.isRef, FieldType.isReference]
                                            first | (intro acts; rw [hr _ acts rfl rfl rfl]) | rw [hr _ _ rfl rfl rfl]
                                            exact Steps.refl _
                                          · show Q_rm1 Z p1 w_PRODUCE w_FETCH w_LIST_OFFSETS w_METADATA w_OFFSET_COMMIT w_OFFSET_FETCH w_FIND_COORDINATOR w_JOIN_GROUP w_HEARTBEAT w_LEAVE_GROUP w_SYNC_GROUP w_API_VERSIONS w_CREATE_TOPICS w_INIT_PRODUCER_ID w_OFFSET_FOR_LEADER_EPOCH w_DESCRIBE_CONFIGS w_ELECT_LEADERS w_ALTER_PARTITION w_BROKER_REGISTRATION w_BROKER_HEARTBEAT w_ALLOCATE_PRODUCER_IDS h0 n0 _ T60.heap _
                                            rw [e60]
                                            exact ⟨w_BROKER_HEARTBEAT, rfl, N0, rfl, E_w_BROKER_HEARTBEAT, (by rw [own_ff, if_neg hc1_1, if_neg hc10_4, if_neg hc19_7, if_neg hc28_10, if_neg hc37_13, if_neg hc46_16, if_neg hc56_19, if_neg hc66_22, if_neg hc76_25, if_neg hc86_28, if_neg hc96_31, if_neg hc106_34, if_neg hc116_37, if_neg hc126_40, if_neg hc136_43, if_neg hc146_46, if_neg hc156_49, if_neg hc166_52, if_neg hc176_55, if_pos hc186_58]; exact F_firstFlexibleVersion_w_BROKER_HEARTBEAT), ⟨fun q => absurd q hne_BROKER_HEARTBEAT, fun q => absurd (q.symm.trans hc186_58) (by decide)⟩⟩
                                        · obtain ⟨T61, X61, e61, st61⟩ := getS2 X0 hx hZ hown (host := "") (Or.inl (hw _ (List.mem_of_getElem? (i := 138) rfl))) Via.refl e0 S_ALLOCATE_PRODUCER_IDS (g := (mkF m 193 #[.val (.int p1)] [])) rfl (hb hby d1_193)
                                          obtain ⟨fs, hr, hrun, hended, hW, hsame⟩ := X61.leave (v := some (.ref w_ALLOCATE_PRODUCER_IDS)) (fun h => by rw [Bd.returns] at h; cases h)
                                          refine ⟨_, _, pre59 _ ?_, hrun, hended, _, _, rfl, ?_, ⟨_, rfl⟩, hW, hsame.mono (by decide) (by decide)⟩
                                          · show Steps p.tables e below (s₁.setTop (mkF m 186 #[.val (.int p1)] [(.int (19 : Int32)), (.int p1)])) _
                                            refine XS.icmpYes X0.here hx rfl (pc0 := 186) (pc' := 193) rfl (hb hby d1_186) rfl (feq hc186_58).2 (by decide) (by decide) ?_
                                            show Steps p.tables e below (s₁.setTop (mkF m 193 #[.val (.int p1)] [])) _
                                            refine st61 _ ?_
                                            show Steps p.tables e below (T61.setTop (mkF m 196 #[.val (.int p1)] [(.ref w_ALLOCATE_PRODUCER_IDS)])) _
                                            jvm_step X61.here [X61.here.top, hx, (hb hby d1_196), X61.method', Bd.returns, Value.isRef, FieldType.isReference]
                                            first | (intro acts; rw [hr _ acts rfl rfl rfl]) | rw [hr _ _ rfl rfl rfl]
                                            exact Steps.refl _
                                          · show Q_rm1 Z p1 w_PRODUCE w_FETCH w_LIST_OFFSETS w_METADATA w_OFFSET_COMMIT w_OFFSET_FETCH w_FIND_COORDINATOR w_JOIN_GROUP w_HEARTBEAT w_LEAVE_GROUP w_SYNC_GROUP w_API_VERSIONS w_CREATE_TOPICS w_INIT_PRODUCER_ID w_OFFSET_FOR_LEADER_EPOCH w_DESCRIBE_CONFIGS w_ELECT_LEADERS w_ALTER_PARTITION w_BROKER_REGISTRATION w_BROKER_HEARTBEAT w_ALLOCATE_PRODUCER_IDS h0 n0 _ T61.heap _
                                            rw [e61]
                                            exact ⟨w_ALLOCATE_PRODUCER_IDS, rfl, N0, rfl, E_w_ALLOCATE_PRODUCER_IDS, (by rw [own_ff, if_neg hc1_1, if_neg hc10_4, if_neg hc19_7, if_neg hc28_10, if_neg hc37_13, if_neg hc46_16, if_neg hc56_19, if_neg hc66_22, if_neg hc76_25, if_neg hc86_28, if_neg hc96_31, if_neg hc106_34, if_neg hc116_37, if_neg hc126_40, if_neg hc136_43, if_neg hc146_46, if_neg hc156_49, if_neg hc166_52, if_neg hc176_55, if_neg hc186_58]; exact F_firstFlexibleVersion_w_ALLOCATE_PRODUCER_IDS), ⟨fun q => absurd q hne_ALLOCATE_PRODUCER_IDS, fun q => absurd q hc106_34⟩⟩
theorem d3_0 : decode jdk_43_method_3_code 0 = .ok (.iload_n 0, 1) := by decide +kernel
theorem d3_1 : decode jdk_43_method_3_code 1 = .ok (.sipush 255, 3) := by decide +kernel
theorem d3_4 : decode jdk_43_method_3_code 4 = .ok (.if_icmp .gt 7, 3) := by decide +kernel
theorem d3_7 : decode jdk_43_method_3_code 7 = .ok (.iconst 1, 1) := by decide +kernel
theorem d3_8 : decode jdk_43_method_3_code 8 = .ok (.goto 4, 3) := by decide +kernel
theorem d3_12 : decode jdk_43_method_3_code 12 = .ok (.ireturn, 1) := by decide +kernel
theorem pn_java_lang_StringLatin1 : plainName "java/lang/StringLatin1" = true := by first | (simp [plainName, overriddenIn]; done) | decide +kernel
theorem ef_rm3 (m : MethodId) (p1 : Int32) : entryFrame m #[(.int p1)] 1 = mkF m 0 #[.val (.int p1)] [] := by first | (simp [entryFrame, mkF, argsToLocals, Value.category]; done) | rfl
def Q_rm3 (Z : State) (p1 : Int32) (h0 : Heap) (n0 : Nat) (v : Option Value) (h : Heap) (L : List Loc) : Prop := v = some (.int (1 : Int32)) ∧ Fr n0 L ∧ h = h0
set_option maxRecDepth 65536 in
set_option maxHeartbeats 40000000 in
theorem rm3 (l : Launch) (Z : State) (a0 : Array Value) (hw : ∀ d ∈ tables_1, d.before a0 Z = true) (ws : List Jvm.Cond) (p1 : Int32) (h0 : Heap) (n0 : Nat) (Z0 : n0 ≤ h0.size) (h255 : ¬ ((255 : Int32) < p1)) :
    MetFree l (⟨"java/lang/StringLatin1", "canEncode", "(C)Z"⟩ : MethodName) (head1 (Jvm.Cond.code (⟨"java/lang/StringLatin1", "canEncode", "(C)Z"⟩ : MethodName) jdk_43_method_3_code 1 (some .boolean) :: ws) ({ frames := 0, cells := 0, slots := 0, locals := 0 } : Room)) (fun a U => a = #[(.int p1)] ∧ Z.Warmed39 U.vm ∧ U.heap = h0) (fun _ _ _ _ _ => True) (fun _ U o U' => ∃ v L, o = .returned v ∧ Q_rm3 Z p1 h0 n0 v U'.heap L ∧ FrameEnd U o U' L ({ frames := 0, cells := 0, slots := 0, locals := 0 } : Room).cells ({ frames := 0, cells := 0, slots := 0, locals := 0 } : Room).slots) := by
  refine MetFree.of_bodySF (plainFor_of_name pn_java_lang_StringLatin1) hisR ?_
  intro p e s m args below meth c s₁ Bd hml0 hP hK
  obtain ⟨rfl, hZ, hh⟩ := hP
  have hx := Bd.exec
  have hby := Bd.bytes
  have hml : c.maxLocals = 1 := hml0
  have hown : s.vm.findClass "java/lang/StringLatin1" = some m.cls := findClass_of_methodNamed Bd.named
  have hnm := (name_of_methodNamed Bd.named Bd.method).1
  have X0 : Stand p l e ({ frames := 0, cells := 0, slots := 0, locals := 0 } : Room) s m #[(.int p1)] below meth c s₁ [] 0 0 := Stand.of_body Bd
  have e0 : s₁.heap = h0 := by rw [← hh, Bd.state]; rfl
  have N0 := Fr.nil n0
  have pre0 : ∀ t, Steps p.tables e below (s₁.setTop (mkF m 0 #[.val (.int p1)] [])) t → Steps p.tables e below (s₁.setTop (entryFrame m #[(.int p1)] 1)) t := fun t k => castTop (ef_rm3 m p1) k
  obtain ⟨fs, hr, hrun, hended, hW, hsame⟩ := X0.leave (v := some (.int (1 : Int32))) (fun h => by rw [Bd.returns] at h; cases h)
  refine ⟨_, _, pre0 _ ?_, hrun, hended, _, _, rfl, ?_, ⟨_, rfl⟩, hW, hsame.mono (by decide) (by decide)⟩
  · show Steps p.tables e below (s₁.setTop (mkF m 0 #[.val (.int p1)] [])) _
    refine XS.iloadN X0.here hx rfl (hb hby d3_0) rfl ?_
    show Steps p.tables e below (s₁.setTop (mkF m 1 #[.val (.int p1)] [(.int p1)])) _
    refine XS.sipush X0.here hx rfl (hb hby d3_1) ?_
    show Steps p.tables e below (s₁.setTop (mkF m 4 #[.val (.int p1)] [(.int (255 : Int32)), (.int p1)])) _
    refine XS.icmpNo X0.here hx rfl (hb hby d3_4) rfl (flt h255).2.2.1 ?_
    show Steps p.tables e below (s₁.setTop (mkF m 7 #[.val (.int p1)] [])) _
    refine XS.iconst X0.here hx rfl (hb hby d3_7) ?_
    show Steps p.tables e below (s₁.setTop (mkF m 8 #[.val (.int p1)] [(.int (1 : Int32))])) _
    refine XS.goto X0.here hx rfl (pc0 := 8) (pc' := 12) rfl (hb hby d3_8) (by decide) (by decide) ?_
    show Steps p.tables e below (s₁.setTop (mkF m 12 #[.val (.int p1)] [(.int (1 : Int32))])) _
    exact retN X0 hx (t := .boolean) Bd.returns (by simp) (hb hby d3_12) hr
  · show Q_rm3 Z p1 h0 n0 _ s₁.heap _
    rw [e0]
    exact ⟨rfl, N0, rfl⟩
theorem d4_0 : decode jdk_43_method_46_code 0 = .ok (.iconst 1, 1) := by decide +kernel
theorem d4_1 : decode jdk_43_method_46_code 1 = .ok (.newarray .byte, 2) := by decide +kernel
theorem d4_3 : decode jdk_43_method_46_code 3 = .ok (.dup, 1) := by decide +kernel
theorem d4_4 : decode jdk_43_method_46_code 4 = .ok (.iconst 0, 1) := by decide +kernel
theorem d4_5 : decode jdk_43_method_46_code 5 = .ok (.iload_n 0, 1) := by decide +kernel
theorem d4_6 : decode jdk_43_method_46_code 6 = .ok (.i2b, 1) := by decide +kernel
theorem d4_7 : decode jdk_43_method_46_code 7 = .ok (.bastore, 1) := by decide +kernel
theorem d4_8 : decode jdk_43_method_46_code 8 = .ok (.areturn, 1) := by decide +kernel
theorem ef_rm4 (m : MethodId) (p1 : Int32) : entryFrame m #[(.int p1)] 1 = mkF m 0 #[.val (.int p1)] [] := by first | (simp [entryFrame, mkF, argsToLocals, Value.category]; done) | rfl
def Q_rm4 (Z : State) (p1 : Int32) (h0 : Heap) (n0 : Nat) (v : Option Value) (h : Heap) (L : List Loc) : Prop := ∃ r : Addr, v = some (.ref r) ∧ Fr n0 L ∧ Keep h0 h [] ∧ h0.size ≤ r ∧ n0 ≤ r
set_option maxRecDepth 65536 in
set_option maxHeartbeats 40000000 in
theorem rm4 (l : Launch) (Z : State) (a0 : Array Value) (hw : ∀ d ∈ tables_1, d.before a0 Z = true) (ws : List Jvm.Cond) (p1 : Int32) (h0 : Heap) (n0 : Nat) (Z0 : n0 ≤ h0.size) :
    MetFree l (⟨"java/lang/StringLatin1", "toBytes", "(C)[B"⟩ : MethodName) (head1 (Jvm.Cond.code (⟨"java/lang/StringLatin1", "toBytes", "(C)[B"⟩ : MethodName) jdk_43_method_46_code 1 (some (.array .byte)) :: ws) ({ frames := 0, cells := 1, slots := 1, locals := 0 } : Room)) (fun a U => a = #[(.int p1)] ∧ Z.Warmed39 U.vm ∧ U.heap = h0) (fun _ _ _ _ _ => True) (fun _ U o U' => ∃ v L, o = .returned v ∧ Q_rm4 Z p1 h0 n0 v U'.heap L ∧ FrameEnd U o U' L ({ frames := 0, cells := 1, slots := 1, locals := 0 } : Room).cells ({ frames := 0, cells := 1, slots := 1, locals := 0 } : Room).slots) := by
  refine MetFree.of_bodySF (plainFor_of_name pn_java_lang_StringLatin1) hisR ?_
  intro p e s m args below meth c s₁ Bd hml0 hP hK
  obtain ⟨rfl, hZ, hh⟩ := hP
  have hx := Bd.exec
  have hby := Bd.bytes
  have hml : c.maxLocals = 1 := hml0
  have hown : s.vm.findClass "java/lang/StringLatin1" = some m.cls := findClass_of_methodNamed Bd.named
  have hnm := (name_of_methodNamed Bd.named Bd.method).1
  have X0 : Stand p l e ({ frames := 0, cells := 1, slots := 1, locals := 0 } : Room) s m #[(.int p1)] below meth c s₁ [] 0 0 := Stand.of_body Bd
  have e0 : s₁.heap = h0 := by rw [← hh, Bd.state]; rfl
  have N0 := Fr.nil n0
  have pre0 : ∀ t, Steps p.tables e below (s₁.setTop (mkF m 0 #[.val (.int p1)] [])) t → Steps p.tables e below (s₁.setTop (entryFrame m #[(.int p1)] 1)) t := fun t k => castTop (ef_rm4 m p1) k
  obtain ⟨T1, h1, k1, X1, e1, E1, A1, st1⟩ := newP X0 hx hZ (hw _ (List.mem_of_getElem? (i := 22) rfl)) e0 (g := (mkF m 1 #[.val (.int p1)] [(.int (1 : Int32))])) rfl (hb hby d4_1) rfl (by decide) (cap := 1) (by decide) (by decide) (by decide) (by decide)
  obtain ⟨b1, g1⟩ : ∃ z, z = h0.size := ⟨_, rfl⟩
  rw [← g1] at A1 st1
  have g_b1 : n0 ≤ b1 := Nat.le_trans Z0 (Nat.le_of_eq g1.symm)
  have sz_b1 : h0.size ≤ b1 := Nat.le_trans (Keep.refl h0 []).1 (Nat.le_of_eq g1.symm)
  have K2 : Keep h0 h1 [] := (Keep.refl h0 []).ext E1
  have V_b1 : Arv Z h1 b1 k1 .byte (1 : Int32) [(.int (0 : Int32))] (.int (0 : Int32)) := (Arv.new A1 (by decide)).pad (pad_rep [] (.int (0 : Int32)) 1)
  obtain ⟨c3, Ac3, qc3, Sc3, Nc3, Hc3, Gc3⟩ := id V_b1
  obtain ⟨T4, h4, X4, e4, W4, st4⟩ := stB X1 hx hZ e1 Ac3 (j := (0 : Int32)) (inb_of Sc3 ⟨by decide, by decide⟩) (g := (mkF m 7 #[.val (.int p1)] [(.int (p1.toInt8.toInt32)), (.int (0 : Int32)), (.ref b1), (.ref b1)])) rfl rfl (hb hby d4_7)
  have K5 : Keep h0 h4 [] := K2.wr W4 (Or.inr sz_b1)
  have N6 := Fr.snoc X4 N0 g_b1
  have Vw4 := Arv.set Ac3 qc3 Sc3 Nc3 Hc3 Gc3 (fits_nar_byte _) W4 0 rfl (Nat.le_of_ble_eq_true rfl)
  change Arv Z h4 b1 k1 .byte (1 : Int32) [(.int ((p1.toInt8.toInt32)).toInt8.toInt32)] (.int (0 : Int32)) at Vw4
  obtain ⟨fs, hr, hrun, hended, hW, hsame⟩ := X4.leave (v := some (.ref b1)) (fun h => by rw [Bd.returns] at h; cases h)
  refine ⟨_, _, pre0 _ ?_, hrun, hended, _, _, rfl, ?_, ⟨_, rfl⟩, hW, hsame.mono (by decide) (by decide)⟩
  · show Steps p.tables e below (s₁.setTop (mkF m 0 #[.val (.int p1)] [])) _
    refine XS.iconst X0.here hx rfl (hb hby d4_0) ?_
    show Steps p.tables e below (s₁.setTop (mkF m 1 #[.val (.int p1)] [(.int (1 : Int32))])) _
    refine st1 _ ?_
    show Steps p.tables e below (T1.setTop (mkF m 3 #[.val (.int p1)] [(.ref b1)])) _
    refine XS.dup X1.here hx rfl (hb hby d4_3) rfl rfl ?_
    show Steps p.tables e below (T1.setTop (mkF m 4 #[.val (.int p1)] [(.ref b1), (.ref b1)])) _
    refine XS.iconst X1.here hx rfl (hb hby d4_4) ?_
    show Steps p.tables e below (T1.setTop (mkF m 5 #[.val (.int p1)] [(.int (0 : Int32)), (.ref b1), (.ref b1)])) _
    refine XS.iloadN X1.here hx rfl (hb hby d4_5) rfl ?_
    show Steps p.tables e below (T1.setTop (mkF m 6 #[.val (.int p1)] [(.int p1), (.int (0 : Int32)), (.ref b1), (.ref b1)])) _
    refine XS.i2b X1.here hx rfl (hb hby d4_6) rfl ?_
    show Steps p.tables e below (T1.setTop (mkF m 7 #[.val (.int p1)] [(.int (p1.toInt8.toInt32)), (.int (0 : Int32)), (.ref b1), (.ref b1)])) _
    refine st4 _ ?_
    show Steps p.tables e below (T4.setTop (mkF m 8 #[.val (.int p1)] [(.ref b1)])) _
    jvm_step X4.here [X4.here.top, hx, (hb hby d4_8), X4.method', Bd.returns, Value.isRef, FieldType.isReference]
    first | (intro acts; rw [hr _ acts rfl rfl rfl]) | rw [hr _ _ rfl rfl rfl]
    exact Steps.refl _
  · show Q_rm4 Z p1 h0 n0 _ T4.heap _
    rw [e4]
    exact ⟨b1, rfl, N6, K5, sz_b1, g_b1⟩
theorem d5_0 : decode jdk_42_method_151_code 0 = .ok (.aload_n 0, 1) := by decide +kernel
theorem d5_1 : decode jdk_42_method_151_code 1 = .ok (.invokespecial 1, 3) := by decide +kernel
theorem d5_4 : decode jdk_42_method_151_code 4 = .ok (.aload_n 0, 1) := by decide +kernel
theorem d5_5 : decode jdk_42_method_151_code 5 = .ok (.aload_n 1, 1) := by decide +kernel
theorem d5_6 : decode jdk_42_method_151_code 6 = .ok (.putfield 9, 3) := by decide +kernel
theorem d5_9 : decode jdk_42_method_151_code 9 = .ok (.aload_n 0, 1) := by decide +kernel
theorem d5_10 : decode jdk_42_method_151_code 10 = .ok (.iload_n 2, 1) := by decide +kernel
theorem d5_11 : decode jdk_42_method_151_code 11 = .ok (.putfield 15, 3) := by decide +kernel
theorem d5_14 : decode jdk_42_method_151_code 14 = .ok (.return_, 1) := by decide +kernel
theorem pn_java_lang_String : plainName "java/lang/String" = true := by first | (simp [plainName, overriddenIn]; done) | decide +kernel
theorem ef_rm5 (m : MethodId) (a1 : Addr) (a2 : Addr) : entryFrame m #[(.ref a1), (.ref a2), (.int (0 : Int32))] 3 = mkF m 0 #[.val (.ref a1), .val (.ref a2), .val (.int (0 : Int32))] [] := by first | (simp [entryFrame, mkF, argsToLocals, Value.category]; done) | rfl
def Q_rm5 (Z : State) (a1 : Addr) (a2 : Addr) (u1 : Value) (u2 : Value) (h0 : Heap) (n0 : Nat) (v : Option Value) (h : Heap) (L : List Loc) : Prop := v = none ∧ Fr n0 L ∧ Keep h0 h [a1] ∧ Exa Z h a1 "java/lang/String"
set_option maxRecDepth 65536 in
set_option maxHeartbeats 40000000 in
theorem rm5 (l : Launch) (Z : State) (a0 : Array Value) (hw : ∀ d ∈ tables_1, d.before a0 Z = true) (ws : List Jvm.Cond) (a1 : Addr) (a2 : Addr) (u1 : Value) (u2 : Value) (h0 : Heap) (n0 : Nat) (Z0 : n0 ≤ h0.size) (E_a1 : Exa Z h0 a1 "java/lang/String") (F_value_a1 : Fld Z h0 a1 "java/lang/String" "value" "[B" u1) (F_coder_a1 : Fld Z h0 a1 "java/lang/String" "coder" "B" u2) (g_a1 : n0 ≤ a1) :
    MetFree l (⟨"java/lang/String", "<init>", "([BB)V"⟩ : MethodName) (head1 (Jvm.Cond.code (⟨"java/lang/String", "<init>", "([BB)V"⟩ : MethodName) jdk_42_method_151_code 3 none :: ws) ({ frames := 1, cells := 0, slots := 0, locals := 12 } : Room)) (fun a U => a = #[(.ref a1), (.ref a2), (.int (0 : Int32))] ∧ Z.Warmed39 U.vm ∧ U.heap = h0) (fun _ _ _ _ _ => True) (fun _ U o U' => ∃ v L, o = .returned v ∧ Q_rm5 Z a1 a2 u1 u2 h0 n0 v U'.heap L ∧ FrameEnd U o U' L ({ frames := 1, cells := 0, slots := 0, locals := 12 } : Room).cells ({ frames := 1, cells := 0, slots := 0, locals := 12 } : Room).slots) := by
  refine MetFree.of_bodySF (plainFor_of_name pn_java_lang_String) hisR ?_
  intro p e s m args below meth c s₁ Bd hml0 hP hK
  obtain ⟨rfl, hZ, hh⟩ := hP
  have hx := Bd.exec
  have hby := Bd.bytes
  have hml : c.maxLocals = 3 := hml0
  have hown : s.vm.findClass "java/lang/String" = some m.cls := findClass_of_methodNamed Bd.named
  have hnm := (name_of_methodNamed Bd.named Bd.method).1
  have X0 : Stand p l e ({ frames := 1, cells := 0, slots := 0, locals := 12 } : Room) s m #[(.ref a1), (.ref a2), (.int (0 : Int32))] below meth c s₁ [] 0 0 := Stand.of_body Bd
  have e0 : s₁.heap = h0 := by rw [← hh, Bd.state]; rfl
  have N0 := Fr.nil n0
  have pre0 : ∀ t, Steps p.tables e below (s₁.setTop (mkF m 0 #[.val (.ref a1), .val (.ref a2), .val (.int (0 : Int32))] [])) t → Steps p.tables e below (s₁.setTop (entryFrame m #[(.ref a1), (.ref a2), (.int (0 : Int32))] 3)) t := fun t k => castTop (ef_rm5 m a1 a2) k
  obtain ⟨T1, X1, e1, st1⟩ := initO X0 hx hZ hown (hw _ (List.mem_of_getElem? (i := 27) rfl)) (hw _ (List.mem_of_getElem? (i := 28) rfl)) (hw _ (List.mem_of_getElem? (i := 29) rfl)) e0 (g := (mkF m 1 #[.val (.ref a1), .val (.ref a2), .val (.int (0 : Int32))] [(.ref a1)])) rfl (by rw [hml]; rfl) rfl (hb hby d5_1) (by decide) (W := 0) (by show 2 * 0 + _ ≤ _; exact Nat.le_of_eq rfl) (by decide)
  obtain ⟨T2, h2, X2, e2, W2, st2⟩ := putF X1 hx hZ hown (host := "") (Or.inl (hw _ (List.mem_of_getElem? (i := 30) rfl))) Via.refl e1 F_value_a1 E_a1 (Or.inr ⟨(hw _ (List.mem_of_getElem? (i := 31) rfl)), rfl, hnm⟩) (hw _ (List.mem_of_getElem? (i := 18) rfl)) (ty := (.array .byte)) (by decide) rfl rfl (g := (mkF m 6 #[.val (.ref a1), .val (.ref a2), .val (.int (0 : Int32))] [(.ref a2), (.ref a1)])) rfl rfl (hb hby d5_6)
  have K3 : Keep h0 h2 [a1] := (Keep.refl h0 [a1]).wr W2 (Or.inl (List.mem_of_getElem? (i := 0) rfl))
  have N4 := Fr.snoc X2 N0 g_a1
  have Fw2 := F_value_a1.same W2
  have f5 : Fld Z h2 a1 "java/lang/String" "coder" "B" u2 := (F_coder_a1.other W2 (Or.inr (slot_ne (Or.inr (hw _ (List.mem_of_getElem? (i := 33) rfl))) (Or.inr (hw _ (List.mem_of_getElem? (i := 31) rfl))) (by decide) (t := .byte) (t' := (.array .byte)) (by decide) (by decide))))
  have f6 : Exa Z h2 a1 "java/lang/String" := (E_a1.wr W2)
  obtain ⟨T7, h7, X7, e7, W7, st7⟩ := putFN X2 hx hZ hown (hw _ (List.mem_of_getElem? (i := 32) rfl)) Via.refl e2 f5 f6 (Or.inr ⟨(hw _ (List.mem_of_getElem? (i := 33) rfl)), rfl, hnm⟩) (hw _ (List.mem_of_getElem? (i := 18) rfl)) (ty := .byte) (v' := (.int (0 : Int32))) (by decide) rfl (by decide) (g := (mkF m 11 #[.val (.ref a1), .val (.ref a2), .val (.int (0 : Int32))] [(.int (0 : Int32)), (.ref a1)])) rfl rfl (hb hby d5_11)
  have K8 : Keep h0 h7 [a1] := K3.wr W7 (Or.inl (List.mem_of_getElem? (i := 0) rfl))
  have N9 := Fr.snoc X7 N4 g_a1
  have Fw7 := f5.same W7
  have f10 : Exa Z h7 a1 "java/lang/String" := (f6.wr W7)
  obtain ⟨fs, hr, hrun, hended, hW, hsame⟩ := X7.leave (v := none) (fun _ => rfl)
  refine ⟨_, _, pre0 _ ?_, hrun, hended, _, _, rfl, ?_, ⟨_, rfl⟩, hW, hsame.mono (by decide) (by decide)⟩
  · show Steps p.tables e below (s₁.setTop (mkF m 0 #[.val (.ref a1), .val (.ref a2), .val (.int (0 : Int32))] [])) _
    refine XS.aloadN X0.here hx rfl (hb hby d5_0) rfl rfl ?_
    show Steps p.tables e below (s₁.setTop (mkF m 1 #[.val (.ref a1), .val (.ref a2), .val (.int (0 : Int32))] [(.ref a1)])) _
    refine st1 _ ?_
    show Steps p.tables e below (T1.setTop (mkF m 4 #[.val (.ref a1), .val (.ref a2), .val (.int (0 : Int32))] [])) _
    refine XS.aloadN X1.here hx rfl (hb hby d5_4) rfl rfl ?_
    show Steps p.tables e below (T1.setTop (mkF m 5 #[.val (.ref a1), .val (.ref a2), .val (.int (0 : Int32))] [(.ref a1)])) _
    refine XS.aloadN X1.here hx rfl (hb hby d5_5) rfl rfl ?_
    show Steps p.tables e below (T1.setTop (mkF m 6 #[.val (.ref a1), .val (.ref a2), .val (.int (0 : Int32))] [(.ref a2), (.ref a1)])) _
    refine st2 _ ?_
    show Steps p.tables e below (T2.setTop (mkF m 9 #[.val (.ref a1), .val (.ref a2), .val (.int (0 : Int32))] [])) _
    refine XS.aloadN X2.here hx rfl (hb hby d5_9) rfl rfl ?_
    show Steps p.tables e below (T2.setTop (mkF m 10 #[.val (.ref a1), .val (.ref a2), .val (.int (0 : Int32))] [(.ref a1)])) _
    refine XS.iloadN X2.here hx rfl (hb hby d5_10) rfl ?_
    show Steps p.tables e below (T2.setTop (mkF m 11 #[.val (.ref a1), .val (.ref a2), .val (.int (0 : Int32))] [(.int (0 : Int32)), (.ref a1)])) _
    refine st7 _ ?_
    show Steps p.tables e below (T7.setTop (mkF m 14 #[.val (.ref a1), .val (.ref a2), .val (.int (0 : Int32))] [])) _
    exact X7.returnOut hx Bd.returns (hb hby d5_14) hr
  · show Q_rm5 Z a1 a2 u1 u2 h0 n0 _ T7.heap _
    rw [e7]
    exact ⟨rfl, N9, K8, f10⟩
theorem d2_0 : decode jdk_42_method_139_code 0 = .ok (.getstatic 38, 3) := by decide +kernel
theorem d2_3 : decode jdk_42_method_139_code 3 = .ok (.ifCond .eq 23, 3) := by decide +kernel
theorem d2_6 : decode jdk_42_method_139_code 6 = .ok (.iload_n 0, 1) := by decide +kernel
theorem pd__28C_29Z : parseMethodDescriptor "(C)Z" = some ⟨[.char], some .boolean⟩ := by decide +kernel
theorem d2_7 : decode jdk_42_method_139_code 7 = .ok (.invokestatic 1015, 3) := by decide +kernel
theorem d2_10 : decode jdk_42_method_139_code 10 = .ok (.ifCond .eq 16, 3) := by decide +kernel
theorem d2_13 : decode jdk_42_method_139_code 13 = .ok (.new 10, 3) := by decide +kernel
theorem d2_16 : decode jdk_42_method_139_code 16 = .ok (.dup, 1) := by decide +kernel
theorem d2_17 : decode jdk_42_method_139_code 17 = .ok (.iload_n 0, 1) := by decide +kernel
theorem pd__28C_29_5bB : parseMethodDescriptor "(C)[B" = some ⟨[.char], some (.array .byte)⟩ := by decide +kernel
theorem d2_18 : decode jdk_42_method_139_code 18 = .ok (.invokestatic 1018, 3) := by decide +kernel
theorem d2_21 : decode jdk_42_method_139_code 21 = .ok (.iconst 0, 1) := by decide +kernel
theorem pd__28_5bBB_29V : parseMethodDescriptor "([BB)V" = some ⟨[(.array .byte), .byte], none⟩ := by decide +kernel
theorem d2_22 : decode jdk_42_method_139_code 22 = .ok (.invokespecial 209, 3) := by decide +kernel
theorem d2_25 : decode jdk_42_method_139_code 25 = .ok (.areturn, 1) := by decide +kernel
theorem ef_rm2 (m : MethodId) (p1 : Int32) : entryFrame m #[(.int p1)] 1 = mkF m 0 #[.val (.int p1)] [] := by first | (simp [entryFrame, mkF, argsToLocals, Value.category]; done) | rfl
def Q_rm2 (Z : State) (p1 : Int32) (cs : Int32) (h0 : Heap) (n0 : Nat) (v : Option Value) (h : Heap) (L : List Loc) : Prop := ∃ r : Addr, v = some (.ref r) ∧ Fr n0 L ∧ Keep h0 h [] ∧ h0.size ≤ r ∧ Exa Z h r "java/lang/String"
set_option maxRecDepth 65536 in
set_option maxHeartbeats 40000000 in
theorem rm2 (l : Launch) (Z : State) (a0 : Array Value) (hw : ∀ d ∈ tables_1, d.before a0 Z = true) (ws : List Jvm.Cond) (p1 : Int32) (cs : Int32) (h0 : Heap) (n0 : Nat) (Z0 : n0 ≤ h0.size) (S_COMPACT_STRINGS : Sta Z h0 "java/lang/String" "COMPACT_STRINGS" "Z" (.int cs)) (hcs : ¬ (cs = (0 : Int32))) (h255 : ¬ ((255 : Int32) < p1)) :
    MetFree l (⟨"java/lang/String", "valueOf", "(C)Ljava/lang/String;"⟩ : MethodName) (head1 (Jvm.Cond.code (⟨"java/lang/String", "valueOf", "(C)Ljava/lang/String;"⟩ : MethodName) jdk_42_method_139_code 1 (some (.object "java/lang/String")) :: ws) ({ frames := 2, cells := 2, slots := 5, locals := 27 } : Room)) (fun a U => a = #[(.int p1)] ∧ Z.Warmed39 U.vm ∧ U.heap = h0) (fun _ _ _ _ _ => True) (fun _ U o U' => ∃ v L, o = .returned v ∧ Q_rm2 Z p1 cs h0 n0 v U'.heap L ∧ FrameEnd U o U' L ({ frames := 2, cells := 2, slots := 5, locals := 27 } : Room).cells ({ frames := 2, cells := 2, slots := 5, locals := 27 } : Room).slots) := by
  refine MetFree.of_bodySF (plainFor_of_name pn_java_lang_String) hisR ?_
  intro p e s m args below meth c s₁ Bd hml0 hP hK
  obtain ⟨rfl, hZ, hh⟩ := hP
  have hx := Bd.exec
  have hby := Bd.bytes
  have hml : c.maxLocals = 1 := hml0
  have hown : s.vm.findClass "java/lang/String" = some m.cls := findClass_of_methodNamed Bd.named
  have hnm := (name_of_methodNamed Bd.named Bd.method).1
  have X0 : Stand p l e ({ frames := 2, cells := 2, slots := 5, locals := 27 } : Room) s m #[(.int p1)] below meth c s₁ [] 0 0 := Stand.of_body Bd
  have e0 : s₁.heap = h0 := by rw [← hh, Bd.state]; rfl
  have N0 := Fr.nil n0
  have pre0 : ∀ t, Steps p.tables e below (s₁.setTop (mkF m 0 #[.val (.int p1)] [])) t → Steps p.tables e below (s₁.setTop (entryFrame m #[(.int p1)] 1)) t := fun t k => castTop (ef_rm2 m p1) k
  obtain ⟨T1, X1, e1, st1⟩ := getS2 X0 hx hZ hown (host := "") (Or.inl (hw _ (List.mem_of_getElem? (i := 12) rfl))) Via.refl e0 S_COMPACT_STRINGS (g := (mkF m 0 #[.val (.int p1)] [])) rfl (hb hby d2_0)
  obtain ⟨_, _, ⟨T2, L2, k2, n2⟩, -, X2, ⟨Lc2, hQ2, l2, y2, z2⟩, st2⟩ := Jvm.LawKit.callS X1 hx (y := (⟨"java/lang/StringLatin1", "canEncode", "(C)Z"⟩ : MethodName)) hown (mvT hZ (hw _ (List.mem_of_getElem? (i := 13) rfl))) (mvT hZ (hw _ (List.mem_of_getElem? (i := 14) rfl))) (mvT hZ (hw _ (List.mem_of_getElem? (i := 15) rfl))) (mvT hZ (hw _ (List.mem_of_getElem? (i := 16) rfl))) (by decide) (backOf (W := 0) (rm3 l Z a0 hw [] p1 h0 n0 Z0 h255) hZ (hw _ (List.mem_of_getElem? (i := 16) rfl)) (hw _ (List.mem_of_getElem? (i := 15) rfl)) (by decide) (by decide)) (g := (mkF m 7 #[.val (.int p1)] [(.int p1)])) rfl (by rw [hml]; rfl) (argsL := [(.int p1)]) (rest := []) (lenOf pd__28C_29Z rfl) rfl (by show 2 * 0 + _ ≤ _; exact Nat.le_of_eq rfl) (hb hby d2_7) (fun _ _ => ⟨rfl, e1, (by decide : 0 + 0 ≤ _), (by decide : 0 + 0 ≤ _)⟩)
  dsimp only [Pt.U, Pt.locs, Pt.cells, Pt.slots] at y2 z2 st2 hQ2
  change Stand p l e _ s m _ below meth c T2 L2 k2 n2 at X2
  change L2 = _ ++ Lc2 at l2
  subst y2 z2
  obtain ⟨rfl, N2q, e2⟩ := hQ2
  have N2 : Fr n0 L2 := l2 ▸ Fr.app N0 N2q
  obtain ⟨T3, h3, X3, e3, E3, A3, D3, -, st3⟩ := newO X2 hx hZ hown (hw _ (List.mem_of_getElem? (i := 17) rfl)) (hw _ (List.mem_of_getElem? (i := 18) rfl)) (hw _ (List.mem_of_getElem? (i := 10) rfl)) e2 (g := (mkF m 13 #[.val (.int p1)] [])) rfl (hb hby d2_13) (by decide) (by decide)
  obtain ⟨b3, g3⟩ : ∃ z, z = h0.size := ⟨_, rfl⟩
  rw [← g3] at A3 D3 st3
  have g_b3 : n0 ≤ b3 := Nat.le_trans Z0 (Nat.le_of_eq g3.symm)
  have sz_b3 : h0.size ≤ b3 := Nat.le_trans (Keep.refl h0 []).1 (Nat.le_of_eq g3.symm)
  have K4 : Keep h0 h3 [] := (Keep.refl h0 []).ext E3
  have F_value_b3 : Fld Z h3 b3 "java/lang/String" "value" "[B" .null := D3 (Or.inr (hw _ (List.mem_of_getElem? (i := 31) rfl))) (ty := (.array .byte)) (by decide)
  have F_coder_b3 : Fld Z h3 b3 "java/lang/String" "coder" "B" (.int (0 : Int32)) := D3 (Or.inr (hw _ (List.mem_of_getElem? (i := 33) rfl))) (ty := .byte) (by decide)
  obtain ⟨_, _, ⟨T5, L5, k5, n5⟩, -, X5, ⟨Lc5, hQ5, l5, y5, z5⟩, st5⟩ := Jvm.LawKit.callS X3 hx (y := (⟨"java/lang/StringLatin1", "toBytes", "(C)[B"⟩ : MethodName)) hown (mvT hZ (hw _ (List.mem_of_getElem? (i := 19) rfl))) (mvT hZ (hw _ (List.mem_of_getElem? (i := 20) rfl))) (mvT hZ (hw _ (List.mem_of_getElem? (i := 15) rfl))) (mvT hZ (hw _ (List.mem_of_getElem? (i := 21) rfl))) (by decide) (backOf (W := 2) (rm4 l Z a0 hw [] p1 h3 n0 (Nat.le_trans Z0 K4.1) ) hZ (hw _ (List.mem_of_getElem? (i := 21) rfl)) (hw _ (List.mem_of_getElem? (i := 15) rfl)) (by decide) (by decide)) (g := (mkF m 18 #[.val (.int p1)] [(.int p1), (.ref b3), (.ref b3)])) rfl (by rw [hml]; rfl) (argsL := [(.int p1)]) (rest := [(.ref b3), (.ref b3)]) (lenOf pd__28C_29_5bB rfl) rfl (by show 2 * 0 + _ ≤ _; exact Nat.le_of_eq rfl) (hb hby d2_18) (fun _ _ => ⟨rfl, e3, (by decide : 1 + 1 ≤ _), (by decide : 4 + 1 ≤ _)⟩)
  dsimp only [Pt.U, Pt.locs, Pt.cells, Pt.slots] at y5 z5 st5 hQ5
  change Stand p l e _ s m _ below meth c T5 L5 k5 n5 at X5
  change L5 = _ ++ Lc5 at l5
  subst y5 z5
  obtain ⟨r_5, rfl, N5q, K5q, t5_0, t5_1⟩ := hQ5
  have N5 : Fr n0 L5 := l5 ▸ Fr.app N2 N5q
  have K5 : Keep h0 T5.heap [] := K4.trans K5q all0
  have ne_b3_r_5 : b3 ≠ r_5 := Nat.ne_of_lt (Nat.lt_of_lt_of_le A3.lt t5_0)
  have sz_r_5 : h0.size ≤ r_5 := Nat.le_trans K4.1 t5_0
  have f6 : Exa Z T5.heap b3 "java/lang/String" := (A3.keep K5q)
  have f7 : Fld Z T5.heap b3 "java/lang/String" "value" "[B" .null := (F_value_b3.keep K5q nin0)
  have f8 : Fld Z T5.heap b3 "java/lang/String" "coder" "B" (.int (0 : Int32)) := (F_coder_b3.keep K5q nin0)
  obtain ⟨_, _, ⟨T9, L9, k9, n9⟩, -, X9, ⟨Lc9, hQ9, l9, y9, z9⟩, st9⟩ := X5.specialBack hx (y := (⟨"java/lang/String", "<init>", "([BB)V"⟩ : MethodName)) rfl hown (mvT hZ (hw _ (List.mem_of_getElem? (i := 23) rfl))) (mvT hZ (hw _ (List.mem_of_getElem? (i := 24) rfl))) (mvT hZ (hw _ (List.mem_of_getElem? (i := 26) rfl))) (by decide) (backOf (W := 1) (rm5 l Z a0 hw [] b3 r_5 .null (.int (0 : Int32)) T5.heap n0 (Nat.le_trans Z0 K5.1) f6 f7 f8 g_b3) hZ (hw _ (List.mem_of_getElem? (i := 26) rfl)) (hw _ (List.mem_of_getElem? (i := 10) rfl)) (by decide) (by decide)) (g := (mkF m 22 #[.val (.int p1)] [(.int (0 : Int32)), (.ref r_5), (.ref b3), (.ref b3)])) rfl (by rw [hml]; rfl) (Steps.refl _) (a := b3) (argsL := [(.ref r_5), (.int (0 : Int32))]) (rest := [(.ref b3)]) (lenOf pd__28_5bBB_29V rfl) rfl (by show 2 * 0 + _ ≤ _; exact Nat.le_of_eq rfl) (hb hby d2_22) (fun _ _ => ⟨rfl, rfl, (by decide : 2 + 0 ≤ _), (by decide : 5 + 0 ≤ _)⟩)
  dsimp only [Pt.U, Pt.locs, Pt.cells, Pt.slots] at y9 z9 st9 hQ9
  change Stand p l e _ s m _ below meth c T9 L9 k9 n9 at X9
  change L9 = _ ++ Lc9 at l9
  subst y9 z9
  obtain ⟨rfl, N9q, K9q, t9_0⟩ := hQ9
  have N9 : Fr n0 L9 := l9 ▸ Fr.app N5 N9q
  have K9 : Keep h0 T9.heap [] := K5.trans K9q (allS (P := fun x => x ∈ [] ∨ h0.size ≤ x) (Or.inr sz_b3) all0)
  obtain ⟨fs, hr, hrun, hended, hW, hsame⟩ := X9.leave (v := some (.ref b3)) (fun h => by rw [Bd.returns] at h; cases h)
  refine ⟨_, _, pre0 _ ?_, hrun, hended, _, _, rfl, ?_, ⟨_, rfl⟩, hW, hsame.mono (by decide) (by decide)⟩
  · show Steps p.tables e below (s₁.setTop (mkF m 0 #[.val (.int p1)] [])) _
    refine st1 _ ?_
    show Steps p.tables e below (T1.setTop (mkF m 3 #[.val (.int p1)] [(.int cs)])) _
    refine XS.ifNo X1.here hx rfl (hb hby d2_3) rfl ((if0 _ _).trans (feq hcs).1) ?_
    show Steps p.tables e below (T1.setTop (mkF m 6 #[.val (.int p1)] [])) _
    refine XS.iloadN X1.here hx rfl (hb hby d2_6) rfl ?_
    show Steps p.tables e below (T1.setTop (mkF m 7 #[.val (.int p1)] [(.int p1)])) _
    refine st2 _ ?_
    show Steps p.tables e below (T2.setTop (mkF m 10 #[.val (.int p1)] [(.int (1 : Int32))])) _
    refine XS.ifNo X2.here hx rfl (hb hby d2_10) rfl ((if0 _ _).trans (feq (by decide : ¬ ((1 : Int32) = (0 : Int32)))).1) ?_
    show Steps p.tables e below (T2.setTop (mkF m 13 #[.val (.int p1)] [])) _
    refine st3 _ ?_
    show Steps p.tables e below (T3.setTop (mkF m 16 #[.val (.int p1)] [(.ref b3)])) _
    refine XS.dup X3.here hx rfl (hb hby d2_16) rfl rfl ?_
    show Steps p.tables e below (T3.setTop (mkF m 17 #[.val (.int p1)] [(.ref b3), (.ref b3)])) _
    refine XS.iloadN X3.here hx rfl (hb hby d2_17) rfl ?_
    show Steps p.tables e below (T3.setTop (mkF m 18 #[.val (.int p1)] [(.int p1), (.ref b3), (.ref b3)])) _
    refine st5 _ ?_
    show Steps p.tables e below (T5.setTop (mkF m 21 #[.val (.int p1)] [(.ref r_5), (.ref b3), (.ref b3)])) _
    refine XS.iconst X5.here hx rfl (hb hby d2_21) ?_
    show Steps p.tables e below (T5.setTop (mkF m 22 #[.val (.int p1)] [(.int (0 : Int32)), (.ref r_5), (.ref b3), (.ref b3)])) _
    refine st9.trans ?_
    show Steps p.tables e below (T9.setTop (mkF m 25 #[.val (.int p1)] [(.ref b3)])) _
    jvm_step X9.here [X9.here.top, hx, (hb hby d2_25), X9.method', Bd.returns, Value.isRef, FieldType.isReference]
    first | (intro acts; rw [hr _ acts rfl rfl rfl]) | rw [hr _ _ rfl rfl rfl]
    exact Steps.refl _
  · show Q_rm2 Z p1 cs h0 n0 _ T9.heap _
    exact ⟨b3, rfl, N9, K9, sz_b3, t9_0⟩
theorem d8_0 : decode jdk_30_method_1_code 0 = .ok (.aload_n 0, 1) := by decide +kernel
theorem d8_1 : decode jdk_30_method_1_code 1 = .ok (.invokespecial 1, 3) := by decide +kernel
theorem d8_4 : decode jdk_30_method_1_code 4 = .ok (.return_, 1) := by decide +kernel
theorem pn_java_lang_Record : plainName "java/lang/Record" = true := by first | (simp [plainName, overriddenIn]; done) | decide +kernel
theorem ef_rm8 (m : MethodId) (a1 : Addr) : entryFrame m #[(.ref a1)] 1 = mkF m 0 #[.val (.ref a1)] [] := by first | (simp [entryFrame, mkF, argsToLocals, Value.category]; done) | rfl
def Q_rm8 (Z : State) (a1 : Addr) (h0 : Heap) (n0 : Nat) (v : Option Value) (h : Heap) (L : List Loc) : Prop := v = none ∧ Fr n0 L ∧ h = h0
set_option maxRecDepth 65536 in
set_option maxHeartbeats 40000000 in
theorem rm8 (l : Launch) (Z : State) (a0 : Array Value) (hw : ∀ d ∈ tables_1, d.before a0 Z = true) (ws : List Jvm.Cond) (a1 : Addr) (h0 : Heap) (n0 : Nat) (Z0 : n0 ≤ h0.size) :
    MetFree l (⟨"java/lang/Record", "<init>", "()V"⟩ : MethodName) (head1 (Jvm.Cond.code (⟨"java/lang/Record", "<init>", "()V"⟩ : MethodName) jdk_30_method_1_code 1 none :: ws) ({ frames := 1, cells := 0, slots := 0, locals := 12 } : Room)) (fun a U => a = #[(.ref a1)] ∧ Z.Warmed39 U.vm ∧ U.heap = h0) (fun _ _ _ _ _ => True) (fun _ U o U' => ∃ v L, o = .returned v ∧ Q_rm8 Z a1 h0 n0 v U'.heap L ∧ FrameEnd U o U' L ({ frames := 1, cells := 0, slots := 0, locals := 12 } : Room).cells ({ frames := 1, cells := 0, slots := 0, locals := 12 } : Room).slots) := by
  refine MetFree.of_bodySF (plainFor_of_name pn_java_lang_Record) hisR ?_
  intro p e s m args below meth c s₁ Bd hml0 hP hK
  obtain ⟨rfl, hZ, hh⟩ := hP
  have hx := Bd.exec
  have hby := Bd.bytes
  have hml : c.maxLocals = 1 := hml0
  have hown : s.vm.findClass "java/lang/Record" = some m.cls := findClass_of_methodNamed Bd.named
  have hnm := (name_of_methodNamed Bd.named Bd.method).1
  have X0 : Stand p l e ({ frames := 1, cells := 0, slots := 0, locals := 12 } : Room) s m #[(.ref a1)] below meth c s₁ [] 0 0 := Stand.of_body Bd
  have e0 : s₁.heap = h0 := by rw [← hh, Bd.state]; rfl
  have N0 := Fr.nil n0
  have pre0 : ∀ t, Steps p.tables e below (s₁.setTop (mkF m 0 #[.val (.ref a1)] [])) t → Steps p.tables e below (s₁.setTop (entryFrame m #[(.ref a1)] 1)) t := fun t k => castTop (ef_rm8 m a1) k
  obtain ⟨T1, X1, e1, st1⟩ := initO X0 hx hZ hown (hw _ (List.mem_of_getElem? (i := 46) rfl)) (hw _ (List.mem_of_getElem? (i := 28) rfl)) (hw _ (List.mem_of_getElem? (i := 29) rfl)) e0 (g := (mkF m 1 #[.val (.ref a1)] [(.ref a1)])) rfl (by rw [hml]; rfl) rfl (hb hby d8_1) (by decide) (W := 0) (by show 2 * 0 + _ ≤ _; exact Nat.le_of_eq rfl) (by decide)
  obtain ⟨fs, hr, hrun, hended, hW, hsame⟩ := X1.leave (v := none) (fun _ => rfl)
  refine ⟨_, _, pre0 _ ?_, hrun, hended, _, _, rfl, ?_, ⟨_, rfl⟩, hW, hsame.mono (by decide) (by decide)⟩
  · show Steps p.tables e below (s₁.setTop (mkF m 0 #[.val (.ref a1)] [])) _
    refine XS.aloadN X0.here hx rfl (hb hby d8_0) rfl rfl ?_
    show Steps p.tables e below (s₁.setTop (mkF m 1 #[.val (.ref a1)] [(.ref a1)])) _
    refine st1 _ ?_
    show Steps p.tables e below (T1.setTop (mkF m 4 #[.val (.ref a1)] [])) _
    exact X1.returnOut hx Bd.returns (hb hby d8_4) hr
  · show Q_rm8 Z a1 h0 n0 _ T1.heap _
    rw [e1]
    exact ⟨rfl, N0, rfl⟩
theorem d7_0 : decode prog_95_method_1_code 0 = .ok (.aload_n 0, 1) := by decide +kernel
theorem pd__28_29V : parseMethodDescriptor "()V" = some ⟨[], none⟩ := by decide +kernel
theorem d7_1 : decode prog_95_method_1_code 1 = .ok (.invokespecial 1, 3) := by decide +kernel
theorem d7_4 : decode prog_95_method_1_code 4 = .ok (.aload_n 0, 1) := by decide +kernel
theorem d7_5 : decode prog_95_method_1_code 5 = .ok (.aload_n 1, 1) := by decide +kernel
theorem d7_6 : decode prog_95_method_1_code 6 = .ok (.putfield 7, 3) := by decide +kernel
theorem d7_9 : decode prog_95_method_1_code 9 = .ok (.aload_n 0, 1) := by decide +kernel
theorem d7_10 : decode prog_95_method_1_code 10 = .ok (.iload_n 2, 1) := by decide +kernel
theorem d7_11 : decode prog_95_method_1_code 11 = .ok (.putfield 13, 3) := by decide +kernel
theorem d7_14 : decode prog_95_method_1_code 14 = .ok (.aload_n 0, 1) := by decide +kernel
theorem d7_15 : decode prog_95_method_1_code 15 = .ok (.iload_n 3, 1) := by decide +kernel
theorem d7_16 : decode prog_95_method_1_code 16 = .ok (.putfield 17, 3) := by decide +kernel
theorem d7_19 : decode prog_95_method_1_code 19 = .ok (.aload_n 0, 1) := by decide +kernel
theorem d7_20 : decode prog_95_method_1_code 20 = .ok (.aload 4, 2) := by decide +kernel
theorem d7_22 : decode prog_95_method_1_code 22 = .ok (.putfield 21, 3) := by decide +kernel
theorem d7_25 : decode prog_95_method_1_code 25 = .ok (.return_, 1) := by decide +kernel
theorem pn_com_example_alviso_alviso_protocol_RequestHeader : plainName "com/example/alviso/alviso/protocol/RequestHeader" = true := by first | (simp [plainName, overriddenIn]; done) | decide +kernel
theorem ef_rmRq0 (m : MethodId) (a1 : Addr) (a2 : Addr) (p3 : Int32) (p4 : Int32) (a5 : Addr) : entryFrame m #[(.ref a1), (.ref a2), (.int p3), (.int p4), (.ref a5)] 5 = mkF m 0 #[.val (.ref a1), .val (.ref a2), .val (.int p3), .val (.int p4), .val (.ref a5)] [] := by first | (simp [entryFrame, mkF, argsToLocals, Value.category]; done) | rfl
def Q_rmRq0 (Z : State) (a1 : Addr) (a2 : Addr) (p3 : Int32) (p4 : Int32) (a5 : Addr) (u1 : Value) (u2 : Value) (u3 : Value) (u4 : Value) (h0 : Heap) (n0 : Nat) (v : Option Value) (h : Heap) (L : List Loc) : Prop := v = none ∧ Fr n0 L ∧ Keep h0 h [a1] ∧ Exa Z h a1 "com/example/alviso/alviso/protocol/RequestHeader" ∧ Fld Z h a1 "com/example/alviso/alviso/protocol/RequestHeader" "api" "Lcom/example/alviso/alviso/protocol/ApiKey;" (.ref a2) ∧ Fld Z h a1 "com/example/alviso/alviso/protocol/RequestHeader" "version" "S" (.int (nar .short p3)) ∧ Fld Z h a1 "com/example/alviso/alviso/protocol/RequestHeader" "correlationId" "I" (.int p4)
set_option maxRecDepth 65536 in
set_option maxHeartbeats 40000000 in
theorem rmRq0 (l : Launch) (Z : State) (a0 : Array Value) (hw : ∀ d ∈ tables_1, d.before a0 Z = true) (ws : List Jvm.Cond) (a1 : Addr) (a2 : Addr) (p3 : Int32) (p4 : Int32) (a5 : Addr) (u1 : Value) (u2 : Value) (u3 : Value) (u4 : Value) (h0 : Heap) (n0 : Nat) (Z0 : n0 ≤ h0.size) (E_a1 : Exa Z h0 a1 "com/example/alviso/alviso/protocol/RequestHeader") (F_api_a1 : Fld Z h0 a1 "com/example/alviso/alviso/protocol/RequestHeader" "api" "Lcom/example/alviso/alviso/protocol/ApiKey;" u1) (F_version_a1 : Fld Z h0 a1 "com/example/alviso/alviso/protocol/RequestHeader" "version" "S" u2) (F_correlationId_a1 : Fld Z h0 a1 "com/example/alviso/alviso/protocol/RequestHeader" "correlationId" "I" u3) (F_clientId_a1 : Fld Z h0 a1 "com/example/alviso/alviso/protocol/RequestHeader" "clientId" "Ljava/lang/String;" u4) (g_a1 : n0 ≤ a1) :
    MetFree l (⟨"com/example/alviso/alviso/protocol/RequestHeader", "<init>", "(Lcom/example/alviso/alviso/protocol/ApiKey;SILjava/lang/String;)V"⟩ : MethodName) (head1 (Jvm.Cond.code (⟨"com/example/alviso/alviso/protocol/RequestHeader", "<init>", "(Lcom/example/alviso/alviso/protocol/ApiKey;SILjava/lang/String;)V"⟩ : MethodName) prog_95_method_1_code 5 none :: ws) ({ frames := 2, cells := 0, slots := 0, locals := 24 } : Room)) (fun a U => a = #[(.ref a1), (.ref a2), (.int p3), (.int p4), (.ref a5)] ∧ Z.Warmed39 U.vm ∧ U.heap = h0) (fun _ _ _ _ _ => True) (fun _ U o U' => ∃ v L, o = .returned v ∧ Q_rmRq0 Z a1 a2 p3 p4 a5 u1 u2 u3 u4 h0 n0 v U'.heap L ∧ FrameEnd U o U' L ({ frames := 2, cells := 0, slots := 0, locals := 24 } : Room).cells ({ frames := 2, cells := 0, slots := 0, locals := 24 } : Room).slots) := by
  refine MetFree.of_bodySF (plainFor_of_name pn_com_example_alviso_alviso_protocol_RequestHeader) hisR ?_
  intro p e s m args below meth c s₁ Bd hml0 hP hK
  obtain ⟨rfl, hZ, hh⟩ := hP
  have hx := Bd.exec
  have hby := Bd.bytes
  have hml : c.maxLocals = 5 := hml0
  have hown : s.vm.findClass "com/example/alviso/alviso/protocol/RequestHeader" = some m.cls := findClass_of_methodNamed Bd.named
  have hnm := (name_of_methodNamed Bd.named Bd.method).1
  have X0 : Stand p l e ({ frames := 2, cells := 0, slots := 0, locals := 24 } : Room) s m #[(.ref a1), (.ref a2), (.int p3), (.int p4), (.ref a5)] below meth c s₁ [] 0 0 := Stand.of_body Bd
  have e0 : s₁.heap = h0 := by rw [← hh, Bd.state]; rfl
  have N0 := Fr.nil n0
  have pre0 : ∀ t, Steps p.tables e below (s₁.setTop (mkF m 0 #[.val (.ref a1), .val (.ref a2), .val (.int p3), .val (.int p4), .val (.ref a5)] [])) t → Steps p.tables e below (s₁.setTop (entryFrame m #[(.ref a1), (.ref a2), (.int p3), (.int p4), (.ref a5)] 5)) t := fun t k => castTop (ef_rmRq0 m a1 a2 p3 p4 a5) k
  obtain ⟨_, _, ⟨T1, L1, k1, n1⟩, -, X1, ⟨Lc1, hQ1, l1, y1, z1⟩, st1⟩ := X0.specialBack hx (y := (⟨"java/lang/Record", "<init>", "()V"⟩ : MethodName)) rfl hown (mvT hZ (hw _ (List.mem_of_getElem? (i := 41) rfl))) (mvT hZ (hw _ (List.mem_of_getElem? (i := 42) rfl))) (mvT hZ (hw _ (List.mem_of_getElem? (i := 45) rfl))) (by decide) (backOf (W := 0) (rm8 l Z a0 hw [] a1 h0 n0 Z0 ) hZ (hw _ (List.mem_of_getElem? (i := 45) rfl)) (hw _ (List.mem_of_getElem? (i := 44) rfl)) (by decide) (by decide)) (g := (mkF m 1 #[.val (.ref a1), .val (.ref a2), .val (.int p3), .val (.int p4), .val (.ref a5)] [(.ref a1)])) rfl (by rw [hml]; rfl) (Steps.refl _) (a := a1) (argsL := []) (rest := []) (lenOf pd__28_29V rfl) rfl (by show 2 * 0 + _ ≤ _; exact Nat.le_of_eq rfl) (hb hby d7_1) (fun _ _ => ⟨rfl, e0, (by decide : 0 + 0 ≤ _), (by decide : 0 + 0 ≤ _)⟩)
  dsimp only [Pt.U, Pt.locs, Pt.cells, Pt.slots] at y1 z1 st1 hQ1
  change Stand p l e _ s m _ below meth c T1 L1 k1 n1 at X1
  change L1 = _ ++ Lc1 at l1
  subst y1 z1
  obtain ⟨rfl, N1q, e1⟩ := hQ1
  have N1 : Fr n0 L1 := l1 ▸ Fr.app N0 N1q
  obtain ⟨T2, h2, X2, e2, W2, st2⟩ := putF X1 hx hZ hown (host := "") (Or.inl (hw _ (List.mem_of_getElem? (i := 47) rfl))) Via.refl e1 F_api_a1 E_a1 (Or.inr ⟨(hw _ (List.mem_of_getElem? (i := 48) rfl)), rfl, hnm⟩) (hw _ (List.mem_of_getElem? (i := 36) rfl)) (ty := (.object "com/example/alviso/alviso/protocol/ApiKey")) (by decide) rfl rfl (g := (mkF m 6 #[.val (.ref a1), .val (.ref a2), .val (.int p3), .val (.int p4), .val (.ref a5)] [(.ref a2), (.ref a1)])) rfl rfl (hb hby d7_6)
  have K3 : Keep h0 h2 [a1] := (Keep.refl h0 [a1]).wr W2 (Or.inl (List.mem_of_getElem? (i := 0) rfl))
  have N4 := Fr.snoc X2 N1 g_a1
  have Fw2 := F_api_a1.same W2
  have f5 : Fld Z h2 a1 "com/example/alviso/alviso/protocol/RequestHeader" "version" "S" u2 := (F_version_a1.other W2 (Or.inr (slot_ne (Or.inr (hw _ (List.mem_of_getElem? (i := 50) rfl))) (Or.inr (hw _ (List.mem_of_getElem? (i := 48) rfl))) (by decide) (t := .short) (t' := (.object "com/example/alviso/alviso/protocol/ApiKey")) (by decide) (by decide))))
  have f6 : Exa Z h2 a1 "com/example/alviso/alviso/protocol/RequestHeader" := (E_a1.wr W2)
  obtain ⟨T7, h7, X7, e7, W7, st7⟩ := putFN X2 hx hZ hown (hw _ (List.mem_of_getElem? (i := 49) rfl)) Via.refl e2 f5 f6 (Or.inr ⟨(hw _ (List.mem_of_getElem? (i := 50) rfl)), rfl, hnm⟩) (hw _ (List.mem_of_getElem? (i := 36) rfl)) (ty := .short) (v' := (.int (nar .short p3))) (by decide) rfl (fits_nar_short _) (g := (mkF m 11 #[.val (.ref a1), .val (.ref a2), .val (.int p3), .val (.int p4), .val (.ref a5)] [(.int p3), (.ref a1)])) rfl rfl (hb hby d7_11)
  have K8 : Keep h0 h7 [a1] := K3.wr W7 (Or.inl (List.mem_of_getElem? (i := 0) rfl))
  have N9 := Fr.snoc X7 N4 g_a1
  have Fw7 := f5.same W7
  have f10 : Fld Z h7 a1 "com/example/alviso/alviso/protocol/RequestHeader" "correlationId" "I" u3 := ((F_correlationId_a1.other W2 (Or.inr (slot_ne (Or.inr (hw _ (List.mem_of_getElem? (i := 52) rfl))) (Or.inr (hw _ (List.mem_of_getElem? (i := 48) rfl))) (by decide) (t := .int) (t' := (.object "com/example/alviso/alviso/protocol/ApiKey")) (by decide) (by decide)))).other W7 (Or.inr (slot_ne (Or.inr (hw _ (List.mem_of_getElem? (i := 52) rfl))) (Or.inr (hw _ (List.mem_of_getElem? (i := 50) rfl))) (by decide) (t := .int) (t' := .short) (by decide) (by decide))))
  have f11 : Exa Z h7 a1 "com/example/alviso/alviso/protocol/RequestHeader" := (f6.wr W7)
  obtain ⟨T12, h12, X12, e12, W12, st12⟩ := putF X7 hx hZ hown (host := "") (Or.inl (hw _ (List.mem_of_getElem? (i := 51) rfl))) Via.refl e7 f10 f11 (Or.inr ⟨(hw _ (List.mem_of_getElem? (i := 52) rfl)), rfl, hnm⟩) (hw _ (List.mem_of_getElem? (i := 36) rfl)) (ty := .int) (by decide) rfl rfl (g := (mkF m 16 #[.val (.ref a1), .val (.ref a2), .val (.int p3), .val (.int p4), .val (.ref a5)] [(.int p4), (.ref a1)])) rfl rfl (hb hby d7_16)
  have K13 : Keep h0 h12 [a1] := K8.wr W12 (Or.inl (List.mem_of_getElem? (i := 0) rfl))
  have N14 := Fr.snoc X12 N9 g_a1
  have Fw12 := f10.same W12
  have f15 : Fld Z h12 a1 "com/example/alviso/alviso/protocol/RequestHeader" "clientId" "Ljava/lang/String;" u4 := (((F_clientId_a1.other W2 (Or.inr (slot_ne (Or.inr (hw _ (List.mem_of_getElem? (i := 54) rfl))) (Or.inr (hw _ (List.mem_of_getElem? (i := 48) rfl))) (by decide) (t := (.object "java/lang/String")) (t' := (.object "com/example/alviso/alviso/protocol/ApiKey")) (by decide) (by decide)))).other W7 (Or.inr (slot_ne (Or.inr (hw _ (List.mem_of_getElem? (i := 54) rfl))) (Or.inr (hw _ (List.mem_of_getElem? (i := 50) rfl))) (by decide) (t := (.object "java/lang/String")) (t' := .short) (by decide) (by decide)))).other W12 (Or.inr (slot_ne (Or.inr (hw _ (List.mem_of_getElem? (i := 54) rfl))) (Or.inr (hw _ (List.mem_of_getElem? (i := 52) rfl))) (by decide) (t := (.object "java/lang/String")) (t' := .int) (by decide) (by decide))))
  have f16 : Exa Z h12 a1 "com/example/alviso/alviso/protocol/RequestHeader" := (f11.wr W12)
  obtain ⟨T17, h17, X17, e17, W17, st17⟩ := putF X12 hx hZ hown (host := "") (Or.inl (hw _ (List.mem_of_getElem? (i := 53) rfl))) Via.refl e12 f15 f16 (Or.inr ⟨(hw _ (List.mem_of_getElem? (i := 54) rfl)), rfl, hnm⟩) (hw _ (List.mem_of_getElem? (i := 36) rfl)) (ty := (.object "java/lang/String")) (by decide) rfl rfl (g := (mkF m 22 #[.val (.ref a1), .val (.ref a2), .val (.int p3), .val (.int p4), .val (.ref a5)] [(.ref a5), (.ref a1)])) rfl rfl (hb hby d7_22)
  have K18 : Keep h0 h17 [a1] := K13.wr W17 (Or.inl (List.mem_of_getElem? (i := 0) rfl))
  have N19 := Fr.snoc X17 N14 g_a1
  have Fw17 := f15.same W17
  have f20 : Exa Z h17 a1 "com/example/alviso/alviso/protocol/RequestHeader" := (f16.wr W17)
  have f21 : Fld Z h17 a1 "com/example/alviso/alviso/protocol/RequestHeader" "api" "Lcom/example/alviso/alviso/protocol/ApiKey;" (.ref a2) := (((Fw2.other W7 (Or.inr (slot_ne (Or.inr (hw _ (List.mem_of_getElem? (i := 48) rfl))) (Or.inr (hw _ (List.mem_of_getElem? (i := 50) rfl))) (by decide) (t := (.object "com/example/alviso/alviso/protocol/ApiKey")) (t' := .short) (by decide) (by decide)))).other W12 (Or.inr (slot_ne (Or.inr (hw _ (List.mem_of_getElem? (i := 48) rfl))) (Or.inr (hw _ (List.mem_of_getElem? (i := 52) rfl))) (by decide) (t := (.object "com/example/alviso/alviso/protocol/ApiKey")) (t' := .int) (by decide) (by decide)))).other W17 (Or.inr (slot_ne (Or.inr (hw _ (List.mem_of_getElem? (i := 48) rfl))) (Or.inr (hw _ (List.mem_of_getElem? (i := 54) rfl))) (by decide) (t := (.object "com/example/alviso/alviso/protocol/ApiKey")) (t' := (.object "java/lang/String")) (by decide) (by decide))))
  have f22 : Fld Z h17 a1 "com/example/alviso/alviso/protocol/RequestHeader" "version" "S" (.int (nar .short p3)) := ((Fw7.other W12 (Or.inr (slot_ne (Or.inr (hw _ (List.mem_of_getElem? (i := 50) rfl))) (Or.inr (hw _ (List.mem_of_getElem? (i := 52) rfl))) (by decide) (t := .short) (t' := .int) (by decide) (by decide)))).other W17 (Or.inr (slot_ne (Or.inr (hw _ (List.mem_of_getElem? (i := 50) rfl))) (Or.inr (hw _ (List.mem_of_getElem? (i := 54) rfl))) (by decide) (t := .short) (t' := (.object "java/lang/String")) (by decide) (by decide))))
  have f23 : Fld Z h17 a1 "com/example/alviso/alviso/protocol/RequestHeader" "correlationId" "I" (.int p4) := (Fw12.other W17 (Or.inr (slot_ne (Or.inr (hw _ (List.mem_of_getElem? (i := 52) rfl))) (Or.inr (hw _ (List.mem_of_getElem? (i := 54) rfl))) (by decide) (t := .int) (t' := (.object "java/lang/String")) (by decide) (by decide))))
  obtain ⟨fs, hr, hrun, hended, hW, hsame⟩ := X17.leave (v := none) (fun _ => rfl)
  refine ⟨_, _, pre0 _ ?_, hrun, hended, _, _, rfl, ?_, ⟨_, rfl⟩, hW, hsame.mono (by decide) (by decide)⟩
  · show Steps p.tables e below (s₁.setTop (mkF m 0 #[.val (.ref a1), .val (.ref a2), .val (.int p3), .val (.int p4), .val (.ref a5)] [])) _
    refine XS.aloadN X0.here hx rfl (hb hby d7_0) rfl rfl ?_
    show Steps p.tables e below (s₁.setTop (mkF m 1 #[.val (.ref a1), .val (.ref a2), .val (.int p3), .val (.int p4), .val (.ref a5)] [(.ref a1)])) _
    refine st1.trans ?_
    show Steps p.tables e below (T1.setTop (mkF m 4 #[.val (.ref a1), .val (.ref a2), .val (.int p3), .val (.int p4), .val (.ref a5)] [])) _
    refine XS.aloadN X1.here hx rfl (hb hby d7_4) rfl rfl ?_
    show Steps p.tables e below (T1.setTop (mkF m 5 #[.val (.ref a1), .val (.ref a2), .val (.int p3), .val (.int p4), .val (.ref a5)] [(.ref a1)])) _
    refine XS.aloadN X1.here hx rfl (hb hby d7_5) rfl rfl ?_
    show Steps p.tables e below (T1.setTop (mkF m 6 #[.val (.ref a1), .val (.ref a2), .val (.int p3), .val (.int p4), .val (.ref a5)] [(.ref a2), (.ref a1)])) _
    refine st2 _ ?_
    show Steps p.tables e below (T2.setTop (mkF m 9 #[.val (.ref a1), .val (.ref a2), .val (.int p3), .val (.int p4), .val (.ref a5)] [])) _
    refine XS.aloadN X2.here hx rfl (hb hby d7_9) rfl rfl ?_
    show Steps p.tables e below (T2.setTop (mkF m 10 #[.val (.ref a1), .val (.ref a2), .val (.int p3), .val (.int p4), .val (.ref a5)] [(.ref a1)])) _
    refine XS.iloadN X2.here hx rfl (hb hby d7_10) rfl ?_
    show Steps p.tables e below (T2.setTop (mkF m 11 #[.val (.ref a1), .val (.ref a2), .val (.int p3), .val (.int p4), .val (.ref a5)] [(.int p3), (.ref a1)])) _
    refine st7 _ ?_
    show Steps p.tables e below (T7.setTop (mkF m 14 #[.val (.ref a1), .val (.ref a2), .val (.int p3), .val (.int p4), .val (.ref a5)] [])) _
    refine XS.aloadN X7.here hx rfl (hb hby d7_14) rfl rfl ?_
    show Steps p.tables e below (T7.setTop (mkF m 15 #[.val (.ref a1), .val (.ref a2), .val (.int p3), .val (.int p4), .val (.ref a5)] [(.ref a1)])) _
    refine XS.iloadN X7.here hx rfl (hb hby d7_15) rfl ?_
    show Steps p.tables e below (T7.setTop (mkF m 16 #[.val (.ref a1), .val (.ref a2), .val (.int p3), .val (.int p4), .val (.ref a5)] [(.int p4), (.ref a1)])) _
    refine st12 _ ?_
    show Steps p.tables e below (T12.setTop (mkF m 19 #[.val (.ref a1), .val (.ref a2), .val (.int p3), .val (.int p4), .val (.ref a5)] [])) _
    refine XS.aloadN X12.here hx rfl (hb hby d7_19) rfl rfl ?_
    show Steps p.tables e below (T12.setTop (mkF m 20 #[.val (.ref a1), .val (.ref a2), .val (.int p3), .val (.int p4), .val (.ref a5)] [(.ref a1)])) _
    refine XS.aload X12.here hx rfl (hb hby d7_20) rfl rfl ?_
    show Steps p.tables e below (T12.setTop (mkF m 22 #[.val (.ref a1), .val (.ref a2), .val (.int p3), .val (.int p4), .val (.ref a5)] [(.ref a5), (.ref a1)])) _
    refine st17 _ ?_
    show Steps p.tables e below (T17.setTop (mkF m 25 #[.val (.ref a1), .val (.ref a2), .val (.int p3), .val (.int p4), .val (.ref a5)] [])) _
    exact X17.returnOut hx Bd.returns (hb hby d7_25) hr
  · show Q_rmRq0 Z a1 a2 p3 p4 a5 u1 u2 u3 u4 h0 n0 _ T17.heap _
    rw [e17]
    exact ⟨rfl, N19, K18, f20, f21, f22, f23⟩
theorem ef_rmRq1 (m : MethodId) (a1 : Addr) (a2 : Addr) (p3 : Int32) (p4 : Int32) : entryFrame m #[(.ref a1), (.ref a2), (.int p3), (.int p4), .null] 5 = mkF m 0 #[.val (.ref a1), .val (.ref a2), .val (.int p3), .val (.int p4), .val .null] [] := by first | (simp [entryFrame, mkF, argsToLocals, Value.category]; done) | rfl
def Q_rmRq1 (Z : State) (a1 : Addr) (a2 : Addr) (p3 : Int32) (p4 : Int32) (u1 : Value) (u2 : Value) (u3 : Value) (u4 : Value) (h0 : Heap) (n0 : Nat) (v : Option Value) (h : Heap) (L : List Loc) : Prop := v = none ∧ Fr n0 L ∧ Keep h0 h [a1] ∧ Exa Z h a1 "com/example/alviso/alviso/protocol/RequestHeader" ∧ Fld Z h a1 "com/example/alviso/alviso/protocol/RequestHeader" "api" "Lcom/example/alviso/alviso/protocol/ApiKey;" (.ref a2) ∧ Fld Z h a1 "com/example/alviso/alviso/protocol/RequestHeader" "version" "S" (.int (nar .short p3)) ∧ Fld Z h a1 "com/example/alviso/alviso/protocol/RequestHeader" "correlationId" "I" (.int p4)
set_option maxRecDepth 65536 in
set_option maxHeartbeats 40000000 in
theorem rmRq1 (l : Launch) (Z : State) (a0 : Array Value) (hw : ∀ d ∈ tables_1, d.before a0 Z = true) (ws : List Jvm.Cond) (a1 : Addr) (a2 : Addr) (p3 : Int32) (p4 : Int32) (u1 : Value) (u2 : Value) (u3 : Value) (u4 : Value) (h0 : Heap) (n0 : Nat) (Z0 : n0 ≤ h0.size) (E_a1 : Exa Z h0 a1 "com/example/alviso/alviso/protocol/RequestHeader") (F_api_a1 : Fld Z h0 a1 "com/example/alviso/alviso/protocol/RequestHeader" "api" "Lcom/example/alviso/alviso/protocol/ApiKey;" u1) (F_version_a1 : Fld Z h0 a1 "com/example/alviso/alviso/protocol/RequestHeader" "version" "S" u2) (F_correlationId_a1 : Fld Z h0 a1 "com/example/alviso/alviso/protocol/RequestHeader" "correlationId" "I" u3) (F_clientId_a1 : Fld Z h0 a1 "com/example/alviso/alviso/protocol/RequestHeader" "clientId" "Ljava/lang/String;" u4) (g_a1 : n0 ≤ a1) :
    MetFree l (⟨"com/example/alviso/alviso/protocol/RequestHeader", "<init>", "(Lcom/example/alviso/alviso/protocol/ApiKey;SILjava/lang/String;)V"⟩ : MethodName) (head1 (Jvm.Cond.code (⟨"com/example/alviso/alviso/protocol/RequestHeader", "<init>", "(Lcom/example/alviso/alviso/protocol/ApiKey;SILjava/lang/String;)V"⟩ : MethodName) prog_95_method_1_code 5 none :: ws) ({ frames := 2, cells := 0, slots := 0, locals := 24 } : Room)) (fun a U => a = #[(.ref a1), (.ref a2), (.int p3), (.int p4), .null] ∧ Z.Warmed39 U.vm ∧ U.heap = h0) (fun _ _ _ _ _ => True) (fun _ U o U' => ∃ v L, o = .returned v ∧ Q_rmRq1 Z a1 a2 p3 p4 u1 u2 u3 u4 h0 n0 v U'.heap L ∧ FrameEnd U o U' L ({ frames := 2, cells := 0, slots := 0, locals := 24 } : Room).cells ({ frames := 2, cells := 0, slots := 0, locals := 24 } : Room).slots) := by
  refine MetFree.of_bodySF (plainFor_of_name pn_com_example_alviso_alviso_protocol_RequestHeader) hisR ?_
  intro p e s m args below meth c s₁ Bd hml0 hP hK
  obtain ⟨rfl, hZ, hh⟩ := hP
  have hx := Bd.exec
  have hby := Bd.bytes
  have hml : c.maxLocals = 5 := hml0
  have hown : s.vm.findClass "com/example/alviso/alviso/protocol/RequestHeader" = some m.cls := findClass_of_methodNamed Bd.named
  have hnm := (name_of_methodNamed Bd.named Bd.method).1
  have X0 : Stand p l e ({ frames := 2, cells := 0, slots := 0, locals := 24 } : Room) s m #[(.ref a1), (.ref a2), (.int p3), (.int p4), .null] below meth c s₁ [] 0 0 := Stand.of_body Bd
  have e0 : s₁.heap = h0 := by rw [← hh, Bd.state]; rfl
  have N0 := Fr.nil n0
  have pre0 : ∀ t, Steps p.tables e below (s₁.setTop (mkF m 0 #[.val (.ref a1), .val (.ref a2), .val (.int p3), .val (.int p4), .val .null] [])) t → Steps p.tables e below (s₁.setTop (entryFrame m #[(.ref a1), (.ref a2), (.int p3), (.int p4), .null] 5)) t := fun t k => castTop (ef_rmRq1 m a1 a2 p3 p4) k
  obtain ⟨_, _, ⟨T1, L1, k1, n1⟩, -, X1, ⟨Lc1, hQ1, l1, y1, z1⟩, st1⟩ := X0.specialBack hx (y := (⟨"java/lang/Record", "<init>", "()V"⟩ : MethodName)) rfl hown (mvT hZ (hw _ (List.mem_of_getElem? (i := 41) rfl))) (mvT hZ (hw _ (List.mem_of_getElem? (i := 42) rfl))) (mvT hZ (hw _ (List.mem_of_getElem? (i := 45) rfl))) (by decide) (backOf (W := 0) (rm8 l Z a0 hw [] a1 h0 n0 Z0 ) hZ (hw _ (List.mem_of_getElem? (i := 45) rfl)) (hw _ (List.mem_of_getElem? (i := 44) rfl)) (by decide) (by decide)) (g := (mkF m 1 #[.val (.ref a1), .val (.ref a2), .val (.int p3), .val (.int p4), .val .null] [(.ref a1)])) rfl (by rw [hml]; rfl) (Steps.refl _) (a := a1) (argsL := []) (rest := []) (lenOf pd__28_29V rfl) rfl (by show 2 * 0 + _ ≤ _; exact Nat.le_of_eq rfl) (hb hby d7_1) (fun _ _ => ⟨rfl, e0, (by decide : 0 + 0 ≤ _), (by decide : 0 + 0 ≤ _)⟩)
  dsimp only [Pt.U, Pt.locs, Pt.cells, Pt.slots] at y1 z1 st1 hQ1
  change Stand p l e _ s m _ below meth c T1 L1 k1 n1 at X1
  change L1 = _ ++ Lc1 at l1
  subst y1 z1
  obtain ⟨rfl, N1q, e1⟩ := hQ1
  have N1 : Fr n0 L1 := l1 ▸ Fr.app N0 N1q
  obtain ⟨T2, h2, X2, e2, W2, st2⟩ := putF X1 hx hZ hown (host := "") (Or.inl (hw _ (List.mem_of_getElem? (i := 47) rfl))) Via.refl e1 F_api_a1 E_a1 (Or.inr ⟨(hw _ (List.mem_of_getElem? (i := 48) rfl)), rfl, hnm⟩) (hw _ (List.mem_of_getElem? (i := 36) rfl)) (ty := (.object "com/example/alviso/alviso/protocol/ApiKey")) (by decide) rfl rfl (g := (mkF m 6 #[.val (.ref a1), .val (.ref a2), .val (.int p3), .val (.int p4), .val .null] [(.ref a2), (.ref a1)])) rfl rfl (hb hby d7_6)
  have K3 : Keep h0 h2 [a1] := (Keep.refl h0 [a1]).wr W2 (Or.inl (List.mem_of_getElem? (i := 0) rfl))
  have N4 := Fr.snoc X2 N1 g_a1
  have Fw2 := F_api_a1.same W2
  have f5 : Fld Z h2 a1 "com/example/alviso/alviso/protocol/RequestHeader" "version" "S" u2 := (F_version_a1.other W2 (Or.inr (slot_ne (Or.inr (hw _ (List.mem_of_getElem? (i := 50) rfl))) (Or.inr (hw _ (List.mem_of_getElem? (i := 48) rfl))) (by decide) (t := .short) (t' := (.object "com/example/alviso/alviso/protocol/ApiKey")) (by decide) (by decide))))
  have f6 : Exa Z h2 a1 "com/example/alviso/alviso/protocol/RequestHeader" := (E_a1.wr W2)
  obtain ⟨T7, h7, X7, e7, W7, st7⟩ := putFN X2 hx hZ hown (hw _ (List.mem_of_getElem? (i := 49) rfl)) Via.refl e2 f5 f6 (Or.inr ⟨(hw _ (List.mem_of_getElem? (i := 50) rfl)), rfl, hnm⟩) (hw _ (List.mem_of_getElem? (i := 36) rfl)) (ty := .short) (v' := (.int (nar .short p3))) (by decide) rfl (fits_nar_short _) (g := (mkF m 11 #[.val (.ref a1), .val (.ref a2), .val (.int p3), .val (.int p4), .val .null] [(.int p3), (.ref a1)])) rfl rfl (hb hby d7_11)
  have K8 : Keep h0 h7 [a1] := K3.wr W7 (Or.inl (List.mem_of_getElem? (i := 0) rfl))
  have N9 := Fr.snoc X7 N4 g_a1
  have Fw7 := f5.same W7
  have f10 : Fld Z h7 a1 "com/example/alviso/alviso/protocol/RequestHeader" "correlationId" "I" u3 := ((F_correlationId_a1.other W2 (Or.inr (slot_ne (Or.inr (hw _ (List.mem_of_getElem? (i := 52) rfl))) (Or.inr (hw _ (List.mem_of_getElem? (i := 48) rfl))) (by decide) (t := .int) (t' := (.object "com/example/alviso/alviso/protocol/ApiKey")) (by decide) (by decide)))).other W7 (Or.inr (slot_ne (Or.inr (hw _ (List.mem_of_getElem? (i := 52) rfl))) (Or.inr (hw _ (List.mem_of_getElem? (i := 50) rfl))) (by decide) (t := .int) (t' := .short) (by decide) (by decide))))
  have f11 : Exa Z h7 a1 "com/example/alviso/alviso/protocol/RequestHeader" := (f6.wr W7)
  obtain ⟨T12, h12, X12, e12, W12, st12⟩ := putF X7 hx hZ hown (host := "") (Or.inl (hw _ (List.mem_of_getElem? (i := 51) rfl))) Via.refl e7 f10 f11 (Or.inr ⟨(hw _ (List.mem_of_getElem? (i := 52) rfl)), rfl, hnm⟩) (hw _ (List.mem_of_getElem? (i := 36) rfl)) (ty := .int) (by decide) rfl rfl (g := (mkF m 16 #[.val (.ref a1), .val (.ref a2), .val (.int p3), .val (.int p4), .val .null] [(.int p4), (.ref a1)])) rfl rfl (hb hby d7_16)
  have K13 : Keep h0 h12 [a1] := K8.wr W12 (Or.inl (List.mem_of_getElem? (i := 0) rfl))
  have N14 := Fr.snoc X12 N9 g_a1
  have Fw12 := f10.same W12
  have f15 : Fld Z h12 a1 "com/example/alviso/alviso/protocol/RequestHeader" "clientId" "Ljava/lang/String;" u4 := (((F_clientId_a1.other W2 (Or.inr (slot_ne (Or.inr (hw _ (List.mem_of_getElem? (i := 54) rfl))) (Or.inr (hw _ (List.mem_of_getElem? (i := 48) rfl))) (by decide) (t := (.object "java/lang/String")) (t' := (.object "com/example/alviso/alviso/protocol/ApiKey")) (by decide) (by decide)))).other W7 (Or.inr (slot_ne (Or.inr (hw _ (List.mem_of_getElem? (i := 54) rfl))) (Or.inr (hw _ (List.mem_of_getElem? (i := 50) rfl))) (by decide) (t := (.object "java/lang/String")) (t' := .short) (by decide) (by decide)))).other W12 (Or.inr (slot_ne (Or.inr (hw _ (List.mem_of_getElem? (i := 54) rfl))) (Or.inr (hw _ (List.mem_of_getElem? (i := 52) rfl))) (by decide) (t := (.object "java/lang/String")) (t' := .int) (by decide) (by decide))))
  have f16 : Exa Z h12 a1 "com/example/alviso/alviso/protocol/RequestHeader" := (f11.wr W12)
  obtain ⟨T17, h17, X17, e17, W17, st17⟩ := putF X12 hx hZ hown (host := "") (Or.inl (hw _ (List.mem_of_getElem? (i := 53) rfl))) Via.refl e12 f15 f16 (Or.inr ⟨(hw _ (List.mem_of_getElem? (i := 54) rfl)), rfl, hnm⟩) (hw _ (List.mem_of_getElem? (i := 36) rfl)) (ty := (.object "java/lang/String")) (by decide) rfl rfl (g := (mkF m 22 #[.val (.ref a1), .val (.ref a2), .val (.int p3), .val (.int p4), .val .null] [.null, (.ref a1)])) rfl rfl (hb hby d7_22)
  have K18 : Keep h0 h17 [a1] := K13.wr W17 (Or.inl (List.mem_of_getElem? (i := 0) rfl))
  have N19 := Fr.snoc X17 N14 g_a1
  have Fw17 := f15.same W17
  have f20 : Exa Z h17 a1 "com/example/alviso/alviso/protocol/RequestHeader" := (f16.wr W17)
  have f21 : Fld Z h17 a1 "com/example/alviso/alviso/protocol/RequestHeader" "api" "Lcom/example/alviso/alviso/protocol/ApiKey;" (.ref a2) := (((Fw2.other W7 (Or.inr (slot_ne (Or.inr (hw _ (List.mem_of_getElem? (i := 48) rfl))) (Or.inr (hw _ (List.mem_of_getElem? (i := 50) rfl))) (by decide) (t := (.object "com/example/alviso/alviso/protocol/ApiKey")) (t' := .short) (by decide) (by decide)))).other W12 (Or.inr (slot_ne (Or.inr (hw _ (List.mem_of_getElem? (i := 48) rfl))) (Or.inr (hw _ (List.mem_of_getElem? (i := 52) rfl))) (by decide) (t := (.object "com/example/alviso/alviso/protocol/ApiKey")) (t' := .int) (by decide) (by decide)))).other W17 (Or.inr (slot_ne (Or.inr (hw _ (List.mem_of_getElem? (i := 48) rfl))) (Or.inr (hw _ (List.mem_of_getElem? (i := 54) rfl))) (by decide) (t := (.object "com/example/alviso/alviso/protocol/ApiKey")) (t' := (.object "java/lang/String")) (by decide) (by decide))))
  have f22 : Fld Z h17 a1 "com/example/alviso/alviso/protocol/RequestHeader" "version" "S" (.int (nar .short p3)) := ((Fw7.other W12 (Or.inr (slot_ne (Or.inr (hw _ (List.mem_of_getElem? (i := 50) rfl))) (Or.inr (hw _ (List.mem_of_getElem? (i := 52) rfl))) (by decide) (t := .short) (t' := .int) (by decide) (by decide)))).other W17 (Or.inr (slot_ne (Or.inr (hw _ (List.mem_of_getElem? (i := 50) rfl))) (Or.inr (hw _ (List.mem_of_getElem? (i := 54) rfl))) (by decide) (t := .short) (t' := (.object "java/lang/String")) (by decide) (by decide))))
  have f23 : Fld Z h17 a1 "com/example/alviso/alviso/protocol/RequestHeader" "correlationId" "I" (.int p4) := (Fw12.other W17 (Or.inr (slot_ne (Or.inr (hw _ (List.mem_of_getElem? (i := 52) rfl))) (Or.inr (hw _ (List.mem_of_getElem? (i := 54) rfl))) (by decide) (t := .int) (t' := (.object "java/lang/String")) (by decide) (by decide))))
  obtain ⟨fs, hr, hrun, hended, hW, hsame⟩ := X17.leave (v := none) (fun _ => rfl)
  refine ⟨_, _, pre0 _ ?_, hrun, hended, _, _, rfl, ?_, ⟨_, rfl⟩, hW, hsame.mono (by decide) (by decide)⟩
  · show Steps p.tables e below (s₁.setTop (mkF m 0 #[.val (.ref a1), .val (.ref a2), .val (.int p3), .val (.int p4), .val .null] [])) _
    refine XS.aloadN X0.here hx rfl (hb hby d7_0) rfl rfl ?_
    show Steps p.tables e below (s₁.setTop (mkF m 1 #[.val (.ref a1), .val (.ref a2), .val (.int p3), .val (.int p4), .val .null] [(.ref a1)])) _
    refine st1.trans ?_
    show Steps p.tables e below (T1.setTop (mkF m 4 #[.val (.ref a1), .val (.ref a2), .val (.int p3), .val (.int p4), .val .null] [])) _
    refine XS.aloadN X1.here hx rfl (hb hby d7_4) rfl rfl ?_
    show Steps p.tables e below (T1.setTop (mkF m 5 #[.val (.ref a1), .val (.ref a2), .val (.int p3), .val (.int p4), .val .null] [(.ref a1)])) _
    refine XS.aloadN X1.here hx rfl (hb hby d7_5) rfl rfl ?_
    show Steps p.tables e below (T1.setTop (mkF m 6 #[.val (.ref a1), .val (.ref a2), .val (.int p3), .val (.int p4), .val .null] [(.ref a2), (.ref a1)])) _
    refine st2 _ ?_
    show Steps p.tables e below (T2.setTop (mkF m 9 #[.val (.ref a1), .val (.ref a2), .val (.int p3), .val (.int p4), .val .null] [])) _
    refine XS.aloadN X2.here hx rfl (hb hby d7_9) rfl rfl ?_
    show Steps p.tables e below (T2.setTop (mkF m 10 #[.val (.ref a1), .val (.ref a2), .val (.int p3), .val (.int p4), .val .null] [(.ref a1)])) _
    refine XS.iloadN X2.here hx rfl (hb hby d7_10) rfl ?_
    show Steps p.tables e below (T2.setTop (mkF m 11 #[.val (.ref a1), .val (.ref a2), .val (.int p3), .val (.int p4), .val .null] [(.int p3), (.ref a1)])) _
    refine st7 _ ?_
    show Steps p.tables e below (T7.setTop (mkF m 14 #[.val (.ref a1), .val (.ref a2), .val (.int p3), .val (.int p4), .val .null] [])) _
    refine XS.aloadN X7.here hx rfl (hb hby d7_14) rfl rfl ?_
    show Steps p.tables e below (T7.setTop (mkF m 15 #[.val (.ref a1), .val (.ref a2), .val (.int p3), .val (.int p4), .val .null] [(.ref a1)])) _
    refine XS.iloadN X7.here hx rfl (hb hby d7_15) rfl ?_
    show Steps p.tables e below (T7.setTop (mkF m 16 #[.val (.ref a1), .val (.ref a2), .val (.int p3), .val (.int p4), .val .null] [(.int p4), (.ref a1)])) _
    refine st12 _ ?_
    show Steps p.tables e below (T12.setTop (mkF m 19 #[.val (.ref a1), .val (.ref a2), .val (.int p3), .val (.int p4), .val .null] [])) _
    refine XS.aloadN X12.here hx rfl (hb hby d7_19) rfl rfl ?_
    show Steps p.tables e below (T12.setTop (mkF m 20 #[.val (.ref a1), .val (.ref a2), .val (.int p3), .val (.int p4), .val .null] [(.ref a1)])) _
    refine XS.aload X12.here hx rfl (hb hby d7_20) rfl rfl ?_
    show Steps p.tables e below (T12.setTop (mkF m 22 #[.val (.ref a1), .val (.ref a2), .val (.int p3), .val (.int p4), .val .null] [.null, (.ref a1)])) _
    refine st17 _ ?_
    show Steps p.tables e below (T17.setTop (mkF m 25 #[.val (.ref a1), .val (.ref a2), .val (.int p3), .val (.int p4), .val .null] [])) _
    exact X17.returnOut hx Bd.returns (hb hby d7_25) hr
  · show Q_rmRq1 Z a1 a2 p3 p4 u1 u2 u3 u4 h0 n0 _ T17.heap _
    rw [e17]
    exact ⟨rfl, N19, K18, f20, f21, f22, f23⟩
theorem d15_0 : decode prog_97_method_1_code 0 = .ok (.aload_n 0, 1) := by decide +kernel
theorem d15_1 : decode prog_97_method_1_code 1 = .ok (.invokespecial 1, 3) := by decide +kernel
theorem d15_4 : decode prog_97_method_1_code 4 = .ok (.aload_n 0, 1) := by decide +kernel
theorem d15_5 : decode prog_97_method_1_code 5 = .ok (.iload_n 1, 1) := by decide +kernel
theorem d15_6 : decode prog_97_method_1_code 6 = .ok (.putfield 7, 3) := by decide +kernel
theorem d15_9 : decode prog_97_method_1_code 9 = .ok (.aload_n 0, 1) := by decide +kernel
theorem d15_10 : decode prog_97_method_1_code 10 = .ok (.iload_n 2, 1) := by decide +kernel
theorem d15_11 : decode prog_97_method_1_code 11 = .ok (.putfield 13, 3) := by decide +kernel
theorem d15_14 : decode prog_97_method_1_code 14 = .ok (.return_, 1) := by decide +kernel
theorem pn_com_example_alviso_alviso_protocol_ResponseHeader : plainName "com/example/alviso/alviso/protocol/ResponseHeader" = true := by first | (simp [plainName, overriddenIn]; done) | decide +kernel
theorem ef_rm15 (m : MethodId) (a1 : Addr) (p2 : Int32) (p3 : Int32) : entryFrame m #[(.ref a1), (.int p2), (.int p3)] 3 = mkF m 0 #[.val (.ref a1), .val (.int p2), .val (.int p3)] [] := by first | (simp [entryFrame, mkF, argsToLocals, Value.category]; done) | rfl
def Q_rm15 (Z : State) (a1 : Addr) (p2 : Int32) (p3 : Int32) (u1 : Value) (u2 : Value) (h0 : Heap) (n0 : Nat) (v : Option Value) (h : Heap) (L : List Loc) : Prop := v = none ∧ Fr n0 L ∧ Keep h0 h [a1] ∧ Exa Z h a1 "com/example/alviso/alviso/protocol/ResponseHeader" ∧ Fld Z h a1 "com/example/alviso/alviso/protocol/ResponseHeader" "correlationId" "I" (.int p2) ∧ Fld Z h a1 "com/example/alviso/alviso/protocol/ResponseHeader" "flexible" "Z" (.int (nar .boolean p3))
set_option maxRecDepth 65536 in
set_option maxHeartbeats 40000000 in
theorem rm15 (l : Launch) (Z : State) (a0 : Array Value) (hw : ∀ d ∈ tables_1, d.before a0 Z = true) (ws : List Jvm.Cond) (a1 : Addr) (p2 : Int32) (p3 : Int32) (u1 : Value) (u2 : Value) (h0 : Heap) (n0 : Nat) (Z0 : n0 ≤ h0.size) (E_a1 : Exa Z h0 a1 "com/example/alviso/alviso/protocol/ResponseHeader") (F_correlationId_a1 : Fld Z h0 a1 "com/example/alviso/alviso/protocol/ResponseHeader" "correlationId" "I" u1) (F_flexible_a1 : Fld Z h0 a1 "com/example/alviso/alviso/protocol/ResponseHeader" "flexible" "Z" u2) (g_a1 : n0 ≤ a1) :
    MetFree l (⟨"com/example/alviso/alviso/protocol/ResponseHeader", "<init>", "(IZ)V"⟩ : MethodName) (head1 (Jvm.Cond.code (⟨"com/example/alviso/alviso/protocol/ResponseHeader", "<init>", "(IZ)V"⟩ : MethodName) prog_97_method_1_code 3 none :: ws) ({ frames := 2, cells := 0, slots := 0, locals := 24 } : Room)) (fun a U => a = #[(.ref a1), (.int p2), (.int p3)] ∧ Z.Warmed39 U.vm ∧ U.heap = h0) (fun _ _ _ _ _ => True) (fun _ U o U' => ∃ v L, o = .returned v ∧ Q_rm15 Z a1 p2 p3 u1 u2 h0 n0 v U'.heap L ∧ FrameEnd U o U' L ({ frames := 2, cells := 0, slots := 0, locals := 24 } : Room).cells ({ frames := 2, cells := 0, slots := 0, locals := 24 } : Room).slots) := by
  refine MetFree.of_bodySF (plainFor_of_name pn_com_example_alviso_alviso_protocol_ResponseHeader) hisR ?_
  intro p e s m args below meth c s₁ Bd hml0 hP hK
  obtain ⟨rfl, hZ, hh⟩ := hP
  have hx := Bd.exec
  have hby := Bd.bytes
  have hml : c.maxLocals = 3 := hml0
  have hown : s.vm.findClass "com/example/alviso/alviso/protocol/ResponseHeader" = some m.cls := findClass_of_methodNamed Bd.named
  have hnm := (name_of_methodNamed Bd.named Bd.method).1
  have X0 : Stand p l e ({ frames := 2, cells := 0, slots := 0, locals := 24 } : Room) s m #[(.ref a1), (.int p2), (.int p3)] below meth c s₁ [] 0 0 := Stand.of_body Bd
  have e0 : s₁.heap = h0 := by rw [← hh, Bd.state]; rfl
  have N0 := Fr.nil n0
  have pre0 : ∀ t, Steps p.tables e below (s₁.setTop (mkF m 0 #[.val (.ref a1), .val (.int p2), .val (.int p3)] [])) t → Steps p.tables e below (s₁.setTop (entryFrame m #[(.ref a1), (.int p2), (.int p3)] 3)) t := fun t k => castTop (ef_rm15 m a1 p2 p3) k
  obtain ⟨_, _, ⟨T1, L1, k1, n1⟩, -, X1, ⟨Lc1, hQ1, l1, y1, z1⟩, st1⟩ := X0.specialBack hx (y := (⟨"java/lang/Record", "<init>", "()V"⟩ : MethodName)) rfl hown (mvT hZ (hw _ (List.mem_of_getElem? (i := 91) rfl))) (mvT hZ (hw _ (List.mem_of_getElem? (i := 42) rfl))) (mvT hZ (hw _ (List.mem_of_getElem? (i := 45) rfl))) (by decide) (backOf (W := 0) (rm8 l Z a0 hw [] a1 h0 n0 Z0 ) hZ (hw _ (List.mem_of_getElem? (i := 45) rfl)) (hw _ (List.mem_of_getElem? (i := 44) rfl)) (by decide) (by decide)) (g := (mkF m 1 #[.val (.ref a1), .val (.int p2), .val (.int p3)] [(.ref a1)])) rfl (by rw [hml]; rfl) (Steps.refl _) (a := a1) (argsL := []) (rest := []) (lenOf pd__28_29V rfl) rfl (by show 2 * 0 + _ ≤ _; exact Nat.le_of_eq rfl) (hb hby d15_1) (fun _ _ => ⟨rfl, e0, (by decide : 0 + 0 ≤ _), (by decide : 0 + 0 ≤ _)⟩)
  dsimp only [Pt.U, Pt.locs, Pt.cells, Pt.slots] at y1 z1 st1 hQ1
  change Stand p l e _ s m _ below meth c T1 L1 k1 n1 at X1
  change L1 = _ ++ Lc1 at l1
  subst y1 z1
  obtain ⟨rfl, N1q, e1⟩ := hQ1
  have N1 : Fr n0 L1 := l1 ▸ Fr.app N0 N1q
  obtain ⟨T2, h2, X2, e2, W2, st2⟩ := putF X1 hx hZ hown (host := "") (Or.inl (hw _ (List.mem_of_getElem? (i := 92) rfl))) Via.refl e1 F_correlationId_a1 E_a1 (Or.inr ⟨(hw _ (List.mem_of_getElem? (i := 93) rfl)), rfl, hnm⟩) (hw _ (List.mem_of_getElem? (i := 60) rfl)) (ty := .int) (by decide) rfl rfl (g := (mkF m 6 #[.val (.ref a1), .val (.int p2), .val (.int p3)] [(.int p2), (.ref a1)])) rfl rfl (hb hby d15_6)
  have K3 : Keep h0 h2 [a1] := (Keep.refl h0 [a1]).wr W2 (Or.inl (List.mem_of_getElem? (i := 0) rfl))
  have N4 := Fr.snoc X2 N1 g_a1
  have Fw2 := F_correlationId_a1.same W2
  have f5 : Fld Z h2 a1 "com/example/alviso/alviso/protocol/ResponseHeader" "flexible" "Z" u2 := (F_flexible_a1.other W2 (Or.inr (slot_ne (Or.inr (hw _ (List.mem_of_getElem? (i := 95) rfl))) (Or.inr (hw _ (List.mem_of_getElem? (i := 93) rfl))) (by decide) (t := .boolean) (t' := .int) (by decide) (by decide))))
  have f6 : Exa Z h2 a1 "com/example/alviso/alviso/protocol/ResponseHeader" := (E_a1.wr W2)
  obtain ⟨T7, h7, X7, e7, W7, st7⟩ := putFN X2 hx hZ hown (hw _ (List.mem_of_getElem? (i := 94) rfl)) Via.refl e2 f5 f6 (Or.inr ⟨(hw _ (List.mem_of_getElem? (i := 95) rfl)), rfl, hnm⟩) (hw _ (List.mem_of_getElem? (i := 60) rfl)) (ty := .boolean) (v' := (.int (nar .boolean p3))) (by decide) rfl (fits_nar_bool _) (g := (mkF m 11 #[.val (.ref a1), .val (.int p2), .val (.int p3)] [(.int p3), (.ref a1)])) rfl rfl (hb hby d15_11)
  have K8 : Keep h0 h7 [a1] := K3.wr W7 (Or.inl (List.mem_of_getElem? (i := 0) rfl))
  have N9 := Fr.snoc X7 N4 g_a1
  have Fw7 := f5.same W7
  have f10 : Exa Z h7 a1 "com/example/alviso/alviso/protocol/ResponseHeader" := (f6.wr W7)
  have f11 : Fld Z h7 a1 "com/example/alviso/alviso/protocol/ResponseHeader" "correlationId" "I" (.int p2) := (Fw2.other W7 (Or.inr (slot_ne (Or.inr (hw _ (List.mem_of_getElem? (i := 93) rfl))) (Or.inr (hw _ (List.mem_of_getElem? (i := 95) rfl))) (by decide) (t := .int) (t' := .boolean) (by decide) (by decide))))
  obtain ⟨fs, hr, hrun, hended, hW, hsame⟩ := X7.leave (v := none) (fun _ => rfl)
  refine ⟨_, _, pre0 _ ?_, hrun, hended, _, _, rfl, ?_, ⟨_, rfl⟩, hW, hsame.mono (by decide) (by decide)⟩
  · show Steps p.tables e below (s₁.setTop (mkF m 0 #[.val (.ref a1), .val (.int p2), .val (.int p3)] [])) _
    refine XS.aloadN X0.here hx rfl (hb hby d15_0) rfl rfl ?_
    show Steps p.tables e below (s₁.setTop (mkF m 1 #[.val (.ref a1), .val (.int p2), .val (.int p3)] [(.ref a1)])) _
    refine st1.trans ?_
    show Steps p.tables e below (T1.setTop (mkF m 4 #[.val (.ref a1), .val (.int p2), .val (.int p3)] [])) _
    refine XS.aloadN X1.here hx rfl (hb hby d15_4) rfl rfl ?_
    show Steps p.tables e below (T1.setTop (mkF m 5 #[.val (.ref a1), .val (.int p2), .val (.int p3)] [(.ref a1)])) _
    refine XS.iloadN X1.here hx rfl (hb hby d15_5) rfl ?_
    show Steps p.tables e below (T1.setTop (mkF m 6 #[.val (.ref a1), .val (.int p2), .val (.int p3)] [(.int p2), (.ref a1)])) _
    refine st2 _ ?_
    show Steps p.tables e below (T2.setTop (mkF m 9 #[.val (.ref a1), .val (.int p2), .val (.int p3)] [])) _
    refine XS.aloadN X2.here hx rfl (hb hby d15_9) rfl rfl ?_
    show Steps p.tables e below (T2.setTop (mkF m 10 #[.val (.ref a1), .val (.int p2), .val (.int p3)] [(.ref a1)])) _
    refine XS.iloadN X2.here hx rfl (hb hby d15_10) rfl ?_
    show Steps p.tables e below (T2.setTop (mkF m 11 #[.val (.ref a1), .val (.int p2), .val (.int p3)] [(.int p3), (.ref a1)])) _
    refine st7 _ ?_
    show Steps p.tables e below (T7.setTop (mkF m 14 #[.val (.ref a1), .val (.int p2), .val (.int p3)] [])) _
    exact X7.returnOut hx Bd.returns (hb hby d15_14) hr
  · show Q_rm15 Z a1 p2 p3 u1 u2 h0 n0 _ T7.heap _
    rw [e7]
    exact ⟨rfl, N9, K8, f10, f11, Fw7⟩
theorem d10_0 : decode prog_95_method_9_code 0 = .ok (.aload_n 0, 1) := by decide +kernel
theorem d10_1 : decode prog_95_method_9_code 1 = .ok (.getfield 17, 3) := by decide +kernel
theorem d10_4 : decode prog_95_method_9_code 4 = .ok (.ireturn, 1) := by decide +kernel
theorem ef_rm10 (m : MethodId) (a1 : Addr) : entryFrame m #[(.ref a1)] 1 = mkF m 0 #[.val (.ref a1)] [] := by first | (simp [entryFrame, mkF, argsToLocals, Value.category]; done) | rfl
def Q_rm10 (Z : State) (a1 : Addr) (x : Int32) (h0 : Heap) (n0 : Nat) (v : Option Value) (h : Heap) (L : List Loc) : Prop := v = some (.int x) ∧ Fr n0 L ∧ h = h0
set_option maxRecDepth 65536 in
set_option maxHeartbeats 40000000 in
theorem rm10 (l : Launch) (Z : State) (a0 : Array Value) (hw : ∀ d ∈ tables_1, d.before a0 Z = true) (ws : List Jvm.Cond) (a1 : Addr) (x : Int32) (h0 : Heap) (n0 : Nat) (Z0 : n0 ≤ h0.size) (F_correlationId_a1 : Fld Z h0 a1 "com/example/alviso/alviso/protocol/RequestHeader" "correlationId" "I" (.int x)) :
    MetFree l (⟨"com/example/alviso/alviso/protocol/RequestHeader", "correlationId", "()I"⟩ : MethodName) (head1 (Jvm.Cond.code (⟨"com/example/alviso/alviso/protocol/RequestHeader", "correlationId", "()I"⟩ : MethodName) prog_95_method_9_code 1 (some .int) :: ws) ({ frames := 0, cells := 0, slots := 0, locals := 0 } : Room)) (fun a U => a = #[(.ref a1)] ∧ Z.Warmed39 U.vm ∧ U.heap = h0) (fun _ _ _ _ _ => True) (fun _ U o U' => ∃ v L, o = .returned v ∧ Q_rm10 Z a1 x h0 n0 v U'.heap L ∧ FrameEnd U o U' L ({ frames := 0, cells := 0, slots := 0, locals := 0 } : Room).cells ({ frames := 0, cells := 0, slots := 0, locals := 0 } : Room).slots) := by
  refine MetFree.of_bodySF (plainFor_of_name pn_com_example_alviso_alviso_protocol_RequestHeader) hisR ?_
  intro p e s m args below meth c s₁ Bd hml0 hP hK
  obtain ⟨rfl, hZ, hh⟩ := hP
  have hx := Bd.exec
  have hby := Bd.bytes
  have hml : c.maxLocals = 1 := hml0
  have hown : s.vm.findClass "com/example/alviso/alviso/protocol/RequestHeader" = some m.cls := findClass_of_methodNamed Bd.named
  have hnm := (name_of_methodNamed Bd.named Bd.method).1
  have X0 : Stand p l e ({ frames := 0, cells := 0, slots := 0, locals := 0 } : Room) s m #[(.ref a1)] below meth c s₁ [] 0 0 := Stand.of_body Bd
  have e0 : s₁.heap = h0 := by rw [← hh, Bd.state]; rfl
  have N0 := Fr.nil n0
  have pre0 : ∀ t, Steps p.tables e below (s₁.setTop (mkF m 0 #[.val (.ref a1)] [])) t → Steps p.tables e below (s₁.setTop (entryFrame m #[(.ref a1)] 1)) t := fun t k => castTop (ef_rm10 m a1) k
  obtain ⟨T1, X1, e1, st1⟩ := getF X0 hx hZ hown (host := "") (Or.inl (hw _ (List.mem_of_getElem? (i := 51) rfl))) Via.refl e0 F_correlationId_a1 (g := (mkF m 1 #[.val (.ref a1)] [(.ref a1)])) rfl rfl (hb hby d10_1)
  obtain ⟨fs, hr, hrun, hended, hW, hsame⟩ := X1.leave (v := some (.int x)) (fun h => by rw [Bd.returns] at h; cases h)
  refine ⟨_, _, pre0 _ ?_, hrun, hended, _, _, rfl, ?_, ⟨_, rfl⟩, hW, hsame.mono (by decide) (by decide)⟩
  · show Steps p.tables e below (s₁.setTop (mkF m 0 #[.val (.ref a1)] [])) _
    refine XS.aloadN X0.here hx rfl (hb hby d10_0) rfl rfl ?_
    show Steps p.tables e below (s₁.setTop (mkF m 1 #[.val (.ref a1)] [(.ref a1)])) _
    refine st1 _ ?_
    show Steps p.tables e below (T1.setTop (mkF m 4 #[.val (.ref a1)] [(.int x)])) _
    exact retI X1 hx Bd.returns (hb hby d10_4) hr
  · show Q_rm10 Z a1 x h0 n0 _ T1.heap _
    rw [e1]
    exact ⟨rfl, N0, rfl⟩
theorem d12_0 : decode prog_95_method_7_code 0 = .ok (.aload_n 0, 1) := by decide +kernel
theorem d12_1 : decode prog_95_method_7_code 1 = .ok (.getfield 7, 3) := by decide +kernel
theorem d12_4 : decode prog_95_method_7_code 4 = .ok (.areturn, 1) := by decide +kernel
theorem ef_rm12 (m : MethodId) (a1 : Addr) : entryFrame m #[(.ref a1)] 1 = mkF m 0 #[.val (.ref a1)] [] := by first | (simp [entryFrame, mkF, argsToLocals, Value.category]; done) | rfl
def Q_rm12 (Z : State) (a1 : Addr) (ar : Addr) (h0 : Heap) (n0 : Nat) (v : Option Value) (h : Heap) (L : List Loc) : Prop := v = some (.ref ar) ∧ Fr n0 L ∧ h = h0
set_option maxRecDepth 65536 in
set_option maxHeartbeats 40000000 in
theorem rm12 (l : Launch) (Z : State) (a0 : Array Value) (hw : ∀ d ∈ tables_1, d.before a0 Z = true) (ws : List Jvm.Cond) (a1 : Addr) (ar : Addr) (h0 : Heap) (n0 : Nat) (Z0 : n0 ≤ h0.size) (F_api_a1 : Fld Z h0 a1 "com/example/alviso/alviso/protocol/RequestHeader" "api" "Lcom/example/alviso/alviso/protocol/ApiKey;" (.ref ar)) :
    MetFree l (⟨"com/example/alviso/alviso/protocol/RequestHeader", "api", "()Lcom/example/alviso/alviso/protocol/ApiKey;"⟩ : MethodName) (head1 (Jvm.Cond.code (⟨"com/example/alviso/alviso/protocol/RequestHeader", "api", "()Lcom/example/alviso/alviso/protocol/ApiKey;"⟩ : MethodName) prog_95_method_7_code 1 (some (.object "com/example/alviso/alviso/protocol/ApiKey")) :: ws) ({ frames := 0, cells := 0, slots := 0, locals := 0 } : Room)) (fun a U => a = #[(.ref a1)] ∧ Z.Warmed39 U.vm ∧ U.heap = h0) (fun _ _ _ _ _ => True) (fun _ U o U' => ∃ v L, o = .returned v ∧ Q_rm12 Z a1 ar h0 n0 v U'.heap L ∧ FrameEnd U o U' L ({ frames := 0, cells := 0, slots := 0, locals := 0 } : Room).cells ({ frames := 0, cells := 0, slots := 0, locals := 0 } : Room).slots) := by
  refine MetFree.of_bodySF (plainFor_of_name pn_com_example_alviso_alviso_protocol_RequestHeader) hisR ?_
  intro p e s m args below meth c s₁ Bd hml0 hP hK
  obtain ⟨rfl, hZ, hh⟩ := hP
  have hx := Bd.exec
  have hby := Bd.bytes
  have hml : c.maxLocals = 1 := hml0
  have hown : s.vm.findClass "com/example/alviso/alviso/protocol/RequestHeader" = some m.cls := findClass_of_methodNamed Bd.named
  have hnm := (name_of_methodNamed Bd.named Bd.method).1
  have X0 : Stand p l e ({ frames := 0, cells := 0, slots := 0, locals := 0 } : Room) s m #[(.ref a1)] below meth c s₁ [] 0 0 := Stand.of_body Bd
  have e0 : s₁.heap = h0 := by rw [← hh, Bd.state]; rfl
  have N0 := Fr.nil n0
  have pre0 : ∀ t, Steps p.tables e below (s₁.setTop (mkF m 0 #[.val (.ref a1)] [])) t → Steps p.tables e below (s₁.setTop (entryFrame m #[(.ref a1)] 1)) t := fun t k => castTop (ef_rm12 m a1) k
  obtain ⟨T1, X1, e1, st1⟩ := getF X0 hx hZ hown (host := "") (Or.inl (hw _ (List.mem_of_getElem? (i := 47) rfl))) Via.refl e0 F_api_a1 (g := (mkF m 1 #[.val (.ref a1)] [(.ref a1)])) rfl rfl (hb hby d12_1)
  obtain ⟨fs, hr, hrun, hended, hW, hsame⟩ := X1.leave (v := some (.ref ar)) (fun h => by rw [Bd.returns] at h; cases h)
  refine ⟨_, _, pre0 _ ?_, hrun, hended, _, _, rfl, ?_, ⟨_, rfl⟩, hW, hsame.mono (by decide) (by decide)⟩
  · show Steps p.tables e below (s₁.setTop (mkF m 0 #[.val (.ref a1)] [])) _
    refine XS.aloadN X0.here hx rfl (hb hby d12_0) rfl rfl ?_
    show Steps p.tables e below (s₁.setTop (mkF m 1 #[.val (.ref a1)] [(.ref a1)])) _
    refine st1 _ ?_
    show Steps p.tables e below (T1.setTop (mkF m 4 #[.val (.ref a1)] [(.ref ar)])) _
    jvm_step X1.here [X1.here.top, hx, (hb hby d12_4), X1.method', Bd.returns, Value.isRef, FieldType.isReference]
    first | (intro acts; rw [hr _ acts rfl rfl rfl]) | rw [hr _ _ rfl rfl rfl]
    exact Steps.refl _
  · show Q_rm12 Z a1 ar h0 n0 _ T1.heap _
    rw [e1]
    exact ⟨rfl, N0, rfl⟩
theorem d13_0 : decode prog_95_method_8_code 0 = .ok (.aload_n 0, 1) := by decide +kernel
theorem d13_1 : decode prog_95_method_8_code 1 = .ok (.getfield 13, 3) := by decide +kernel
theorem d13_4 : decode prog_95_method_8_code 4 = .ok (.ireturn, 1) := by decide +kernel
theorem ef_rm13 (m : MethodId) (a1 : Addr) : entryFrame m #[(.ref a1)] 1 = mkF m 0 #[.val (.ref a1)] [] := by first | (simp [entryFrame, mkF, argsToLocals, Value.category]; done) | rfl
def Q_rm13 (Z : State) (a1 : Addr) (x : Int32) (h0 : Heap) (n0 : Nat) (v : Option Value) (h : Heap) (L : List Loc) : Prop := v = some (.int (nar .short x)) ∧ Fr n0 L ∧ h = h0
set_option maxRecDepth 65536 in
set_option maxHeartbeats 40000000 in
theorem rm13 (l : Launch) (Z : State) (a0 : Array Value) (hw : ∀ d ∈ tables_1, d.before a0 Z = true) (ws : List Jvm.Cond) (a1 : Addr) (x : Int32) (h0 : Heap) (n0 : Nat) (Z0 : n0 ≤ h0.size) (F_version_a1 : Fld Z h0 a1 "com/example/alviso/alviso/protocol/RequestHeader" "version" "S" (.int x)) :
    MetFree l (⟨"com/example/alviso/alviso/protocol/RequestHeader", "version", "()S"⟩ : MethodName) (head1 (Jvm.Cond.code (⟨"com/example/alviso/alviso/protocol/RequestHeader", "version", "()S"⟩ : MethodName) prog_95_method_8_code 1 (some .short) :: ws) ({ frames := 0, cells := 0, slots := 0, locals := 0 } : Room)) (fun a U => a = #[(.ref a1)] ∧ Z.Warmed39 U.vm ∧ U.heap = h0) (fun _ _ _ _ _ => True) (fun _ U o U' => ∃ v L, o = .returned v ∧ Q_rm13 Z a1 x h0 n0 v U'.heap L ∧ FrameEnd U o U' L ({ frames := 0, cells := 0, slots := 0, locals := 0 } : Room).cells ({ frames := 0, cells := 0, slots := 0, locals := 0 } : Room).slots) := by
  refine MetFree.of_bodySF (plainFor_of_name pn_com_example_alviso_alviso_protocol_RequestHeader) hisR ?_
  intro p e s m args below meth c s₁ Bd hml0 hP hK
  obtain ⟨rfl, hZ, hh⟩ := hP
  have hx := Bd.exec
  have hby := Bd.bytes
  have hml : c.maxLocals = 1 := hml0
  have hown : s.vm.findClass "com/example/alviso/alviso/protocol/RequestHeader" = some m.cls := findClass_of_methodNamed Bd.named
  have hnm := (name_of_methodNamed Bd.named Bd.method).1
  have X0 : Stand p l e ({ frames := 0, cells := 0, slots := 0, locals := 0 } : Room) s m #[(.ref a1)] below meth c s₁ [] 0 0 := Stand.of_body Bd
  have e0 : s₁.heap = h0 := by rw [← hh, Bd.state]; rfl
  have N0 := Fr.nil n0
  have pre0 : ∀ t, Steps p.tables e below (s₁.setTop (mkF m 0 #[.val (.ref a1)] [])) t → Steps p.tables e below (s₁.setTop (entryFrame m #[(.ref a1)] 1)) t := fun t k => castTop (ef_rm13 m a1) k
  obtain ⟨T1, X1, e1, st1⟩ := getF X0 hx hZ hown (host := "") (Or.inl (hw _ (List.mem_of_getElem? (i := 49) rfl))) Via.refl e0 F_version_a1 (g := (mkF m 1 #[.val (.ref a1)] [(.ref a1)])) rfl rfl (hb hby d13_1)
  obtain ⟨fs, hr, hrun, hended, hW, hsame⟩ := X1.leave (v := some (.int (nar .short x))) (fun h => by rw [Bd.returns] at h; cases h)
  refine ⟨_, _, pre0 _ ?_, hrun, hended, _, _, rfl, ?_, ⟨_, rfl⟩, hW, hsame.mono (by decide) (by decide)⟩
  · show Steps p.tables e below (s₁.setTop (mkF m 0 #[.val (.ref a1)] [])) _
    refine XS.aloadN X0.here hx rfl (hb hby d13_0) rfl rfl ?_
    show Steps p.tables e below (s₁.setTop (mkF m 1 #[.val (.ref a1)] [(.ref a1)])) _
    refine st1 _ ?_
    show Steps p.tables e below (T1.setTop (mkF m 4 #[.val (.ref a1)] [(.int x)])) _
    exact retN X1 hx (t := .short) Bd.returns (by simp) (hb hby d13_4) hr
  · show Q_rm13 Z a1 x h0 n0 _ T1.heap _
    rw [e1]
    exact ⟨rfl, N0, rfl⟩
theorem d16_0 : decode prog_97_method_9_code 0 = .ok (.aload_n 0, 1) := by decide +kernel
theorem d16_1 : decode prog_97_method_9_code 1 = .ok (.getfield 7, 3) := by decide +kernel
theorem d16_4 : decode prog_97_method_9_code 4 = .ok (.ireturn, 1) := by decide +kernel
theorem ef_rm16 (m : MethodId) (a1 : Addr) : entryFrame m #[(.ref a1)] 1 = mkF m 0 #[.val (.ref a1)] [] := by first | (simp [entryFrame, mkF, argsToLocals, Value.category]; done) | rfl
def Q_rm16 (Z : State) (a1 : Addr) (x : Int32) (h0 : Heap) (n0 : Nat) (v : Option Value) (h : Heap) (L : List Loc) : Prop := v = some (.int x) ∧ Fr n0 L ∧ h = h0
set_option maxRecDepth 65536 in
set_option maxHeartbeats 40000000 in
theorem rm16 (l : Launch) (Z : State) (a0 : Array Value) (hw : ∀ d ∈ tables_1, d.before a0 Z = true) (ws : List Jvm.Cond) (a1 : Addr) (x : Int32) (h0 : Heap) (n0 : Nat) (Z0 : n0 ≤ h0.size) (F_correlationId_a1 : Fld Z h0 a1 "com/example/alviso/alviso/protocol/ResponseHeader" "correlationId" "I" (.int x)) :
    MetFree l (⟨"com/example/alviso/alviso/protocol/ResponseHeader", "correlationId", "()I"⟩ : MethodName) (head1 (Jvm.Cond.code (⟨"com/example/alviso/alviso/protocol/ResponseHeader", "correlationId", "()I"⟩ : MethodName) prog_97_method_9_code 1 (some .int) :: ws) ({ frames := 0, cells := 0, slots := 0, locals := 0 } : Room)) (fun a U => a = #[(.ref a1)] ∧ Z.Warmed39 U.vm ∧ U.heap = h0) (fun _ _ _ _ _ => True) (fun _ U o U' => ∃ v L, o = .returned v ∧ Q_rm16 Z a1 x h0 n0 v U'.heap L ∧ FrameEnd U o U' L ({ frames := 0, cells := 0, slots := 0, locals := 0 } : Room).cells ({ frames := 0, cells := 0, slots := 0, locals := 0 } : Room).slots) := by
  refine MetFree.of_bodySF (plainFor_of_name pn_com_example_alviso_alviso_protocol_ResponseHeader) hisR ?_
  intro p e s m args below meth c s₁ Bd hml0 hP hK
  obtain ⟨rfl, hZ, hh⟩ := hP
  have hx := Bd.exec
  have hby := Bd.bytes
  have hml : c.maxLocals = 1 := hml0
  have hown : s.vm.findClass "com/example/alviso/alviso/protocol/ResponseHeader" = some m.cls := findClass_of_methodNamed Bd.named
  have hnm := (name_of_methodNamed Bd.named Bd.method).1
  have X0 : Stand p l e ({ frames := 0, cells := 0, slots := 0, locals := 0 } : Room) s m #[(.ref a1)] below meth c s₁ [] 0 0 := Stand.of_body Bd
  have e0 : s₁.heap = h0 := by rw [← hh, Bd.state]; rfl
  have N0 := Fr.nil n0
  have pre0 : ∀ t, Steps p.tables e below (s₁.setTop (mkF m 0 #[.val (.ref a1)] [])) t → Steps p.tables e below (s₁.setTop (entryFrame m #[(.ref a1)] 1)) t := fun t k => castTop (ef_rm16 m a1) k
  obtain ⟨T1, X1, e1, st1⟩ := getF X0 hx hZ hown (host := "") (Or.inl (hw _ (List.mem_of_getElem? (i := 92) rfl))) Via.refl e0 F_correlationId_a1 (g := (mkF m 1 #[.val (.ref a1)] [(.ref a1)])) rfl rfl (hb hby d16_1)
  obtain ⟨fs, hr, hrun, hended, hW, hsame⟩ := X1.leave (v := some (.int x)) (fun h => by rw [Bd.returns] at h; cases h)
  refine ⟨_, _, pre0 _ ?_, hrun, hended, _, _, rfl, ?_, ⟨_, rfl⟩, hW, hsame.mono (by decide) (by decide)⟩
  · show Steps p.tables e below (s₁.setTop (mkF m 0 #[.val (.ref a1)] [])) _
    refine XS.aloadN X0.here hx rfl (hb hby d16_0) rfl rfl ?_
    show Steps p.tables e below (s₁.setTop (mkF m 1 #[.val (.ref a1)] [(.ref a1)])) _
    refine st1 _ ?_
    show Steps p.tables e below (T1.setTop (mkF m 4 #[.val (.ref a1)] [(.int x)])) _
    exact retI X1 hx Bd.returns (hb hby d16_4) hr
  · show Q_rm16 Z a1 x h0 n0 _ T1.heap _
    rw [e1]
    exact ⟨rfl, N0, rfl⟩
theorem d17_0 : decode prog_97_method_10_code 0 = .ok (.aload_n 0, 1) := by decide +kernel
theorem d17_1 : decode prog_97_method_10_code 1 = .ok (.getfield 13, 3) := by decide +kernel
theorem d17_4 : decode prog_97_method_10_code 4 = .ok (.ireturn, 1) := by decide +kernel
theorem ef_rm17 (m : MethodId) (a1 : Addr) : entryFrame m #[(.ref a1)] 1 = mkF m 0 #[.val (.ref a1)] [] := by first | (simp [entryFrame, mkF, argsToLocals, Value.category]; done) | rfl
def Q_rm17 (Z : State) (a1 : Addr) (x : Int32) (h0 : Heap) (n0 : Nat) (v : Option Value) (h : Heap) (L : List Loc) : Prop := v = some (.int (nar .boolean x)) ∧ Fr n0 L ∧ h = h0
set_option maxRecDepth 65536 in
set_option maxHeartbeats 40000000 in
theorem rm17 (l : Launch) (Z : State) (a0 : Array Value) (hw : ∀ d ∈ tables_1, d.before a0 Z = true) (ws : List Jvm.Cond) (a1 : Addr) (x : Int32) (h0 : Heap) (n0 : Nat) (Z0 : n0 ≤ h0.size) (F_flexible_a1 : Fld Z h0 a1 "com/example/alviso/alviso/protocol/ResponseHeader" "flexible" "Z" (.int x)) :
    MetFree l (⟨"com/example/alviso/alviso/protocol/ResponseHeader", "flexible", "()Z"⟩ : MethodName) (head1 (Jvm.Cond.code (⟨"com/example/alviso/alviso/protocol/ResponseHeader", "flexible", "()Z"⟩ : MethodName) prog_97_method_10_code 1 (some .boolean) :: ws) ({ frames := 0, cells := 0, slots := 0, locals := 0 } : Room)) (fun a U => a = #[(.ref a1)] ∧ Z.Warmed39 U.vm ∧ U.heap = h0) (fun _ _ _ _ _ => True) (fun _ U o U' => ∃ v L, o = .returned v ∧ Q_rm17 Z a1 x h0 n0 v U'.heap L ∧ FrameEnd U o U' L ({ frames := 0, cells := 0, slots := 0, locals := 0 } : Room).cells ({ frames := 0, cells := 0, slots := 0, locals := 0 } : Room).slots) := by
  refine MetFree.of_bodySF (plainFor_of_name pn_com_example_alviso_alviso_protocol_ResponseHeader) hisR ?_
  intro p e s m args below meth c s₁ Bd hml0 hP hK
  obtain ⟨rfl, hZ, hh⟩ := hP
  have hx := Bd.exec
  have hby := Bd.bytes
  have hml : c.maxLocals = 1 := hml0
  have hown : s.vm.findClass "com/example/alviso/alviso/protocol/ResponseHeader" = some m.cls := findClass_of_methodNamed Bd.named
  have hnm := (name_of_methodNamed Bd.named Bd.method).1
  have X0 : Stand p l e ({ frames := 0, cells := 0, slots := 0, locals := 0 } : Room) s m #[(.ref a1)] below meth c s₁ [] 0 0 := Stand.of_body Bd
  have e0 : s₁.heap = h0 := by rw [← hh, Bd.state]; rfl
  have N0 := Fr.nil n0
  have pre0 : ∀ t, Steps p.tables e below (s₁.setTop (mkF m 0 #[.val (.ref a1)] [])) t → Steps p.tables e below (s₁.setTop (entryFrame m #[(.ref a1)] 1)) t := fun t k => castTop (ef_rm17 m a1) k
  obtain ⟨T1, X1, e1, st1⟩ := getF X0 hx hZ hown (host := "") (Or.inl (hw _ (List.mem_of_getElem? (i := 94) rfl))) Via.refl e0 F_flexible_a1 (g := (mkF m 1 #[.val (.ref a1)] [(.ref a1)])) rfl rfl (hb hby d17_1)
  obtain ⟨fs, hr, hrun, hended, hW, hsame⟩ := X1.leave (v := some (.int (nar .boolean x))) (fun h => by rw [Bd.returns] at h; cases h)
  refine ⟨_, _, pre0 _ ?_, hrun, hended, _, _, rfl, ?_, ⟨_, rfl⟩, hW, hsame.mono (by decide) (by decide)⟩
  · show Steps p.tables e below (s₁.setTop (mkF m 0 #[.val (.ref a1)] [])) _
    refine XS.aloadN X0.here hx rfl (hb hby d17_0) rfl rfl ?_
    show Steps p.tables e below (s₁.setTop (mkF m 1 #[.val (.ref a1)] [(.ref a1)])) _
    refine st1 _ ?_
    show Steps p.tables e below (T1.setTop (mkF m 4 #[.val (.ref a1)] [(.int x)])) _
    exact retN X1 hx (t := .boolean) Bd.returns (by simp) (hb hby d17_4) hr
  · show Q_rm17 Z a1 x h0 n0 _ T1.heap _
    rw [e1]
    exact ⟨rfl, N0, rfl⟩
theorem d14_0 : decode prog_9_method_9_code 0 = .ok (.iload_n 1, 1) := by decide +kernel
theorem d14_1 : decode prog_9_method_9_code 1 = .ok (.aload_n 0, 1) := by decide +kernel
theorem d14_2 : decode prog_9_method_9_code 2 = .ok (.getfield 96, 3) := by decide +kernel
theorem d14_5 : decode prog_9_method_9_code 5 = .ok (.if_icmp .lt 7, 3) := by decide +kernel
theorem d14_12 : decode prog_9_method_9_code 12 = .ok (.iconst 0, 1) := by decide +kernel
theorem d14_8 : decode prog_9_method_9_code 8 = .ok (.iconst 1, 1) := by decide +kernel
theorem d14_9 : decode prog_9_method_9_code 9 = .ok (.goto 4, 3) := by decide +kernel
theorem d14_13 : decode prog_9_method_9_code 13 = .ok (.ireturn, 1) := by decide +kernel
theorem pn_com_example_alviso_alviso_protocol_ApiKey : plainName "com/example/alviso/alviso/protocol/ApiKey" = true := by first | (simp [plainName, overriddenIn]; done) | decide +kernel
def own_isf (p2 : Int32) (p3 : Int32) : Int32 := (if p2 < p3 then (0 : Int32) else (1 : Int32))
theorem ef_rm14 (m : MethodId) (a1 : Addr) (p2 : Int32) : entryFrame m #[(.ref a1), (.int p2)] 2 = mkF m 0 #[.val (.ref a1), .val (.int p2)] [] := by first | (simp [entryFrame, mkF, argsToLocals, Value.category]; done) | rfl
def Q_rm14 (Z : State) (a1 : Addr) (p2 : Int32) (p3 : Int32) (h0 : Heap) (n0 : Nat) (v : Option Value) (h : Heap) (L : List Loc) : Prop := v = some (.int (own_isf p2 p3)) ∧ Fr n0 L ∧ h = h0
set_option maxRecDepth 65536 in
set_option maxHeartbeats 40000000 in
theorem rm14 (l : Launch) (Z : State) (a0 : Array Value) (hw : ∀ d ∈ tables_1, d.before a0 Z = true) (ws : List Jvm.Cond) (a1 : Addr) (p2 : Int32) (p3 : Int32) (h0 : Heap) (n0 : Nat) (Z0 : n0 ≤ h0.size) (F_firstFlexibleVersion_a1 : Fld Z h0 a1 "com/example/alviso/alviso/protocol/ApiKey" "firstFlexibleVersion" "S" (.int p3)) :
    MetFree l (⟨"com/example/alviso/alviso/protocol/ApiKey", "isFlexible", "(S)Z"⟩ : MethodName) (head1 (Jvm.Cond.code (⟨"com/example/alviso/alviso/protocol/ApiKey", "isFlexible", "(S)Z"⟩ : MethodName) prog_9_method_9_code 2 (some .boolean) :: ws) ({ frames := 0, cells := 0, slots := 0, locals := 0 } : Room)) (fun a U => a = #[(.ref a1), (.int p2)] ∧ Z.Warmed39 U.vm ∧ U.heap = h0) (fun _ _ _ _ _ => True) (fun _ U o U' => ∃ v L, o = .returned v ∧ Q_rm14 Z a1 p2 p3 h0 n0 v U'.heap L ∧ FrameEnd U o U' L ({ frames := 0, cells := 0, slots := 0, locals := 0 } : Room).cells ({ frames := 0, cells := 0, slots := 0, locals := 0 } : Room).slots) := by
  refine MetFree.of_bodySF (plainFor_of_name pn_com_example_alviso_alviso_protocol_ApiKey) hisR ?_
  intro p e s m args below meth c s₁ Bd hml0 hP hK
  obtain ⟨rfl, hZ, hh⟩ := hP
  have hx := Bd.exec
  have hby := Bd.bytes
  have hml : c.maxLocals = 2 := hml0
  have hown : s.vm.findClass "com/example/alviso/alviso/protocol/ApiKey" = some m.cls := findClass_of_methodNamed Bd.named
  have hnm := (name_of_methodNamed Bd.named Bd.method).1
  have X0 : Stand p l e ({ frames := 0, cells := 0, slots := 0, locals := 0 } : Room) s m #[(.ref a1), (.int p2)] below meth c s₁ [] 0 0 := Stand.of_body Bd
  have e0 : s₁.heap = h0 := by rw [← hh, Bd.state]; rfl
  have N0 := Fr.nil n0
  have pre0 : ∀ t, Steps p.tables e below (s₁.setTop (mkF m 0 #[.val (.ref a1), .val (.int p2)] [])) t → Steps p.tables e below (s₁.setTop (entryFrame m #[(.ref a1), (.int p2)] 2)) t := fun t k => castTop (ef_rm14 m a1 p2) k
  obtain ⟨T1, X1, e1, st1⟩ := getF X0 hx hZ hown (host := "") (Or.inl (hw _ (List.mem_of_getElem? (i := 86) rfl))) Via.refl e0 F_firstFlexibleVersion_a1 (g := (mkF m 2 #[.val (.ref a1), .val (.int p2)] [(.ref a1), (.int p2)])) rfl rfl (hb hby d14_2)
  have pre3 : ∀ t, Steps p.tables e below (T1.setTop (mkF m 5 #[.val (.ref a1), .val (.int p2)] [(.int p3), (.int p2)])) t → Steps p.tables e below (s₁.setTop (entryFrame m #[(.ref a1), (.int p2)] 2)) t := fun t kt => by
    refine pre0 t ?_
    show Steps p.tables e below (s₁.setTop (mkF m 0 #[.val (.ref a1), .val (.int p2)] [])) _
    refine XS.iloadN X0.here hx rfl (hb hby d14_0) rfl ?_
    show Steps p.tables e below (s₁.setTop (mkF m 1 #[.val (.ref a1), .val (.int p2)] [(.int p2)])) _
    refine XS.aloadN X0.here hx rfl (hb hby d14_1) rfl rfl ?_
    show Steps p.tables e below (s₁.setTop (mkF m 2 #[.val (.ref a1), .val (.int p2)] [(.ref a1), (.int p2)])) _
    refine st1 _ ?_
    exact kt
  by_cases hc5_2 : p2 < p3
  · obtain ⟨fs, hr, hrun, hended, hW, hsame⟩ := X1.leave (v := some (.int (0 : Int32))) (fun h => by rw [Bd.returns] at h; cases h)
    refine ⟨_, _, pre3 _ ?_, hrun, hended, _, _, rfl, ?_, ⟨_, rfl⟩, hW, hsame.mono (by decide) (by decide)⟩
    · show Steps p.tables e below (T1.setTop (mkF m 5 #[.val (.ref a1), .val (.int p2)] [(.int p3), (.int p2)])) _
      refine XS.icmpYes X1.here hx rfl (pc0 := 5) (pc' := 12) rfl (hb hby d14_5) rfl (tlt hc5_2).1 (by decide) (by decide) ?_
      show Steps p.tables e below (T1.setTop (mkF m 12 #[.val (.ref a1), .val (.int p2)] [])) _
      refine XS.iconst X1.here hx rfl (hb hby d14_12) ?_
      show Steps p.tables e below (T1.setTop (mkF m 13 #[.val (.ref a1), .val (.int p2)] [(.int (0 : Int32))])) _
      exact retN X1 hx (t := .boolean) Bd.returns (by simp) (hb hby d14_13) hr
    · show Q_rm14 Z a1 p2 p3 h0 n0 _ T1.heap _
      rw [e1]
      exact ⟨by rw [own_isf, if_pos hc5_2], N0, rfl⟩
  · obtain ⟨fs, hr, hrun, hended, hW, hsame⟩ := X1.leave (v := some (.int (1 : Int32))) (fun h => by rw [Bd.returns] at h; cases h)
    refine ⟨_, _, pre3 _ ?_, hrun, hended, _, _, rfl, ?_, ⟨_, rfl⟩, hW, hsame.mono (by decide) (by decide)⟩
    · show Steps p.tables e below (T1.setTop (mkF m 5 #[.val (.ref a1), .val (.int p2)] [(.int p3), (.int p2)])) _
      refine XS.icmpNo X1.here hx rfl (hb hby d14_5) rfl (flt hc5_2).1 ?_
      show Steps p.tables e below (T1.setTop (mkF m 8 #[.val (.ref a1), .val (.int p2)] [])) _
      refine XS.iconst X1.here hx rfl (hb hby d14_8) ?_
      show Steps p.tables e below (T1.setTop (mkF m 9 #[.val (.ref a1), .val (.int p2)] [(.int (1 : Int32))])) _
      refine XS.goto X1.here hx rfl (pc0 := 9) (pc' := 13) rfl (hb hby d14_9) (by decide) (by decide) ?_
      show Steps p.tables e below (T1.setTop (mkF m 13 #[.val (.ref a1), .val (.int p2)] [(.int (1 : Int32))])) _
      exact retN X1 hx (t := .boolean) Bd.returns (by simp) (hb hby d14_13) hr
    · show Q_rm14 Z a1 p2 p3 h0 n0 _ T1.heap _
      rw [e1]
      exact ⟨by rw [own_isf, if_neg hc5_2], N0, rfl⟩
def own_flex (same : Prop) [Decidable same] (vr ff : Int32) : Int32 := if same then (0 : Int32) else if own_isf vr ff = (0 : Int32) then (0 : Int32) else (1 : Int32)
theorem d11_0 : decode prog_97_method_5_code 0 = .ok (.aload_n 0, 1) := by decide +kernel
theorem pd__28_29Lcom_2fexample_2falviso_2falviso_2fprotocol_2fApiKey_3b : parseMethodDescriptor "()Lcom/example/alviso/alviso/protocol/ApiKey;" = some ⟨[], some (.object "com/example/alviso/alviso/protocol/ApiKey")⟩ := by decide +kernel
theorem d11_1 : decode prog_97_method_5_code 1 = .ok (.invokevirtual 46, 3) := by decide +kernel
theorem d11_4 : decode prog_97_method_5_code 4 = .ok (.getstatic 50, 3) := by decide +kernel
theorem d11_7 : decode prog_97_method_5_code 7 = .ok (.if_acmp .eq 21, 3) := by decide +kernel
theorem d11_28 : decode prog_97_method_5_code 28 = .ok (.iconst 0, 1) := by decide +kernel
theorem d11_29 : decode prog_97_method_5_code 29 = .ok (.ireturn, 1) := by decide +kernel
theorem d11_10 : decode prog_97_method_5_code 10 = .ok (.aload_n 0, 1) := by decide +kernel
theorem d11_11 : decode prog_97_method_5_code 11 = .ok (.invokevirtual 46, 3) := by decide +kernel
theorem d11_14 : decode prog_97_method_5_code 14 = .ok (.aload_n 0, 1) := by decide +kernel
theorem pd__28_29S : parseMethodDescriptor "()S" = some ⟨[], some .short⟩ := by decide +kernel
theorem d11_15 : decode prog_97_method_5_code 15 = .ok (.invokevirtual 56, 3) := by decide +kernel
theorem pd__28S_29Z : parseMethodDescriptor "(S)Z" = some ⟨[.short], some .boolean⟩ := by decide +kernel
theorem d11_18 : decode prog_97_method_5_code 18 = .ok (.invokevirtual 60, 3) := by decide +kernel
theorem d11_21 : decode prog_97_method_5_code 21 = .ok (.ifCond .eq 7, 3) := by decide +kernel
theorem d11_24 : decode prog_97_method_5_code 24 = .ok (.iconst 1, 1) := by decide +kernel
theorem d11_25 : decode prog_97_method_5_code 25 = .ok (.goto 4, 3) := by decide +kernel
theorem ef_rm11 (m : MethodId) (a1 : Addr) : entryFrame m #[(.ref a1)] 1 = mkF m 0 #[.val (.ref a1)] [] := by first | (simp [entryFrame, mkF, argsToLocals, Value.category]; done) | rfl
def Q_rm11 (Z : State) (a1 : Addr) (ar : Addr) (x : Int32) (ff : Int32) (w_API_VERSIONS : Addr) (h0 : Heap) (n0 : Nat) (v : Option Value) (h : Heap) (L : List Loc) : Prop := v = some (.int (own_flex (ar = w_API_VERSIONS) (nar .short x) ff)) ∧ Fr n0 L ∧ h = h0
set_option maxRecDepth 65536 in
set_option maxHeartbeats 40000000 in
theorem rm11 (l : Launch) (Z : State) (a0 : Array Value) (hw : ∀ d ∈ tables_1, d.before a0 Z = true) (ws : List Jvm.Cond) (a1 : Addr) (ar : Addr) (x : Int32) (ff : Int32) (w_API_VERSIONS : Addr) (h0 : Heap) (n0 : Nat) (Z0 : n0 ≤ h0.size) (E_a1 : Exa Z h0 a1 "com/example/alviso/alviso/protocol/RequestHeader") (F_api_a1 : Fld Z h0 a1 "com/example/alviso/alviso/protocol/RequestHeader" "api" "Lcom/example/alviso/alviso/protocol/ApiKey;" (.ref ar)) (F_version_a1 : Fld Z h0 a1 "com/example/alviso/alviso/protocol/RequestHeader" "version" "S" (.int x)) (E_ar : Exa Z h0 ar "com/example/alviso/alviso/protocol/ApiKey") (F_firstFlexibleVersion_ar : Fld Z h0 ar "com/example/alviso/alviso/protocol/ApiKey" "firstFlexibleVersion" "S" (.int ff)) (S_API_VERSIONS : Sta Z h0 "com/example/alviso/alviso/protocol/ApiKey" "API_VERSIONS" "Lcom/example/alviso/alviso/protocol/ApiKey;" (.ref w_API_VERSIONS)) :
    MetFree l (⟨"com/example/alviso/alviso/protocol/ResponseHeader", "isFlexible", "(Lcom/example/alviso/alviso/protocol/RequestHeader;)Z"⟩ : MethodName) (head1 (Jvm.Cond.code (⟨"com/example/alviso/alviso/protocol/ResponseHeader", "isFlexible", "(Lcom/example/alviso/alviso/protocol/RequestHeader;)Z"⟩ : MethodName) prog_97_method_5_code 1 (some .boolean) :: ws) ({ frames := 1, cells := 0, slots := 0, locals := 13 } : Room)) (fun a U => a = #[(.ref a1)] ∧ Z.Warmed39 U.vm ∧ U.heap = h0) (fun _ _ _ _ _ => True) (fun _ U o U' => ∃ v L, o = .returned v ∧ Q_rm11 Z a1 ar x ff w_API_VERSIONS h0 n0 v U'.heap L ∧ FrameEnd U o U' L ({ frames := 1, cells := 0, slots := 0, locals := 13 } : Room).cells ({ frames := 1, cells := 0, slots := 0, locals := 13 } : Room).slots) := by
  refine MetFree.of_bodySF (plainFor_of_name pn_com_example_alviso_alviso_protocol_ResponseHeader) hisR ?_
  intro p e s m args below meth c s₁ Bd hml0 hP hK
  obtain ⟨rfl, hZ, hh⟩ := hP
  have hx := Bd.exec
  have hby := Bd.bytes
  have hml : c.maxLocals = 1 := hml0
  have hown : s.vm.findClass "com/example/alviso/alviso/protocol/ResponseHeader" = some m.cls := findClass_of_methodNamed Bd.named
  have hnm := (name_of_methodNamed Bd.named Bd.method).1
  have X0 : Stand p l e ({ frames := 1, cells := 0, slots := 0, locals := 13 } : Room) s m #[(.ref a1)] below meth c s₁ [] 0 0 := Stand.of_body Bd
  have e0 : s₁.heap = h0 := by rw [← hh, Bd.state]; rfl
  have N0 := Fr.nil n0
  have pre0 : ∀ t, Steps p.tables e below (s₁.setTop (mkF m 0 #[.val (.ref a1)] [])) t → Steps p.tables e below (s₁.setTop (entryFrame m #[(.ref a1)] 1)) t := fun t k => castTop (ef_rm11 m a1) k
  obtain ⟨cq1, kq1, q1a, q1b, q1c⟩ := isOf hZ e0 E_a1
  obtain ⟨_, _, ⟨T1, L1, k1, n1⟩, -, X1, ⟨Lc1, hQ1, l1, y1, z1⟩, st1⟩ := X0.virtualBack hx (y := (⟨"com/example/alviso/alviso/protocol/RequestHeader", "api", "()Lcom/example/alviso/alviso/protocol/ApiKey;"⟩ : MethodName)) (z := (⟨"com/example/alviso/alviso/protocol/RequestHeader", "api", "()Lcom/example/alviso/alviso/protocol/ApiKey;"⟩ : MethodName)) hown (mvT hZ (hw _ (List.mem_of_getElem? (i := 69) rfl))) (mvT hZ (hw _ (List.mem_of_getElem? (i := 70) rfl))) (notFace_of_selects (args := #[]) (mvT hZ (hw _ (List.mem_of_getElem? (i := 72) rfl)))) (mvT hZ (hw _ (List.mem_of_getElem? (i := 72) rfl))) (mvT hZ (hw _ (List.mem_of_getElem? (i := 71) rfl))) (by decide) (backOf (W := 0) (rm12 l Z a0 hw [] a1 ar h0 n0 Z0 F_api_a1) hZ (hw _ (List.mem_of_getElem? (i := 73) rfl)) (hw _ (List.mem_of_getElem? (i := 37) rfl)) (by decide) (by decide)) q1a q1c (g := (mkF m 1 #[.val (.ref a1)] [(.ref a1)])) rfl (by rw [hml]; rfl) (Steps.refl _) (argsL := []) (rest := []) (lenOf pd__28_29Lcom_2fexample_2falviso_2falviso_2fprotocol_2fApiKey_3b rfl) rfl (by show 2 * 0 + _ ≤ _; exact Nat.le_of_eq rfl) (hb hby d11_1) (fun _ _ => ⟨rfl, e0, (by decide : 0 + 0 ≤ _), (by decide : 0 + 0 ≤ _)⟩)
  dsimp only [Pt.U, Pt.locs, Pt.cells, Pt.slots] at y1 z1 st1 hQ1
  change Stand p l e _ s m _ below meth c T1 L1 k1 n1 at X1
  change L1 = _ ++ Lc1 at l1
  subst y1 z1
  obtain ⟨rfl, N1q, e1⟩ := hQ1
  have N1 : Fr n0 L1 := l1 ▸ Fr.app N0 N1q
  obtain ⟨T2, X2, e2, st2⟩ := getS2 X1 hx hZ hown (host := "") (Or.inl (hw _ (List.mem_of_getElem? (i := 74) rfl))) Via.refl e1 S_API_VERSIONS (g := (mkF m 4 #[.val (.ref a1)] [(.ref ar)])) rfl (hb hby d11_4)
  have pre3 : ∀ t, Steps p.tables e below (T2.setTop (mkF m 7 #[.val (.ref a1)] [(.ref w_API_VERSIONS), (.ref ar)])) t → Steps p.tables e below (s₁.setTop (entryFrame m #[(.ref a1)] 1)) t := fun t kt => by
    refine pre0 t ?_
    show Steps p.tables e below (s₁.setTop (mkF m 0 #[.val (.ref a1)] [])) _
    refine XS.aloadN X0.here hx rfl (hb hby d11_0) rfl rfl ?_
    show Steps p.tables e below (s₁.setTop (mkF m 1 #[.val (.ref a1)] [(.ref a1)])) _
    refine st1.trans ?_
    show Steps p.tables e below (T1.setTop (mkF m 4 #[.val (.ref a1)] [(.ref ar)])) _
    refine st2 _ ?_
    exact kt
  by_cases hS : ar = w_API_VERSIONS
  · obtain ⟨fs, hr, hrun, hended, hW, hsame⟩ := X2.leave (v := some (.int (0 : Int32))) (fun h => by rw [Bd.returns] at h; cases h)
    refine ⟨_, _, pre3 _ ?_, hrun, hended, _, _, rfl, ?_, ⟨_, rfl⟩, hW, hsame.mono (by decide) (by decide)⟩
    · show Steps p.tables e below (T2.setTop (mkF m 7 #[.val (.ref a1)] [(.ref w_API_VERSIONS), (.ref ar)])) _
      refine Jvm.RoadKit.acmp (g := (mkF m 7 #[.val (.ref a1)] [(.ref w_API_VERSIONS), (.ref ar)])) X2 hx rfl rfl rfl (pc0 := 7) (pc' := 28) (same := true) rfl (hb hby d11_7) rfl (decide_eq_true (congrArg Value.ref hS)) (by decide) (by decide) ?_
      show Steps p.tables e below (T2.setTop (mkF m 28 #[.val (.ref a1)] [])) _
      refine XS.iconst X2.here hx rfl (hb hby d11_28) ?_
      show Steps p.tables e below (T2.setTop (mkF m 29 #[.val (.ref a1)] [(.int (0 : Int32))])) _
      exact retN X2 hx (t := .boolean) Bd.returns (by simp) (hb hby d11_29) hr
    · show Q_rm11 Z a1 ar x ff w_API_VERSIONS h0 n0 _ T2.heap _
      rw [e2]
      exact ⟨by rw [own_flex, if_pos hS], N1, rfl⟩
  · obtain ⟨cq4, kq4, q4a, q4b, q4c⟩ := isOf hZ e2 E_a1
    obtain ⟨_, _, ⟨T4, L4, k4, n4⟩, -, X4, ⟨Lc4, hQ4, l4, y4, z4⟩, st4⟩ := X2.virtualBack hx (y := (⟨"com/example/alviso/alviso/protocol/RequestHeader", "api", "()Lcom/example/alviso/alviso/protocol/ApiKey;"⟩ : MethodName)) (z := (⟨"com/example/alviso/alviso/protocol/RequestHeader", "api", "()Lcom/example/alviso/alviso/protocol/ApiKey;"⟩ : MethodName)) hown (mvT hZ (hw _ (List.mem_of_getElem? (i := 69) rfl))) (mvT hZ (hw _ (List.mem_of_getElem? (i := 70) rfl))) (notFace_of_selects (args := #[]) (mvT hZ (hw _ (List.mem_of_getElem? (i := 72) rfl)))) (mvT hZ (hw _ (List.mem_of_getElem? (i := 72) rfl))) (mvT hZ (hw _ (List.mem_of_getElem? (i := 71) rfl))) (by decide) (backOf (W := 0) (rm12 l Z a0 hw [] a1 ar h0 n0 Z0 F_api_a1) hZ (hw _ (List.mem_of_getElem? (i := 73) rfl)) (hw _ (List.mem_of_getElem? (i := 37) rfl)) (by decide) (by decide)) q4a q4c (g := (mkF m 11 #[.val (.ref a1)] [(.ref a1)])) rfl (by rw [hml]; rfl) (Steps.refl _) (argsL := []) (rest := []) (lenOf pd__28_29Lcom_2fexample_2falviso_2falviso_2fprotocol_2fApiKey_3b rfl) rfl (by show 2 * 0 + _ ≤ _; exact Nat.le_of_eq rfl) (hb hby d11_11) (fun _ _ => ⟨rfl, e2, (by decide : 0 + 0 ≤ _), (by decide : 0 + 0 ≤ _)⟩)
    dsimp only [Pt.U, Pt.locs, Pt.cells, Pt.slots] at y4 z4 st4 hQ4
    change Stand p l e _ s m _ below meth c T4 L4 k4 n4 at X4
    change L4 = _ ++ Lc4 at l4
    subst y4 z4
    obtain ⟨rfl, N4q, e4⟩ := hQ4
    have N4 : Fr n0 L4 := l4 ▸ Fr.app N1 N4q
    obtain ⟨cq5, kq5, q5a, q5b, q5c⟩ := isOf hZ e4 E_a1
    obtain ⟨_, _, ⟨T5, L5, k5, n5⟩, -, X5, ⟨Lc5, hQ5, l5, y5, z5⟩, st5⟩ := X4.virtualBack hx (y := (⟨"com/example/alviso/alviso/protocol/RequestHeader", "version", "()S"⟩ : MethodName)) (z := (⟨"com/example/alviso/alviso/protocol/RequestHeader", "version", "()S"⟩ : MethodName)) hown (mvT hZ (hw _ (List.mem_of_getElem? (i := 76) rfl))) (mvT hZ (hw _ (List.mem_of_getElem? (i := 77) rfl))) (notFace_of_selects (args := #[]) (mvT hZ (hw _ (List.mem_of_getElem? (i := 79) rfl)))) (mvT hZ (hw _ (List.mem_of_getElem? (i := 79) rfl))) (mvT hZ (hw _ (List.mem_of_getElem? (i := 78) rfl))) (by decide) (backOf (W := 1) (rm13 l Z a0 hw [] a1 x h0 n0 Z0 F_version_a1) hZ (hw _ (List.mem_of_getElem? (i := 80) rfl)) (hw _ (List.mem_of_getElem? (i := 37) rfl)) (by decide) (by decide)) q5a q5c (g := (mkF m 15 #[.val (.ref a1)] [(.ref a1), (.ref ar)])) rfl (by rw [hml]; rfl) (Steps.refl _) (argsL := []) (rest := [(.ref ar)]) (lenOf pd__28_29S rfl) rfl (by show 2 * 0 + _ ≤ _; exact Nat.le_of_eq rfl) (hb hby d11_15) (fun _ _ => ⟨rfl, e4, (by decide : 0 + 0 ≤ _), (by decide : 0 + 0 ≤ _)⟩)
    dsimp only [Pt.U, Pt.locs, Pt.cells, Pt.slots] at y5 z5 st5 hQ5
    change Stand p l e _ s m _ below meth c T5 L5 k5 n5 at X5
    change L5 = _ ++ Lc5 at l5
    subst y5 z5
    obtain ⟨rfl, N5q, e5⟩ := hQ5
    have N5 : Fr n0 L5 := l5 ▸ Fr.app N4 N5q
    obtain ⟨cq6, kq6, q6a, q6b, q6c⟩ := isOf hZ e5 E_ar
    obtain ⟨_, _, ⟨T6, L6, k6, n6⟩, -, X6, ⟨Lc6, hQ6, l6, y6, z6⟩, st6⟩ := X5.virtualBack hx (y := (⟨"com/example/alviso/alviso/protocol/ApiKey", "isFlexible", "(S)Z"⟩ : MethodName)) (z := (⟨"com/example/alviso/alviso/protocol/ApiKey", "isFlexible", "(S)Z"⟩ : MethodName)) hown (mvT hZ (hw _ (List.mem_of_getElem? (i := 81) rfl))) (mvT hZ (hw _ (List.mem_of_getElem? (i := 82) rfl))) (notFace_of_selects (args := #[]) (mvT hZ (hw _ (List.mem_of_getElem? (i := 84) rfl)))) (mvT hZ (hw _ (List.mem_of_getElem? (i := 84) rfl))) (mvT hZ (hw _ (List.mem_of_getElem? (i := 83) rfl))) (by decide) (backOf (W := 0) (rm14 l Z a0 hw [] ar (nar .short x) ff h0 n0 Z0 F_firstFlexibleVersion_ar) hZ (hw _ (List.mem_of_getElem? (i := 85) rfl)) (hw _ (List.mem_of_getElem? (i := 6) rfl)) (by decide) (by decide)) q6a q6c (g := (mkF m 18 #[.val (.ref a1)] [(.int (nar .short x)), (.ref ar)])) rfl (by rw [hml]; rfl) (Steps.refl _) (argsL := [(.int (nar .short x))]) (rest := []) (lenOf pd__28S_29Z rfl) rfl (by show 2 * 0 + _ ≤ _; exact Nat.le_of_eq rfl) (hb hby d11_18) (fun _ _ => ⟨rfl, e5, (by decide : 0 + 0 ≤ _), (by decide : 0 + 0 ≤ _)⟩)
    dsimp only [Pt.U, Pt.locs, Pt.cells, Pt.slots] at y6 z6 st6 hQ6
    change Stand p l e _ s m _ below meth c T6 L6 k6 n6 at X6
    change L6 = _ ++ Lc6 at l6
    subst y6 z6
    obtain ⟨rfl, N6q, e6⟩ := hQ6
    have N6 : Fr n0 L6 := l6 ▸ Fr.app N5 N6q
    have pre7 : ∀ t, Steps p.tables e below (T6.setTop (mkF m 21 #[.val (.ref a1)] [(.int (own_isf (nar .short x) ff))])) t → Steps p.tables e below (s₁.setTop (entryFrame m #[(.ref a1)] 1)) t := fun t kt => by
      refine pre3 t ?_
      show Steps p.tables e below (T2.setTop (mkF m 7 #[.val (.ref a1)] [(.ref w_API_VERSIONS), (.ref ar)])) _
      refine Jvm.RoadKit.acmp (g := (mkF m 7 #[.val (.ref a1)] [(.ref w_API_VERSIONS), (.ref ar)])) X2 hx rfl rfl rfl (pc0 := 7) (pc' := 10) (same := false) rfl (hb hby d11_7) rfl (decide_eq_false fun q => hS (Value.ref.inj q)) (by decide) (by decide) ?_
      show Steps p.tables e below (T2.setTop (mkF m 10 #[.val (.ref a1)] [])) _
      refine XS.aloadN X2.here hx rfl (hb hby d11_10) rfl rfl ?_
      show Steps p.tables e below (T2.setTop (mkF m 11 #[.val (.ref a1)] [(.ref a1)])) _
      refine st4.trans ?_
      show Steps p.tables e below (T4.setTop (mkF m 14 #[.val (.ref a1)] [(.ref ar)])) _
      refine XS.aloadN X4.here hx rfl (hb hby d11_14) rfl rfl ?_
      show Steps p.tables e below (T4.setTop (mkF m 15 #[.val (.ref a1)] [(.ref a1), (.ref ar)])) _
      refine st5.trans ?_
      show Steps p.tables e below (T5.setTop (mkF m 18 #[.val (.ref a1)] [(.int (nar .short x)), (.ref ar)])) _
      refine st6.trans ?_
      exact kt
    by_cases hF : (own_isf (nar .short x) ff) = (0 : Int32)
    · obtain ⟨fs, hr, hrun, hended, hW, hsame⟩ := X6.leave (v := some (.int (0 : Int32))) (fun h => by rw [Bd.returns] at h; cases h)
      refine ⟨_, _, pre7 _ ?_, hrun, hended, _, _, rfl, ?_, ⟨_, rfl⟩, hW, hsame.mono (by decide) (by decide)⟩
      · show Steps p.tables e below (T6.setTop (mkF m 21 #[.val (.ref a1)] [(.int (own_isf (nar .short x) ff))])) _
        refine XS.ifYes X6.here hx rfl (pc0 := 21) (pc' := 28) rfl (hb hby d11_21) rfl ((if0 _ _).trans (teq hF).1) (by decide) (by decide) ?_
        show Steps p.tables e below (T6.setTop (mkF m 28 #[.val (.ref a1)] [])) _
        refine XS.iconst X6.here hx rfl (hb hby d11_28) ?_
        show Steps p.tables e below (T6.setTop (mkF m 29 #[.val (.ref a1)] [(.int (0 : Int32))])) _
        exact retN X6 hx (t := .boolean) Bd.returns (by simp) (hb hby d11_29) hr
      · show Q_rm11 Z a1 ar x ff w_API_VERSIONS h0 n0 _ T6.heap _
        rw [e6]
        exact ⟨by rw [own_flex, if_neg hS, if_pos hF], N6, rfl⟩
    · obtain ⟨fs, hr, hrun, hended, hW, hsame⟩ := X6.leave (v := some (.int (1 : Int32))) (fun h => by rw [Bd.returns] at h; cases h)
      refine ⟨_, _, pre7 _ ?_, hrun, hended, _, _, rfl, ?_, ⟨_, rfl⟩, hW, hsame.mono (by decide) (by decide)⟩
      · show Steps p.tables e below (T6.setTop (mkF m 21 #[.val (.ref a1)] [(.int (own_isf (nar .short x) ff))])) _
        refine XS.ifNo X6.here hx rfl (hb hby d11_21) rfl ((if0 _ _).trans (feq hF).1) ?_
        show Steps p.tables e below (T6.setTop (mkF m 24 #[.val (.ref a1)] [])) _
        refine XS.iconst X6.here hx rfl (hb hby d11_24) ?_
        show Steps p.tables e below (T6.setTop (mkF m 25 #[.val (.ref a1)] [(.int (1 : Int32))])) _
        refine XS.goto X6.here hx rfl (pc0 := 25) (pc' := 29) rfl (hb hby d11_25) (by decide) (by decide) ?_
        show Steps p.tables e below (T6.setTop (mkF m 29 #[.val (.ref a1)] [(.int (1 : Int32))])) _
        exact retN X6 hx (t := .boolean) Bd.returns (by simp) (hb hby d11_29) hr
      · show Q_rm11 Z a1 ar x ff w_API_VERSIONS h0 n0 _ T6.heap _
        rw [e6]
        exact ⟨by rw [own_flex, if_neg hS, if_neg hF], N6, rfl⟩
theorem d9_0 : decode prog_97_method_2_code 0 = .ok (.new 8, 3) := by decide +kernel
theorem d9_3 : decode prog_97_method_2_code 3 = .ok (.dup, 1) := by decide +kernel
theorem d9_4 : decode prog_97_method_2_code 4 = .ok (.aload_n 0, 1) := by decide +kernel
theorem pd__28_29I : parseMethodDescriptor "()I" = some ⟨[], some .int⟩ := by decide +kernel
theorem d9_5 : decode prog_97_method_2_code 5 = .ok (.invokevirtual 17, 3) := by decide +kernel
theorem d9_8 : decode prog_97_method_2_code 8 = .ok (.aload_n 0, 1) := by decide +kernel
theorem pd__28Lcom_2fexample_2falviso_2falviso_2fprotocol_2fRequestHeader_3b_29Z : parseMethodDescriptor "(Lcom/example/alviso/alviso/protocol/RequestHeader;)Z" = some ⟨[(.object "com/example/alviso/alviso/protocol/RequestHeader")], some .boolean⟩ := by decide +kernel
theorem d9_9 : decode prog_97_method_2_code 9 = .ok (.invokestatic 22, 3) := by decide +kernel
theorem pd__28IZ_29V : parseMethodDescriptor "(IZ)V" = some ⟨[.int, .boolean], none⟩ := by decide +kernel
theorem d9_12 : decode prog_97_method_2_code 12 = .ok (.invokespecial 26, 3) := by decide +kernel
theorem d9_15 : decode prog_97_method_2_code 15 = .ok (.areturn, 1) := by decide +kernel
theorem ef_rm9 (m : MethodId) (a1 : Addr) : entryFrame m #[(.ref a1)] 1 = mkF m 0 #[.val (.ref a1)] [] := by first | (simp [entryFrame, mkF, argsToLocals, Value.category]; done) | rfl
def Q_rm9 (Z : State) (a1 : Addr) (ar : Addr) (x : Int32) (y : Int32) (ff : Int32) (w_API_VERSIONS : Addr) (h0 : Heap) (n0 : Nat) (v : Option Value) (h : Heap) (L : List Loc) : Prop := ∃ r : Addr, v = some (.ref r) ∧ Fr n0 L ∧ Keep h0 h [] ∧ h0.size ≤ r ∧ Exa Z h r "com/example/alviso/alviso/protocol/ResponseHeader" ∧ Fld Z h r "com/example/alviso/alviso/protocol/ResponseHeader" "correlationId" "I" (.int y) ∧ Fld Z h r "com/example/alviso/alviso/protocol/ResponseHeader" "flexible" "Z" (.int (nar .boolean (own_flex (ar = w_API_VERSIONS) (nar .short x) ff)))
set_option maxRecDepth 65536 in
set_option maxHeartbeats 40000000 in
theorem rm9 (l : Launch) (Z : State) (a0 : Array Value) (hw : ∀ d ∈ tables_1, d.before a0 Z = true) (ws : List Jvm.Cond) (a1 : Addr) (ar : Addr) (x : Int32) (y : Int32) (ff : Int32) (w_API_VERSIONS : Addr) (h0 : Heap) (n0 : Nat) (Z0 : n0 ≤ h0.size) (E_a1 : Exa Z h0 a1 "com/example/alviso/alviso/protocol/RequestHeader") (F_api_a1 : Fld Z h0 a1 "com/example/alviso/alviso/protocol/RequestHeader" "api" "Lcom/example/alviso/alviso/protocol/ApiKey;" (.ref ar)) (F_version_a1 : Fld Z h0 a1 "com/example/alviso/alviso/protocol/RequestHeader" "version" "S" (.int x)) (F_correlationId_a1 : Fld Z h0 a1 "com/example/alviso/alviso/protocol/RequestHeader" "correlationId" "I" (.int y)) (E_ar : Exa Z h0 ar "com/example/alviso/alviso/protocol/ApiKey") (F_firstFlexibleVersion_ar : Fld Z h0 ar "com/example/alviso/alviso/protocol/ApiKey" "firstFlexibleVersion" "S" (.int ff)) (S_API_VERSIONS : Sta Z h0 "com/example/alviso/alviso/protocol/ApiKey" "API_VERSIONS" "Lcom/example/alviso/alviso/protocol/ApiKey;" (.ref w_API_VERSIONS)) :
    MetFree l (⟨"com/example/alviso/alviso/protocol/ResponseHeader", "answering", "(Lcom/example/alviso/alviso/protocol/RequestHeader;)Lcom/example/alviso/alviso/protocol/ResponseHeader;"⟩ : MethodName) (head1 (Jvm.Cond.code (⟨"com/example/alviso/alviso/protocol/ResponseHeader", "answering", "(Lcom/example/alviso/alviso/protocol/RequestHeader;)Lcom/example/alviso/alviso/protocol/ResponseHeader;"⟩ : MethodName) prog_97_method_2_code 1 (some (.object "com/example/alviso/alviso/protocol/ResponseHeader")) :: ws) ({ frames := 3, cells := 1, slots := 2, locals := 39 } : Room)) (fun a U => a = #[(.ref a1)] ∧ Z.Warmed39 U.vm ∧ U.heap = h0) (fun _ _ _ _ _ => True) (fun _ U o U' => ∃ v L, o = .returned v ∧ Q_rm9 Z a1 ar x y ff w_API_VERSIONS h0 n0 v U'.heap L ∧ FrameEnd U o U' L ({ frames := 3, cells := 1, slots := 2, locals := 39 } : Room).cells ({ frames := 3, cells := 1, slots := 2, locals := 39 } : Room).slots) := by
  refine MetFree.of_bodySF (plainFor_of_name pn_com_example_alviso_alviso_protocol_ResponseHeader) hisR ?_
  intro p e s m args below meth c s₁ Bd hml0 hP hK
  obtain ⟨rfl, hZ, hh⟩ := hP
  have hx := Bd.exec
  have hby := Bd.bytes
  have hml : c.maxLocals = 1 := hml0
  have hown : s.vm.findClass "com/example/alviso/alviso/protocol/ResponseHeader" = some m.cls := findClass_of_methodNamed Bd.named
  have hnm := (name_of_methodNamed Bd.named Bd.method).1
  have X0 : Stand p l e ({ frames := 3, cells := 1, slots := 2, locals := 39 } : Room) s m #[(.ref a1)] below meth c s₁ [] 0 0 := Stand.of_body Bd
  have e0 : s₁.heap = h0 := by rw [← hh, Bd.state]; rfl
  have N0 := Fr.nil n0
  have pre0 : ∀ t, Steps p.tables e below (s₁.setTop (mkF m 0 #[.val (.ref a1)] [])) t → Steps p.tables e below (s₁.setTop (entryFrame m #[(.ref a1)] 1)) t := fun t k => castTop (ef_rm9 m a1) k
  obtain ⟨T1, h1, X1, e1, E1, A1, D1, -, st1⟩ := newO X0 hx hZ hown (hw _ (List.mem_of_getElem? (i := 59) rfl)) (hw _ (List.mem_of_getElem? (i := 60) rfl)) (hw _ (List.mem_of_getElem? (i := 57) rfl)) e0 (g := (mkF m 0 #[.val (.ref a1)] [])) rfl (hb hby d9_0) (by decide) (by decide)
  obtain ⟨b1, g1⟩ : ∃ z, z = h0.size := ⟨_, rfl⟩
  rw [← g1] at A1 D1 st1
  have ne_a1_b1 : a1 ≠ b1 := Nat.ne_of_lt (Nat.lt_of_lt_of_le E_a1.lt (Nat.le_of_eq g1.symm))
  have ne_ar_b1 : ar ≠ b1 := Nat.ne_of_lt (Nat.lt_of_lt_of_le E_ar.lt (Nat.le_of_eq g1.symm))
  have g_b1 : n0 ≤ b1 := Nat.le_trans Z0 (Nat.le_of_eq g1.symm)
  have sz_b1 : h0.size ≤ b1 := Nat.le_trans (Keep.refl h0 []).1 (Nat.le_of_eq g1.symm)
  have K2 : Keep h0 h1 [] := (Keep.refl h0 []).ext E1
  have F_correlationId_b1 : Fld Z h1 b1 "com/example/alviso/alviso/protocol/ResponseHeader" "correlationId" "I" (.int (0 : Int32)) := D1 (Or.inr (hw _ (List.mem_of_getElem? (i := 93) rfl))) (ty := .int) (by decide)
  have F_flexible_b1 : Fld Z h1 b1 "com/example/alviso/alviso/protocol/ResponseHeader" "flexible" "Z" (.int (0 : Int32)) := D1 (Or.inr (hw _ (List.mem_of_getElem? (i := 95) rfl))) (ty := .boolean) (by decide)
  have f3 : Fld Z h1 a1 "com/example/alviso/alviso/protocol/RequestHeader" "correlationId" "I" (.int y) := (F_correlationId_a1.ext E1)
  have f5 : Exa Z h1 a1 "com/example/alviso/alviso/protocol/RequestHeader" := (E_a1.ext E1)
  obtain ⟨cq4, kq4, q4a, q4b, q4c⟩ := isOf hZ e1 f5
  obtain ⟨_, _, ⟨T4, L4, k4, n4⟩, -, X4, ⟨Lc4, hQ4, l4, y4, z4⟩, st4⟩ := X1.virtualBack hx (y := (⟨"com/example/alviso/alviso/protocol/RequestHeader", "correlationId", "()I"⟩ : MethodName)) (z := (⟨"com/example/alviso/alviso/protocol/RequestHeader", "correlationId", "()I"⟩ : MethodName)) hown (mvT hZ (hw _ (List.mem_of_getElem? (i := 61) rfl))) (mvT hZ (hw _ (List.mem_of_getElem? (i := 62) rfl))) (notFace_of_selects (args := #[]) (mvT hZ (hw _ (List.mem_of_getElem? (i := 64) rfl)))) (mvT hZ (hw _ (List.mem_of_getElem? (i := 64) rfl))) (mvT hZ (hw _ (List.mem_of_getElem? (i := 63) rfl))) (by decide) (backOf (W := 2) (rm10 l Z a0 hw [] a1 y h1 n0 (Nat.le_trans Z0 K2.1) f3) hZ (hw _ (List.mem_of_getElem? (i := 65) rfl)) (hw _ (List.mem_of_getElem? (i := 37) rfl)) (by decide) (by decide)) q4a q4c (g := (mkF m 5 #[.val (.ref a1)] [(.ref a1), (.ref b1), (.ref b1)])) rfl (by rw [hml]; rfl) (Steps.refl _) (argsL := []) (rest := [(.ref b1), (.ref b1)]) (lenOf pd__28_29I rfl) rfl (by show 2 * 0 + _ ≤ _; exact Nat.le_of_eq rfl) (hb hby d9_5) (fun _ _ => ⟨rfl, e1, (by decide : 1 + 0 ≤ _), (by decide : 2 + 0 ≤ _)⟩)
  dsimp only [Pt.U, Pt.locs, Pt.cells, Pt.slots] at y4 z4 st4 hQ4
  change Stand p l e _ s m _ below meth c T4 L4 k4 n4 at X4
  change L4 = _ ++ Lc4 at l4
  subst y4 z4
  obtain ⟨rfl, N4q, e4⟩ := hQ4
  have N4 : Fr n0 L4 := l4 ▸ Fr.app N0 N4q
  have f6 : Fld Z h1 a1 "com/example/alviso/alviso/protocol/RequestHeader" "api" "Lcom/example/alviso/alviso/protocol/ApiKey;" (.ref ar) := (F_api_a1.ext E1)
  have f7 : Fld Z h1 a1 "com/example/alviso/alviso/protocol/RequestHeader" "version" "S" (.int x) := (F_version_a1.ext E1)
  have f8 : Exa Z h1 ar "com/example/alviso/alviso/protocol/ApiKey" := (E_ar.ext E1)
  have f9 : Fld Z h1 ar "com/example/alviso/alviso/protocol/ApiKey" "firstFlexibleVersion" "S" (.int ff) := (F_firstFlexibleVersion_ar.ext E1)
  have f10 : Sta Z h1 "com/example/alviso/alviso/protocol/ApiKey" "API_VERSIONS" "Lcom/example/alviso/alviso/protocol/ApiKey;" (.ref w_API_VERSIONS) := (S_API_VERSIONS.ext E1)
  obtain ⟨_, _, ⟨T11, L11, k11, n11⟩, -, X11, ⟨Lc11, hQ11, l11, y11, z11⟩, st11⟩ := Jvm.LawKit.callS X4 hx (y := (⟨"com/example/alviso/alviso/protocol/ResponseHeader", "isFlexible", "(Lcom/example/alviso/alviso/protocol/RequestHeader;)Z"⟩ : MethodName)) hown (mvT hZ (hw _ (List.mem_of_getElem? (i := 66) rfl))) (mvT hZ (hw _ (List.mem_of_getElem? (i := 67) rfl))) (mvT hZ (hw _ (List.mem_of_getElem? (i := 57) rfl))) (mvT hZ (hw _ (List.mem_of_getElem? (i := 68) rfl))) (by decide) (backOf (W := 3) (rm11 l Z a0 hw [] a1 ar x ff w_API_VERSIONS h1 n0 (Nat.le_trans Z0 K2.1) f5 f6 f7 f8 f9 f10) hZ (hw _ (List.mem_of_getElem? (i := 68) rfl)) (hw _ (List.mem_of_getElem? (i := 57) rfl)) (by decide) (by decide)) (g := (mkF m 9 #[.val (.ref a1)] [(.ref a1), (.int y), (.ref b1), (.ref b1)])) rfl (by rw [hml]; rfl) (argsL := [(.ref a1)]) (rest := [(.int y), (.ref b1), (.ref b1)]) (lenOf pd__28Lcom_2fexample_2falviso_2falviso_2fprotocol_2fRequestHeader_3b_29Z rfl) rfl (by show 2 * 0 + _ ≤ _; exact Nat.le_of_eq rfl) (hb hby d9_9) (fun _ _ => ⟨rfl, e4, (by decide : 1 + 0 ≤ _), (by decide : 2 + 0 ≤ _)⟩)
  dsimp only [Pt.U, Pt.locs, Pt.cells, Pt.slots] at y11 z11 st11 hQ11
  change Stand p l e _ s m _ below meth c T11 L11 k11 n11 at X11
  change L11 = _ ++ Lc11 at l11
  subst y11 z11
  obtain ⟨rfl, N11q, e11⟩ := hQ11
  have N11 : Fr n0 L11 := l11 ▸ Fr.app N4 N11q
  obtain ⟨_, _, ⟨T12, L12, k12, n12⟩, -, X12, ⟨Lc12, hQ12, l12, y12, z12⟩, st12⟩ := X11.specialBack hx (y := (⟨"com/example/alviso/alviso/protocol/ResponseHeader", "<init>", "(IZ)V"⟩ : MethodName)) rfl hown (mvT hZ (hw _ (List.mem_of_getElem? (i := 88) rfl))) (mvT hZ (hw _ (List.mem_of_getElem? (i := 89) rfl))) (mvT hZ (hw _ (List.mem_of_getElem? (i := 90) rfl))) (by decide) (backOf (W := 1) (rm15 l Z a0 hw [] b1 y (own_flex (ar = w_API_VERSIONS) (nar .short x) ff) (.int (0 : Int32)) (.int (0 : Int32)) h1 n0 (Nat.le_trans Z0 K2.1) A1 F_correlationId_b1 F_flexible_b1 g_b1) hZ (hw _ (List.mem_of_getElem? (i := 90) rfl)) (hw _ (List.mem_of_getElem? (i := 57) rfl)) (by decide) (by decide)) (g := (mkF m 12 #[.val (.ref a1)] [(.int (own_flex (ar = w_API_VERSIONS) (nar .short x) ff)), (.int y), (.ref b1), (.ref b1)])) rfl (by rw [hml]; rfl) (Steps.refl _) (a := b1) (argsL := [(.int y), (.int (own_flex (ar = w_API_VERSIONS) (nar .short x) ff))]) (rest := [(.ref b1)]) (lenOf pd__28IZ_29V rfl) rfl (by show 2 * 0 + _ ≤ _; exact Nat.le_of_eq rfl) (hb hby d9_12) (fun _ _ => ⟨rfl, e11, (by decide : 1 + 0 ≤ _), (by decide : 2 + 0 ≤ _)⟩)
  dsimp only [Pt.U, Pt.locs, Pt.cells, Pt.slots] at y12 z12 st12 hQ12
  change Stand p l e _ s m _ below meth c T12 L12 k12 n12 at X12
  change L12 = _ ++ Lc12 at l12
  subst y12 z12
  obtain ⟨rfl, N12q, K12q, t12_0, t12_1, t12_2⟩ := hQ12
  have N12 : Fr n0 L12 := l12 ▸ Fr.app N11 N12q
  have K12 : Keep h0 T12.heap [] := K2.trans K12q (allS (P := fun x => x ∈ [] ∨ h0.size ≤ x) (Or.inr sz_b1) all0)
  obtain ⟨fs, hr, hrun, hended, hW, hsame⟩ := X12.leave (v := some (.ref b1)) (fun h => by rw [Bd.returns] at h; cases h)
  refine ⟨_, _, pre0 _ ?_, hrun, hended, _, _, rfl, ?_, ⟨_, rfl⟩, hW, hsame.mono (by decide) (by decide)⟩
  · show Steps p.tables e below (s₁.setTop (mkF m 0 #[.val (.ref a1)] [])) _
    refine st1 _ ?_
    show Steps p.tables e below (T1.setTop (mkF m 3 #[.val (.ref a1)] [(.ref b1)])) _
    refine XS.dup X1.here hx rfl (hb hby d9_3) rfl rfl ?_
    show Steps p.tables e below (T1.setTop (mkF m 4 #[.val (.ref a1)] [(.ref b1), (.ref b1)])) _
    refine XS.aloadN X1.here hx rfl (hb hby d9_4) rfl rfl ?_
    show Steps p.tables e below (T1.setTop (mkF m 5 #[.val (.ref a1)] [(.ref a1), (.ref b1), (.ref b1)])) _
    refine st4.trans ?_
    show Steps p.tables e below (T4.setTop (mkF m 8 #[.val (.ref a1)] [(.int y), (.ref b1), (.ref b1)])) _
    refine XS.aloadN X4.here hx rfl (hb hby d9_8) rfl rfl ?_
    show Steps p.tables e below (T4.setTop (mkF m 9 #[.val (.ref a1)] [(.ref a1), (.int y), (.ref b1), (.ref b1)])) _
    refine st11 _ ?_
    show Steps p.tables e below (T11.setTop (mkF m 12 #[.val (.ref a1)] [(.int (own_flex (ar = w_API_VERSIONS) (nar .short x) ff)), (.int y), (.ref b1), (.ref b1)])) _
    refine st12.trans ?_
    show Steps p.tables e below (T12.setTop (mkF m 15 #[.val (.ref a1)] [(.ref b1)])) _
    jvm_step X12.here [X12.here.top, hx, (hb hby d9_15), X12.method', Bd.returns, Value.isRef, FieldType.isReference]
    first | (intro acts; rw [hr _ acts rfl rfl rfl]) | rw [hr _ _ rfl rfl rfl]
    exact Steps.refl _
  · show Q_rm9 Z a1 ar x y ff w_API_VERSIONS h0 n0 _ T12.heap _
    exact ⟨b1, rfl, N12, K12, sz_b1, t12_0, t12_1, t12_2⟩
theorem own_ns (x : Int32) : nar .short (nar .short (x.toInt16.toInt32)) = x.toInt16.toInt32 := by simp [nar]
theorem own_nb0 : nar .boolean (nar .boolean (0 : Int32)) = 0 := by decide
theorem own_nb1 : nar .boolean (nar .boolean (1 : Int32)) = 1 := by decide
theorem own_fin1 {S : Prop} [Decidable S] {v ff : Int32} (h : S) : (nar .boolean (nar .boolean (own_flex S (nar .short (nar .short (v.toInt16.toInt32))) ff))) = (0 : Int32) := by
  rw [own_flex, if_pos h]; exact own_nb0
theorem own_fin2 {S : Prop} [Decidable S] {v ff : Int32} (h : ¬ S) (g : v.toInt16.toInt32 < ff) : (nar .boolean (nar .boolean (own_flex S (nar .short (nar .short (v.toInt16.toInt32))) ff))) = (0 : Int32) := by
  rw [own_ns, own_flex, if_neg h, own_isf, if_pos g, if_pos rfl]; exact own_nb0
theorem own_fin3 {S : Prop} [Decidable S] {v ff : Int32} (h : ¬ S) (g : ¬ (v.toInt16.toInt32 < ff)) : (nar .boolean (nar .boolean (own_flex S (nar .short (nar .short (v.toInt16.toInt32))) ff))) = (1 : Int32) := by
  rw [own_ns, own_flex, if_neg h, own_isf, if_neg g, if_neg (by decide)]; exact own_nb1
theorem own_c255 (x : Int32) : ¬ ((255 : Int32) < ((x &&& (255 : Int32)).toUInt32.toUInt16.toUInt32.toInt32)) := by
  rw [i2c_mask]
  have e := Jvm.Kit.i32_mask x (255 : Int32) (k := 8) (by decide) (by decide)
  have e2 : (255 : Int32).toInt = 255 := by decide
  rw [Int32.lt_iff_toInt_lt, e, e2]; omega
theorem pd__28I_29Lcom_2fexample_2falviso_2falviso_2fprotocol_2fApiKey_3b : parseMethodDescriptor "(I)Lcom/example/alviso/alviso/protocol/ApiKey;" = some ⟨[.int], some (.object "com/example/alviso/alviso/protocol/ApiKey")⟩ := by decide +kernel
theorem pd__28C_29Ljava_2flang_2fString_3b : parseMethodDescriptor "(C)Ljava/lang/String;" = some ⟨[.char], some (.object "java/lang/String")⟩ := by decide +kernel
theorem pd__28Lcom_2fexample_2falviso_2falviso_2fprotocol_2fApiKey_3bSILjava_2flang_2fString_3b_29V : parseMethodDescriptor "(Lcom/example/alviso/alviso/protocol/ApiKey;SILjava/lang/String;)V" = some ⟨[(.object "com/example/alviso/alviso/protocol/ApiKey"), .short, .int, (.object "java/lang/String")], none⟩ := by decide +kernel
theorem pd__28Lcom_2fexample_2falviso_2falviso_2fprotocol_2fRequestHeader_3b_29Lcom_2fexample_2falviso_2falviso_2fprotocol_2fResponseHeader_3b : parseMethodDescriptor "(Lcom/example/alviso/alviso/protocol/RequestHeader;)Lcom/example/alviso/alviso/protocol/ResponseHeader;" = some ⟨[(.object "com/example/alviso/alviso/protocol/RequestHeader")], some (.object "com/example/alviso/alviso/protocol/ResponseHeader")⟩ := by decide +kernel
theorem pd__28_29Z : parseMethodDescriptor "()Z" = some ⟨[], some .boolean⟩ := by decide +kernel
theorem ef_rm0 (m : MethodId) (p1 : Int32) (p2 : Int32) (p3 : Int32) (p4 : Int32) : entryFrame m #[(.int p1), (.int p2), (.int p3), (.int p4)] maxLocals = mkF m 0 #[.val (.int p1), .val (.int p2), .val (.int p3), .val (.int p4), .unset, .unset, .unset, .unset, .unset, .unset, .unset, .unset] [] := by first | (simp [entryFrame, mkF, argsToLocals, Value.category, maxLocals]; done) | rfl
def Q_rm0 (Z : State) (p1 : Int32) (p2 : Int32) (p3 : Int32) (p4 : Int32) (w_PRODUCE : Addr) (w_FETCH : Addr) (w_LIST_OFFSETS : Addr) (w_METADATA : Addr) (w_OFFSET_COMMIT : Addr) (w_OFFSET_FETCH : Addr) (w_FIND_COORDINATOR : Addr) (w_JOIN_GROUP : Addr) (w_HEARTBEAT : Addr) (w_LEAVE_GROUP : Addr) (w_SYNC_GROUP : Addr) (w_API_VERSIONS : Addr) (w_CREATE_TOPICS : Addr) (w_INIT_PRODUCER_ID : Addr) (w_OFFSET_FOR_LEADER_EPOCH : Addr) (w_DESCRIBE_CONFIGS : Addr) (w_ELECT_LEADERS : Addr) (w_ALTER_PARTITION : Addr) (w_BROKER_REGISTRATION : Addr) (w_BROKER_HEARTBEAT : Addr) (w_ALLOCATE_PRODUCER_IDS : Addr) (cs : Int32) (h0 : Heap) (n0 : Nat) (v : Option Value) (h : Heap) (L : List Loc) : Prop := v = some (.int (1 : Int32)) ∧ Fr n0 L
set_option maxRecDepth 65536 in
set_option maxHeartbeats 40000000 in
theorem rm0 (l : Launch) (Z : State) (a0 : Array Value) (hw : ∀ d ∈ tables_1, d.before a0 Z = true) (ws : List Jvm.Cond) (p1 : Int32) (p2 : Int32) (p3 : Int32) (p4 : Int32) (w_PRODUCE : Addr) (w_FETCH : Addr) (w_LIST_OFFSETS : Addr) (w_METADATA : Addr) (w_OFFSET_COMMIT : Addr) (w_OFFSET_FETCH : Addr) (w_FIND_COORDINATOR : Addr) (w_JOIN_GROUP : Addr) (w_HEARTBEAT : Addr) (w_LEAVE_GROUP : Addr) (w_SYNC_GROUP : Addr) (w_API_VERSIONS : Addr) (w_CREATE_TOPICS : Addr) (w_INIT_PRODUCER_ID : Addr) (w_OFFSET_FOR_LEADER_EPOCH : Addr) (w_DESCRIBE_CONFIGS : Addr) (w_ELECT_LEADERS : Addr) (w_ALTER_PARTITION : Addr) (w_BROKER_REGISTRATION : Addr) (w_BROKER_HEARTBEAT : Addr) (w_ALLOCATE_PRODUCER_IDS : Addr) (cs : Int32) (h0 : Heap) (n0 : Nat) (Z0 : n0 ≤ h0.size) (S_PRODUCE : Sta Z h0 "com/example/alviso/alviso/protocol/ApiKey" "PRODUCE" "Lcom/example/alviso/alviso/protocol/ApiKey;" (.ref w_PRODUCE)) (S_FETCH : Sta Z h0 "com/example/alviso/alviso/protocol/ApiKey" "FETCH" "Lcom/example/alviso/alviso/protocol/ApiKey;" (.ref w_FETCH)) (S_LIST_OFFSETS : Sta Z h0 "com/example/alviso/alviso/protocol/ApiKey" "LIST_OFFSETS" "Lcom/example/alviso/alviso/protocol/ApiKey;" (.ref w_LIST_OFFSETS)) (S_METADATA : Sta Z h0 "com/example/alviso/alviso/protocol/ApiKey" "METADATA" "Lcom/example/alviso/alviso/protocol/ApiKey;" (.ref w_METADATA)) (S_OFFSET_COMMIT : Sta Z h0 "com/example/alviso/alviso/protocol/ApiKey" "OFFSET_COMMIT" "Lcom/example/alviso/alviso/protocol/ApiKey;" (.ref w_OFFSET_COMMIT)) (S_OFFSET_FETCH : Sta Z h0 "com/example/alviso/alviso/protocol/ApiKey" "OFFSET_FETCH" "Lcom/example/alviso/alviso/protocol/ApiKey;" (.ref w_OFFSET_FETCH)) (S_FIND_COORDINATOR : Sta Z h0 "com/example/alviso/alviso/protocol/ApiKey" "FIND_COORDINATOR" "Lcom/example/alviso/alviso/protocol/ApiKey;" (.ref w_FIND_COORDINATOR)) (S_JOIN_GROUP : Sta Z h0 "com/example/alviso/alviso/protocol/ApiKey" "JOIN_GROUP" "Lcom/example/alviso/alviso/protocol/ApiKey;" (.ref w_JOIN_GROUP)) (S_HEARTBEAT : Sta Z h0 "com/example/alviso/alviso/protocol/ApiKey" "HEARTBEAT" "Lcom/example/alviso/alviso/protocol/ApiKey;" (.ref w_HEARTBEAT)) (S_LEAVE_GROUP : Sta Z h0 "com/example/alviso/alviso/protocol/ApiKey" "LEAVE_GROUP" "Lcom/example/alviso/alviso/protocol/ApiKey;" (.ref w_LEAVE_GROUP)) (S_SYNC_GROUP : Sta Z h0 "com/example/alviso/alviso/protocol/ApiKey" "SYNC_GROUP" "Lcom/example/alviso/alviso/protocol/ApiKey;" (.ref w_SYNC_GROUP)) (S_API_VERSIONS : Sta Z h0 "com/example/alviso/alviso/protocol/ApiKey" "API_VERSIONS" "Lcom/example/alviso/alviso/protocol/ApiKey;" (.ref w_API_VERSIONS)) (S_CREATE_TOPICS : Sta Z h0 "com/example/alviso/alviso/protocol/ApiKey" "CREATE_TOPICS" "Lcom/example/alviso/alviso/protocol/ApiKey;" (.ref w_CREATE_TOPICS)) (S_INIT_PRODUCER_ID : Sta Z h0 "com/example/alviso/alviso/protocol/ApiKey" "INIT_PRODUCER_ID" "Lcom/example/alviso/alviso/protocol/ApiKey;" (.ref w_INIT_PRODUCER_ID)) (S_OFFSET_FOR_LEADER_EPOCH : Sta Z h0 "com/example/alviso/alviso/protocol/ApiKey" "OFFSET_FOR_LEADER_EPOCH" "Lcom/example/alviso/alviso/protocol/ApiKey;" (.ref w_OFFSET_FOR_LEADER_EPOCH)) (S_DESCRIBE_CONFIGS : Sta Z h0 "com/example/alviso/alviso/protocol/ApiKey" "DESCRIBE_CONFIGS" "Lcom/example/alviso/alviso/protocol/ApiKey;" (.ref w_DESCRIBE_CONFIGS)) (S_ELECT_LEADERS : Sta Z h0 "com/example/alviso/alviso/protocol/ApiKey" "ELECT_LEADERS" "Lcom/example/alviso/alviso/protocol/ApiKey;" (.ref w_ELECT_LEADERS)) (S_ALTER_PARTITION : Sta Z h0 "com/example/alviso/alviso/protocol/ApiKey" "ALTER_PARTITION" "Lcom/example/alviso/alviso/protocol/ApiKey;" (.ref w_ALTER_PARTITION)) (S_BROKER_REGISTRATION : Sta Z h0 "com/example/alviso/alviso/protocol/ApiKey" "BROKER_REGISTRATION" "Lcom/example/alviso/alviso/protocol/ApiKey;" (.ref w_BROKER_REGISTRATION)) (S_BROKER_HEARTBEAT : Sta Z h0 "com/example/alviso/alviso/protocol/ApiKey" "BROKER_HEARTBEAT" "Lcom/example/alviso/alviso/protocol/ApiKey;" (.ref w_BROKER_HEARTBEAT)) (S_ALLOCATE_PRODUCER_IDS : Sta Z h0 "com/example/alviso/alviso/protocol/ApiKey" "ALLOCATE_PRODUCER_IDS" "Lcom/example/alviso/alviso/protocol/ApiKey;" (.ref w_ALLOCATE_PRODUCER_IDS)) (E_w_PRODUCE : Exa Z h0 w_PRODUCE "com/example/alviso/alviso/protocol/ApiKey") (E_w_FETCH : Exa Z h0 w_FETCH "com/example/alviso/alviso/protocol/ApiKey") (E_w_LIST_OFFSETS : Exa Z h0 w_LIST_OFFSETS "com/example/alviso/alviso/protocol/ApiKey") (E_w_METADATA : Exa Z h0 w_METADATA "com/example/alviso/alviso/protocol/ApiKey") (E_w_OFFSET_COMMIT : Exa Z h0 w_OFFSET_COMMIT "com/example/alviso/alviso/protocol/ApiKey") (E_w_OFFSET_FETCH : Exa Z h0 w_OFFSET_FETCH "com/example/alviso/alviso/protocol/ApiKey") (E_w_FIND_COORDINATOR : Exa Z h0 w_FIND_COORDINATOR "com/example/alviso/alviso/protocol/ApiKey") (E_w_JOIN_GROUP : Exa Z h0 w_JOIN_GROUP "com/example/alviso/alviso/protocol/ApiKey") (E_w_HEARTBEAT : Exa Z h0 w_HEARTBEAT "com/example/alviso/alviso/protocol/ApiKey") (E_w_LEAVE_GROUP : Exa Z h0 w_LEAVE_GROUP "com/example/alviso/alviso/protocol/ApiKey") (E_w_SYNC_GROUP : Exa Z h0 w_SYNC_GROUP "com/example/alviso/alviso/protocol/ApiKey") (E_w_API_VERSIONS : Exa Z h0 w_API_VERSIONS "com/example/alviso/alviso/protocol/ApiKey") (E_w_CREATE_TOPICS : Exa Z h0 w_CREATE_TOPICS "com/example/alviso/alviso/protocol/ApiKey") (E_w_INIT_PRODUCER_ID : Exa Z h0 w_INIT_PRODUCER_ID "com/example/alviso/alviso/protocol/ApiKey") (E_w_OFFSET_FOR_LEADER_EPOCH : Exa Z h0 w_OFFSET_FOR_LEADER_EPOCH "com/example/alviso/alviso/protocol/ApiKey") (E_w_DESCRIBE_CONFIGS : Exa Z h0 w_DESCRIBE_CONFIGS "com/example/alviso/alviso/protocol/ApiKey") (E_w_ELECT_LEADERS : Exa Z h0 w_ELECT_LEADERS "com/example/alviso/alviso/protocol/ApiKey") (E_w_ALTER_PARTITION : Exa Z h0 w_ALTER_PARTITION "com/example/alviso/alviso/protocol/ApiKey") (E_w_BROKER_REGISTRATION : Exa Z h0 w_BROKER_REGISTRATION "com/example/alviso/alviso/protocol/ApiKey") (E_w_BROKER_HEARTBEAT : Exa Z h0 w_BROKER_HEARTBEAT "com/example/alviso/alviso/protocol/ApiKey") (E_w_ALLOCATE_PRODUCER_IDS : Exa Z h0 w_ALLOCATE_PRODUCER_IDS "com/example/alviso/alviso/protocol/ApiKey") (F_firstFlexibleVersion_w_PRODUCE : Fld Z h0 w_PRODUCE "com/example/alviso/alviso/protocol/ApiKey" "firstFlexibleVersion" "S" (.int (9 : Int32))) (F_firstFlexibleVersion_w_FETCH : Fld Z h0 w_FETCH "com/example/alviso/alviso/protocol/ApiKey" "firstFlexibleVersion" "S" (.int (12 : Int32))) (F_firstFlexibleVersion_w_LIST_OFFSETS : Fld Z h0 w_LIST_OFFSETS "com/example/alviso/alviso/protocol/ApiKey" "firstFlexibleVersion" "S" (.int (6 : Int32))) (F_firstFlexibleVersion_w_METADATA : Fld Z h0 w_METADATA "com/example/alviso/alviso/protocol/ApiKey" "firstFlexibleVersion" "S" (.int (9 : Int32))) (F_firstFlexibleVersion_w_OFFSET_COMMIT : Fld Z h0 w_OFFSET_COMMIT "com/example/alviso/alviso/protocol/ApiKey" "firstFlexibleVersion" "S" (.int (8 : Int32))) (F_firstFlexibleVersion_w_OFFSET_FETCH : Fld Z h0 w_OFFSET_FETCH "com/example/alviso/alviso/protocol/ApiKey" "firstFlexibleVersion" "S" (.int (6 : Int32))) (F_firstFlexibleVersion_w_FIND_COORDINATOR : Fld Z h0 w_FIND_COORDINATOR "com/example/alviso/alviso/protocol/ApiKey" "firstFlexibleVersion" "S" (.int (3 : Int32))) (F_firstFlexibleVersion_w_JOIN_GROUP : Fld Z h0 w_JOIN_GROUP "com/example/alviso/alviso/protocol/ApiKey" "firstFlexibleVersion" "S" (.int (6 : Int32))) (F_firstFlexibleVersion_w_HEARTBEAT : Fld Z h0 w_HEARTBEAT "com/example/alviso/alviso/protocol/ApiKey" "firstFlexibleVersion" "S" (.int (4 : Int32))) (F_firstFlexibleVersion_w_LEAVE_GROUP : Fld Z h0 w_LEAVE_GROUP "com/example/alviso/alviso/protocol/ApiKey" "firstFlexibleVersion" "S" (.int (4 : Int32))) (F_firstFlexibleVersion_w_SYNC_GROUP : Fld Z h0 w_SYNC_GROUP "com/example/alviso/alviso/protocol/ApiKey" "firstFlexibleVersion" "S" (.int (4 : Int32))) (F_firstFlexibleVersion_w_API_VERSIONS : Fld Z h0 w_API_VERSIONS "com/example/alviso/alviso/protocol/ApiKey" "firstFlexibleVersion" "S" (.int (3 : Int32))) (F_firstFlexibleVersion_w_CREATE_TOPICS : Fld Z h0 w_CREATE_TOPICS "com/example/alviso/alviso/protocol/ApiKey" "firstFlexibleVersion" "S" (.int (5 : Int32))) (F_firstFlexibleVersion_w_INIT_PRODUCER_ID : Fld Z h0 w_INIT_PRODUCER_ID "com/example/alviso/alviso/protocol/ApiKey" "firstFlexibleVersion" "S" (.int (2 : Int32))) (F_firstFlexibleVersion_w_OFFSET_FOR_LEADER_EPOCH : Fld Z h0 w_OFFSET_FOR_LEADER_EPOCH "com/example/alviso/alviso/protocol/ApiKey" "firstFlexibleVersion" "S" (.int (4 : Int32))) (F_firstFlexibleVersion_w_DESCRIBE_CONFIGS : Fld Z h0 w_DESCRIBE_CONFIGS "com/example/alviso/alviso/protocol/ApiKey" "firstFlexibleVersion" "S" (.int (4 : Int32))) (F_firstFlexibleVersion_w_ELECT_LEADERS : Fld Z h0 w_ELECT_LEADERS "com/example/alviso/alviso/protocol/ApiKey" "firstFlexibleVersion" "S" (.int (2 : Int32))) (F_firstFlexibleVersion_w_ALTER_PARTITION : Fld Z h0 w_ALTER_PARTITION "com/example/alviso/alviso/protocol/ApiKey" "firstFlexibleVersion" "S" (.int (0 : Int32))) (F_firstFlexibleVersion_w_BROKER_REGISTRATION : Fld Z h0 w_BROKER_REGISTRATION "com/example/alviso/alviso/protocol/ApiKey" "firstFlexibleVersion" "S" (.int (0 : Int32))) (F_firstFlexibleVersion_w_BROKER_HEARTBEAT : Fld Z h0 w_BROKER_HEARTBEAT "com/example/alviso/alviso/protocol/ApiKey" "firstFlexibleVersion" "S" (.int (0 : Int32))) (F_firstFlexibleVersion_w_ALLOCATE_PRODUCER_IDS : Fld Z h0 w_ALLOCATE_PRODUCER_IDS "com/example/alviso/alviso/protocol/ApiKey" "firstFlexibleVersion" "S" (.int (0 : Int32))) (hne_PRODUCE : ¬ (w_PRODUCE = w_API_VERSIONS)) (hne_FETCH : ¬ (w_FETCH = w_API_VERSIONS)) (hne_LIST_OFFSETS : ¬ (w_LIST_OFFSETS = w_API_VERSIONS)) (hne_METADATA : ¬ (w_METADATA = w_API_VERSIONS)) (hne_OFFSET_COMMIT : ¬ (w_OFFSET_COMMIT = w_API_VERSIONS)) (hne_OFFSET_FETCH : ¬ (w_OFFSET_FETCH = w_API_VERSIONS)) (hne_FIND_COORDINATOR : ¬ (w_FIND_COORDINATOR = w_API_VERSIONS)) (hne_JOIN_GROUP : ¬ (w_JOIN_GROUP = w_API_VERSIONS)) (hne_HEARTBEAT : ¬ (w_HEARTBEAT = w_API_VERSIONS)) (hne_LEAVE_GROUP : ¬ (w_LEAVE_GROUP = w_API_VERSIONS)) (hne_SYNC_GROUP : ¬ (w_SYNC_GROUP = w_API_VERSIONS)) (hne_CREATE_TOPICS : ¬ (w_CREATE_TOPICS = w_API_VERSIONS)) (hne_INIT_PRODUCER_ID : ¬ (w_INIT_PRODUCER_ID = w_API_VERSIONS)) (hne_OFFSET_FOR_LEADER_EPOCH : ¬ (w_OFFSET_FOR_LEADER_EPOCH = w_API_VERSIONS)) (hne_DESCRIBE_CONFIGS : ¬ (w_DESCRIBE_CONFIGS = w_API_VERSIONS)) (hne_ELECT_LEADERS : ¬ (w_ELECT_LEADERS = w_API_VERSIONS)) (hne_ALTER_PARTITION : ¬ (w_ALTER_PARTITION = w_API_VERSIONS)) (hne_BROKER_REGISTRATION : ¬ (w_BROKER_REGISTRATION = w_API_VERSIONS)) (hne_BROKER_HEARTBEAT : ¬ (w_BROKER_HEARTBEAT = w_API_VERSIONS)) (hne_ALLOCATE_PRODUCER_IDS : ¬ (w_ALLOCATE_PRODUCER_IDS = w_API_VERSIONS)) (S_COMPACT_STRINGS : Sta Z h0 "java/lang/String" "COMPACT_STRINGS" "Z" (.int cs)) (hcs : ¬ (cs = (0 : Int32))) :
    MetFree l x (head1 (Jvm.Cond.code x code maxLocals ret :: ws) room_1) (fun a U => a = #[(.int p1), (.int p2), (.int p3), (.int p4)] ∧ Z.Warmed39 U.vm ∧ U.heap = h0) (fun _ _ _ _ _ => True) (fun _ U o U' => ∃ v L, o = .returned v ∧ Q_rm0 Z p1 p2 p3 p4 w_PRODUCE w_FETCH w_LIST_OFFSETS w_METADATA w_OFFSET_COMMIT w_OFFSET_FETCH w_FIND_COORDINATOR w_JOIN_GROUP w_HEARTBEAT w_LEAVE_GROUP w_SYNC_GROUP w_API_VERSIONS w_CREATE_TOPICS w_INIT_PRODUCER_ID w_OFFSET_FOR_LEADER_EPOCH w_DESCRIBE_CONFIGS w_ELECT_LEADERS w_ALTER_PARTITION w_BROKER_REGISTRATION w_BROKER_HEARTBEAT w_ALLOCATE_PRODUCER_IDS cs h0 n0 v U'.heap L ∧ FrameEnd U o U' L room_1.cells room_1.slots) := by
  refine MetFree.of_bodySF (plainFor_of_name pn_com_example_alviso_alviso_protocol_ResponseHeaderAnsweringPinLaw) hisR ?_
  intro p e s m args below meth c s₁ Bd hml0 hP hK
  obtain ⟨rfl, hZ, hh⟩ := hP
  have hx := Bd.exec
  have hby := Bd.bytes
  have hml : c.maxLocals = 12 := hml0
  have hown : s.vm.findClass "com/example/alviso/alviso/protocol/ResponseHeaderAnsweringPinLaw" = some m.cls := findClass_of_methodNamed Bd.named
  have hnm := (name_of_methodNamed Bd.named Bd.method).1
  have X0 : Stand p l e room_1 s m #[(.int p1), (.int p2), (.int p3), (.int p4)] below meth c s₁ [] 0 0 := Stand.of_body Bd
  have e0 : s₁.heap = h0 := by rw [← hh, Bd.state]; rfl
  have N0 := Fr.nil n0
  have pre0 : ∀ t, Steps p.tables e below (s₁.setTop (mkF m 0 #[.val (.int p1), .val (.int p2), .val (.int p3), .val (.int p4), .unset, .unset, .unset, .unset, .unset, .unset, .unset, .unset] [])) t → Steps p.tables e below (s₁.setTop (entryFrame m #[(.int p1), (.int p2), (.int p3), (.int p4)] maxLocals)) t := fun t k => castTop (ef_rm0 m p1 p2 p3 p4) k
  obtain ⟨_, _, ⟨T1, L1, k1, n1⟩, -, X1, ⟨Lc1, hQ1, l1, y1, z1⟩, st1⟩ := Jvm.LawKit.callS X0 hx (y := (⟨"com/example/alviso/alviso/protocol/ResponseHeaderAnsweringPinLaw", "api", "(I)Lcom/example/alviso/alviso/protocol/ApiKey;"⟩ : MethodName)) hown (mvT hZ (hw _ (List.mem_of_getElem? (i := 1) rfl))) (mvT hZ (hw _ (List.mem_of_getElem? (i := 2) rfl))) (mvT hZ (hw _ (List.mem_of_getElem? (i := 3) rfl))) (mvT hZ (hw _ (List.mem_of_getElem? (i := 4) rfl))) (by decide) (backOf (W := 0) (rm1 l Z a0 hw [] ((p1 &&& (2147483647 : Int32)) % (21 : Int32)) w_PRODUCE w_FETCH w_LIST_OFFSETS w_METADATA w_OFFSET_COMMIT w_OFFSET_FETCH w_FIND_COORDINATOR w_JOIN_GROUP w_HEARTBEAT w_LEAVE_GROUP w_SYNC_GROUP w_API_VERSIONS w_CREATE_TOPICS w_INIT_PRODUCER_ID w_OFFSET_FOR_LEADER_EPOCH w_DESCRIBE_CONFIGS w_ELECT_LEADERS w_ALTER_PARTITION w_BROKER_REGISTRATION w_BROKER_HEARTBEAT w_ALLOCATE_PRODUCER_IDS h0 n0 Z0 S_PRODUCE S_FETCH S_LIST_OFFSETS S_METADATA S_OFFSET_COMMIT S_OFFSET_FETCH S_FIND_COORDINATOR S_JOIN_GROUP S_HEARTBEAT S_LEAVE_GROUP S_SYNC_GROUP S_API_VERSIONS S_CREATE_TOPICS S_INIT_PRODUCER_ID S_OFFSET_FOR_LEADER_EPOCH S_DESCRIBE_CONFIGS S_ELECT_LEADERS S_ALTER_PARTITION S_BROKER_REGISTRATION S_BROKER_HEARTBEAT S_ALLOCATE_PRODUCER_IDS E_w_PRODUCE E_w_FETCH E_w_LIST_OFFSETS E_w_METADATA E_w_OFFSET_COMMIT E_w_OFFSET_FETCH E_w_FIND_COORDINATOR E_w_JOIN_GROUP E_w_HEARTBEAT E_w_LEAVE_GROUP E_w_SYNC_GROUP E_w_API_VERSIONS E_w_CREATE_TOPICS E_w_INIT_PRODUCER_ID E_w_OFFSET_FOR_LEADER_EPOCH E_w_DESCRIBE_CONFIGS E_w_ELECT_LEADERS E_w_ALTER_PARTITION E_w_BROKER_REGISTRATION E_w_BROKER_HEARTBEAT E_w_ALLOCATE_PRODUCER_IDS F_firstFlexibleVersion_w_PRODUCE F_firstFlexibleVersion_w_FETCH F_firstFlexibleVersion_w_LIST_OFFSETS F_firstFlexibleVersion_w_METADATA F_firstFlexibleVersion_w_OFFSET_COMMIT F_firstFlexibleVersion_w_OFFSET_FETCH F_firstFlexibleVersion_w_FIND_COORDINATOR F_firstFlexibleVersion_w_JOIN_GROUP F_firstFlexibleVersion_w_HEARTBEAT F_firstFlexibleVersion_w_LEAVE_GROUP F_firstFlexibleVersion_w_SYNC_GROUP F_firstFlexibleVersion_w_API_VERSIONS F_firstFlexibleVersion_w_CREATE_TOPICS F_firstFlexibleVersion_w_INIT_PRODUCER_ID F_firstFlexibleVersion_w_OFFSET_FOR_LEADER_EPOCH F_firstFlexibleVersion_w_DESCRIBE_CONFIGS F_firstFlexibleVersion_w_ELECT_LEADERS F_firstFlexibleVersion_w_ALTER_PARTITION F_firstFlexibleVersion_w_BROKER_REGISTRATION F_firstFlexibleVersion_w_BROKER_HEARTBEAT F_firstFlexibleVersion_w_ALLOCATE_PRODUCER_IDS hne_PRODUCE hne_FETCH hne_LIST_OFFSETS hne_METADATA hne_OFFSET_COMMIT hne_OFFSET_FETCH hne_FIND_COORDINATOR hne_JOIN_GROUP hne_HEARTBEAT hne_LEAVE_GROUP hne_SYNC_GROUP hne_CREATE_TOPICS hne_INIT_PRODUCER_ID hne_OFFSET_FOR_LEADER_EPOCH hne_DESCRIBE_CONFIGS hne_ELECT_LEADERS hne_ALTER_PARTITION hne_BROKER_REGISTRATION hne_BROKER_HEARTBEAT hne_ALLOCATE_PRODUCER_IDS) hZ (hw _ (List.mem_of_getElem? (i := 4) rfl)) (hw _ (List.mem_of_getElem? (i := 3) rfl)) (by decide) (by decide)) (g := (mkF m 15 #[.val (.int p1), .val (.int p2), .val (.int p3), .val (.int p4), .val (.int ((p1 &&& (2147483647 : Int32)) % (21 : Int32))), .val (.int (p2.toInt16.toInt32)), .unset, .unset, .unset, .unset, .unset, .unset] [(.int ((p1 &&& (2147483647 : Int32)) % (21 : Int32)))])) rfl (by rw [hml]; rfl) (argsL := [(.int ((p1 &&& (2147483647 : Int32)) % (21 : Int32)))]) (rest := []) (lenOf pd__28I_29Lcom_2fexample_2falviso_2falviso_2fprotocol_2fApiKey_3b rfl) rfl (by show 2 * 0 + _ ≤ _; exact Nat.le_of_eq rfl) (hb hby at_15) (fun _ _ => ⟨rfl, e0, (by decide : 0 + 0 ≤ _), (by decide : 0 + 0 ≤ _)⟩)
  dsimp only [Pt.U, Pt.locs, Pt.cells, Pt.slots] at y1 z1 st1 hQ1
  change Stand p l e _ s m _ below meth c T1 L1 k1 n1 at X1
  change L1 = _ ++ Lc1 at l1
  subst y1 z1
  obtain ⟨r_1, rfl, N1q, e1, t1_0, t1_1, t1_2⟩ := hQ1
  have N1 : Fr n0 L1 := l1 ▸ Fr.app N0 N1q
  rw [e1] at t1_0 t1_1
  have pre2 : ∀ t, Steps p.tables e below (T1.setTop (mkF m 25 #[.val (.int p1), .val (.int p2), .val (.int p3), .val (.int p4), .val (.int ((p1 &&& (2147483647 : Int32)) % (21 : Int32))), .val (.int (p2.toInt16.toInt32)), .val (.ref r_1), .unset, .unset, .unset, .unset, .unset] [(.int (p4 &&& (256 : Int32)))])) t → Steps p.tables e below (s₁.setTop (entryFrame m #[(.int p1), (.int p2), (.int p3), (.int p4)] maxLocals)) t := fun t kt => by
    refine pre0 t ?_
    show Steps p.tables e below (s₁.setTop (mkF m 0 #[.val (.int p1), .val (.int p2), .val (.int p3), .val (.int p4), .unset, .unset, .unset, .unset, .unset, .unset, .unset, .unset] [])) _
    refine XS.iloadN X0.here hx rfl (hb hby at_0) rfl ?_
    show Steps p.tables e below (s₁.setTop (mkF m 1 #[.val (.int p1), .val (.int p2), .val (.int p3), .val (.int p4), .unset, .unset, .unset, .unset, .unset, .unset, .unset, .unset] [(.int p1)])) _
    refine X0.ldcInt hx hown (mvT hZ (hw _ (List.mem_of_getElem? (i := 0) rfl))) (g := (mkF m 1 #[.val (.int p1), .val (.int p2), .val (.int p3), .val (.int p4), .unset, .unset, .unset, .unset, .unset, .unset, .unset, .unset] [(.int p1)])) rfl (hb hby at_1) _ ?_
    show Steps p.tables e below (s₁.setTop (mkF m 3 #[.val (.int p1), .val (.int p2), .val (.int p3), .val (.int p4), .unset, .unset, .unset, .unset, .unset, .unset, .unset, .unset] [(.int (2147483647 : Int32)), (.int p1)])) _
    refine XS.iand X0.here hx rfl (hb hby at_3) rfl ?_
    show Steps p.tables e below (s₁.setTop (mkF m 4 #[.val (.int p1), .val (.int p2), .val (.int p3), .val (.int p4), .unset, .unset, .unset, .unset, .unset, .unset, .unset, .unset] [(.int (p1 &&& (2147483647 : Int32)))])) _
    refine XS.bipush X0.here hx rfl (hb hby at_4) ?_
    show Steps p.tables e below (s₁.setTop (mkF m 6 #[.val (.int p1), .val (.int p2), .val (.int p3), .val (.int p4), .unset, .unset, .unset, .unset, .unset, .unset, .unset, .unset] [(.int (21 : Int32)), (.int (p1 &&& (2147483647 : Int32)))])) _
    refine iremM (g := (mkF m 6 #[.val (.int p1), .val (.int p2), .val (.int p3), .val (.int p4), .unset, .unset, .unset, .unset, .unset, .unset, .unset, .unset] [(.int (21 : Int32)), (.int (p1 &&& (2147483647 : Int32)))])) X0 hx rfl (hb hby at_6) rfl (by decide) ?_
    show Steps p.tables e below (s₁.setTop (mkF m 7 #[.val (.int p1), .val (.int p2), .val (.int p3), .val (.int p4), .unset, .unset, .unset, .unset, .unset, .unset, .unset, .unset] [(.int ((p1 &&& (2147483647 : Int32)) % (21 : Int32)))])) _
    refine XS.istore X0.here hx rfl (hb hby at_7) rfl (l' := #[.val (.int p1), .val (.int p2), .val (.int p3), .val (.int p4), .val (.int ((p1 &&& (2147483647 : Int32)) % (21 : Int32))), .unset, .unset, .unset, .unset, .unset, .unset, .unset]) rfl ?_
    show Steps p.tables e below (s₁.setTop (mkF m 9 #[.val (.int p1), .val (.int p2), .val (.int p3), .val (.int p4), .val (.int ((p1 &&& (2147483647 : Int32)) % (21 : Int32))), .unset, .unset, .unset, .unset, .unset, .unset, .unset] [])) _
    refine XS.iloadN X0.here hx rfl (hb hby at_9) rfl ?_
    show Steps p.tables e below (s₁.setTop (mkF m 10 #[.val (.int p1), .val (.int p2), .val (.int p3), .val (.int p4), .val (.int ((p1 &&& (2147483647 : Int32)) % (21 : Int32))), .unset, .unset, .unset, .unset, .unset, .unset, .unset] [(.int p2)])) _
    refine XS.i2s X0.here hx rfl (hb hby at_10) rfl ?_
    show Steps p.tables e below (s₁.setTop (mkF m 11 #[.val (.int p1), .val (.int p2), .val (.int p3), .val (.int p4), .val (.int ((p1 &&& (2147483647 : Int32)) % (21 : Int32))), .unset, .unset, .unset, .unset, .unset, .unset, .unset] [(.int (p2.toInt16.toInt32))])) _
    refine XS.istore X0.here hx rfl (hb hby at_11) rfl (l' := #[.val (.int p1), .val (.int p2), .val (.int p3), .val (.int p4), .val (.int ((p1 &&& (2147483647 : Int32)) % (21 : Int32))), .val (.int (p2.toInt16.toInt32)), .unset, .unset, .unset, .unset, .unset, .unset]) rfl ?_
    show Steps p.tables e below (s₁.setTop (mkF m 13 #[.val (.int p1), .val (.int p2), .val (.int p3), .val (.int p4), .val (.int ((p1 &&& (2147483647 : Int32)) % (21 : Int32))), .val (.int (p2.toInt16.toInt32)), .unset, .unset, .unset, .unset, .unset, .unset] [])) _
    refine XS.iload X0.here hx rfl (hb hby at_13) rfl ?_
    show Steps p.tables e below (s₁.setTop (mkF m 15 #[.val (.int p1), .val (.int p2), .val (.int p3), .val (.int p4), .val (.int ((p1 &&& (2147483647 : Int32)) % (21 : Int32))), .val (.int (p2.toInt16.toInt32)), .unset, .unset, .unset, .unset, .unset, .unset] [(.int ((p1 &&& (2147483647 : Int32)) % (21 : Int32)))])) _
    refine st1 _ ?_
    show Steps p.tables e below (T1.setTop (mkF m 18 #[.val (.int p1), .val (.int p2), .val (.int p3), .val (.int p4), .val (.int ((p1 &&& (2147483647 : Int32)) % (21 : Int32))), .val (.int (p2.toInt16.toInt32)), .unset, .unset, .unset, .unset, .unset, .unset] [(.ref r_1)])) _
    refine XS.astore X1.here hx rfl (hb hby at_18) rfl rfl (l' := #[.val (.int p1), .val (.int p2), .val (.int p3), .val (.int p4), .val (.int ((p1 &&& (2147483647 : Int32)) % (21 : Int32))), .val (.int (p2.toInt16.toInt32)), .val (.ref r_1), .unset, .unset, .unset, .unset, .unset]) rfl ?_
    show Steps p.tables e below (T1.setTop (mkF m 20 #[.val (.int p1), .val (.int p2), .val (.int p3), .val (.int p4), .val (.int ((p1 &&& (2147483647 : Int32)) % (21 : Int32))), .val (.int (p2.toInt16.toInt32)), .val (.ref r_1), .unset, .unset, .unset, .unset, .unset] [])) _
    refine XS.iloadN X1.here hx rfl (hb hby at_20) rfl ?_
    show Steps p.tables e below (T1.setTop (mkF m 21 #[.val (.int p1), .val (.int p2), .val (.int p3), .val (.int p4), .val (.int ((p1 &&& (2147483647 : Int32)) % (21 : Int32))), .val (.int (p2.toInt16.toInt32)), .val (.ref r_1), .unset, .unset, .unset, .unset, .unset] [(.int p4)])) _
    refine XS.sipush X1.here hx rfl (hb hby at_21) ?_
    show Steps p.tables e below (T1.setTop (mkF m 24 #[.val (.int p1), .val (.int p2), .val (.int p3), .val (.int p4), .val (.int ((p1 &&& (2147483647 : Int32)) % (21 : Int32))), .val (.int (p2.toInt16.toInt32)), .val (.ref r_1), .unset, .unset, .unset, .unset, .unset] [(.int (256 : Int32)), (.int p4)])) _
    refine XS.iand X1.here hx rfl (hb hby at_24) rfl ?_
    exact kt
  by_cases hC : (p4 &&& (256 : Int32)) = (0 : Int32)
  · obtain ⟨_, _, ⟨T3, L3, k3, n3⟩, -, X3, ⟨Lc3, hQ3, l3, y3, z3⟩, st3⟩ := Jvm.LawKit.callS X1 hx (y := (⟨"java/lang/String", "valueOf", "(C)Ljava/lang/String;"⟩ : MethodName)) hown (mvT hZ (hw _ (List.mem_of_getElem? (i := 8) rfl))) (mvT hZ (hw _ (List.mem_of_getElem? (i := 9) rfl))) (mvT hZ (hw _ (List.mem_of_getElem? (i := 10) rfl))) (mvT hZ (hw _ (List.mem_of_getElem? (i := 11) rfl))) (by decide) (backOf (W := 0) (rm2 l Z a0 hw [] ((p4 &&& (255 : Int32)).toUInt32.toUInt16.toUInt32.toInt32) cs h0 n0 Z0 S_COMPACT_STRINGS hcs (own_c255 _)) hZ (hw _ (List.mem_of_getElem? (i := 11) rfl)) (hw _ (List.mem_of_getElem? (i := 10) rfl)) (by decide) (by decide)) (g := (mkF m 38 #[.val (.int p1), .val (.int p2), .val (.int p3), .val (.int p4), .val (.int ((p1 &&& (2147483647 : Int32)) % (21 : Int32))), .val (.int (p2.toInt16.toInt32)), .val (.ref r_1), .unset, .unset, .unset, .unset, .unset] [(.int ((p4 &&& (255 : Int32)).toUInt32.toUInt16.toUInt32.toInt32))])) rfl (by rw [hml]; rfl) (argsL := [(.int ((p4 &&& (255 : Int32)).toUInt32.toUInt16.toUInt32.toInt32))]) (rest := []) (lenOf pd__28C_29Ljava_2flang_2fString_3b rfl) rfl (by show 2 * 0 + _ ≤ _; exact Nat.le_of_eq rfl) (hb hby at_38) (fun _ _ => ⟨rfl, e1, (by decide : 0 + 2 ≤ _), (by decide : 0 + 5 ≤ _)⟩)
    dsimp only [Pt.U, Pt.locs, Pt.cells, Pt.slots] at y3 z3 st3 hQ3
    change Stand p l e _ s m _ below meth c T3 L3 k3 n3 at X3
    change L3 = _ ++ Lc3 at l3
    subst y3 z3
    obtain ⟨r_3, rfl, N3q, K3q, t3_0, t3_1⟩ := hQ3
    have N3 : Fr n0 L3 := l3 ▸ Fr.app N1 N3q
    have K3 : Keep h0 T3.heap [] := (Keep.refl h0 []).trans K3q all0
    have ne_r_1_r_3 : r_1 ≠ r_3 := Nat.ne_of_lt (Nat.lt_of_lt_of_le t1_0.lt t3_0)
    have ne_w_ALLOCATE_PRODUCER_IDS_r_3 : w_ALLOCATE_PRODUCER_IDS ≠ r_3 := Nat.ne_of_lt (Nat.lt_of_lt_of_le E_w_ALLOCATE_PRODUCER_IDS.lt t3_0)
    have ne_w_ALTER_PARTITION_r_3 : w_ALTER_PARTITION ≠ r_3 := Nat.ne_of_lt (Nat.lt_of_lt_of_le E_w_ALTER_PARTITION.lt t3_0)
    have ne_w_API_VERSIONS_r_3 : w_API_VERSIONS ≠ r_3 := Nat.ne_of_lt (Nat.lt_of_lt_of_le E_w_API_VERSIONS.lt t3_0)
    have ne_w_BROKER_HEARTBEAT_r_3 : w_BROKER_HEARTBEAT ≠ r_3 := Nat.ne_of_lt (Nat.lt_of_lt_of_le E_w_BROKER_HEARTBEAT.lt t3_0)
    have ne_w_BROKER_REGISTRATION_r_3 : w_BROKER_REGISTRATION ≠ r_3 := Nat.ne_of_lt (Nat.lt_of_lt_of_le E_w_BROKER_REGISTRATION.lt t3_0)
    have ne_w_CREATE_TOPICS_r_3 : w_CREATE_TOPICS ≠ r_3 := Nat.ne_of_lt (Nat.lt_of_lt_of_le E_w_CREATE_TOPICS.lt t3_0)
    have ne_w_DESCRIBE_CONFIGS_r_3 : w_DESCRIBE_CONFIGS ≠ r_3 := Nat.ne_of_lt (Nat.lt_of_lt_of_le E_w_DESCRIBE_CONFIGS.lt t3_0)
    have ne_w_ELECT_LEADERS_r_3 : w_ELECT_LEADERS ≠ r_3 := Nat.ne_of_lt (Nat.lt_of_lt_of_le E_w_ELECT_LEADERS.lt t3_0)
    have ne_w_FETCH_r_3 : w_FETCH ≠ r_3 := Nat.ne_of_lt (Nat.lt_of_lt_of_le E_w_FETCH.lt t3_0)
    have ne_w_FIND_COORDINATOR_r_3 : w_FIND_COORDINATOR ≠ r_3 := Nat.ne_of_lt (Nat.lt_of_lt_of_le E_w_FIND_COORDINATOR.lt t3_0)
    have ne_w_HEARTBEAT_r_3 : w_HEARTBEAT ≠ r_3 := Nat.ne_of_lt (Nat.lt_of_lt_of_le E_w_HEARTBEAT.lt t3_0)
    have ne_w_INIT_PRODUCER_ID_r_3 : w_INIT_PRODUCER_ID ≠ r_3 := Nat.ne_of_lt (Nat.lt_of_lt_of_le E_w_INIT_PRODUCER_ID.lt t3_0)
    have ne_w_JOIN_GROUP_r_3 : w_JOIN_GROUP ≠ r_3 := Nat.ne_of_lt (Nat.lt_of_lt_of_le E_w_JOIN_GROUP.lt t3_0)
    have ne_w_LEAVE_GROUP_r_3 : w_LEAVE_GROUP ≠ r_3 := Nat.ne_of_lt (Nat.lt_of_lt_of_le E_w_LEAVE_GROUP.lt t3_0)
    have ne_w_LIST_OFFSETS_r_3 : w_LIST_OFFSETS ≠ r_3 := Nat.ne_of_lt (Nat.lt_of_lt_of_le E_w_LIST_OFFSETS.lt t3_0)
    have ne_w_METADATA_r_3 : w_METADATA ≠ r_3 := Nat.ne_of_lt (Nat.lt_of_lt_of_le E_w_METADATA.lt t3_0)
    have ne_w_OFFSET_COMMIT_r_3 : w_OFFSET_COMMIT ≠ r_3 := Nat.ne_of_lt (Nat.lt_of_lt_of_le E_w_OFFSET_COMMIT.lt t3_0)
    have ne_w_OFFSET_FETCH_r_3 : w_OFFSET_FETCH ≠ r_3 := Nat.ne_of_lt (Nat.lt_of_lt_of_le E_w_OFFSET_FETCH.lt t3_0)
    have ne_w_OFFSET_FOR_LEADER_EPOCH_r_3 : w_OFFSET_FOR_LEADER_EPOCH ≠ r_3 := Nat.ne_of_lt (Nat.lt_of_lt_of_le E_w_OFFSET_FOR_LEADER_EPOCH.lt t3_0)
    have ne_w_PRODUCE_r_3 : w_PRODUCE ≠ r_3 := Nat.ne_of_lt (Nat.lt_of_lt_of_le E_w_PRODUCE.lt t3_0)
    have ne_w_SYNC_GROUP_r_3 : w_SYNC_GROUP ≠ r_3 := Nat.ne_of_lt (Nat.lt_of_lt_of_le E_w_SYNC_GROUP.lt t3_0)
    have sz_r_3 : h0.size ≤ r_3 := Nat.le_trans (Keep.refl h0 []).1 t3_0
    have f4 : Exa Z T3.heap r_1 "com/example/alviso/alviso/protocol/ApiKey" := (t1_0.keep K3q)
    have f5 : Exa Z T3.heap w_ALLOCATE_PRODUCER_IDS "com/example/alviso/alviso/protocol/ApiKey" := (E_w_ALLOCATE_PRODUCER_IDS.keep K3q)
    have f6 : Exa Z T3.heap w_ALTER_PARTITION "com/example/alviso/alviso/protocol/ApiKey" := (E_w_ALTER_PARTITION.keep K3q)
    have f7 : Exa Z T3.heap w_API_VERSIONS "com/example/alviso/alviso/protocol/ApiKey" := (E_w_API_VERSIONS.keep K3q)
    have f8 : Exa Z T3.heap w_BROKER_HEARTBEAT "com/example/alviso/alviso/protocol/ApiKey" := (E_w_BROKER_HEARTBEAT.keep K3q)
    have f9 : Exa Z T3.heap w_BROKER_REGISTRATION "com/example/alviso/alviso/protocol/ApiKey" := (E_w_BROKER_REGISTRATION.keep K3q)
    have f10 : Exa Z T3.heap w_CREATE_TOPICS "com/example/alviso/alviso/protocol/ApiKey" := (E_w_CREATE_TOPICS.keep K3q)
    have f11 : Exa Z T3.heap w_DESCRIBE_CONFIGS "com/example/alviso/alviso/protocol/ApiKey" := (E_w_DESCRIBE_CONFIGS.keep K3q)
    have f12 : Exa Z T3.heap w_ELECT_LEADERS "com/example/alviso/alviso/protocol/ApiKey" := (E_w_ELECT_LEADERS.keep K3q)
    have f13 : Exa Z T3.heap w_FETCH "com/example/alviso/alviso/protocol/ApiKey" := (E_w_FETCH.keep K3q)
    have f14 : Exa Z T3.heap w_FIND_COORDINATOR "com/example/alviso/alviso/protocol/ApiKey" := (E_w_FIND_COORDINATOR.keep K3q)
    have f15 : Exa Z T3.heap w_HEARTBEAT "com/example/alviso/alviso/protocol/ApiKey" := (E_w_HEARTBEAT.keep K3q)
    have f16 : Exa Z T3.heap w_INIT_PRODUCER_ID "com/example/alviso/alviso/protocol/ApiKey" := (E_w_INIT_PRODUCER_ID.keep K3q)
    have f17 : Exa Z T3.heap w_JOIN_GROUP "com/example/alviso/alviso/protocol/ApiKey" := (E_w_JOIN_GROUP.keep K3q)
    have f18 : Exa Z T3.heap w_LEAVE_GROUP "com/example/alviso/alviso/protocol/ApiKey" := (E_w_LEAVE_GROUP.keep K3q)
    have f19 : Exa Z T3.heap w_LIST_OFFSETS "com/example/alviso/alviso/protocol/ApiKey" := (E_w_LIST_OFFSETS.keep K3q)
    have f20 : Exa Z T3.heap w_METADATA "com/example/alviso/alviso/protocol/ApiKey" := (E_w_METADATA.keep K3q)
    have f21 : Exa Z T3.heap w_OFFSET_COMMIT "com/example/alviso/alviso/protocol/ApiKey" := (E_w_OFFSET_COMMIT.keep K3q)
    have f22 : Exa Z T3.heap w_OFFSET_FETCH "com/example/alviso/alviso/protocol/ApiKey" := (E_w_OFFSET_FETCH.keep K3q)
    have f23 : Exa Z T3.heap w_OFFSET_FOR_LEADER_EPOCH "com/example/alviso/alviso/protocol/ApiKey" := (E_w_OFFSET_FOR_LEADER_EPOCH.keep K3q)
    have f24 : Exa Z T3.heap w_PRODUCE "com/example/alviso/alviso/protocol/ApiKey" := (E_w_PRODUCE.keep K3q)
    have f25 : Exa Z T3.heap w_SYNC_GROUP "com/example/alviso/alviso/protocol/ApiKey" := (E_w_SYNC_GROUP.keep K3q)
    obtain ⟨T26, h26, k26, X26, e26, E26, A26, st26⟩ := newP X3 hx hZ (hw _ (List.mem_of_getElem? (i := 34) rfl)) rfl (g := (mkF m 45 #[.val (.int p1), .val (.int p2), .val (.int p3), .val (.int p4), .val (.int ((p1 &&& (2147483647 : Int32)) % (21 : Int32))), .val (.int (p2.toInt16.toInt32)), .val (.ref r_1), .val (.ref r_3), .unset, .unset, .unset, .unset] [(.int (21 : Int32))])) rfl (hb hby at_45) rfl (by decide) (cap := 21) (by decide) (by decide) (by decide) (by decide)
    obtain ⟨b26, g26⟩ : ∃ z, z = T3.heap.size := ⟨_, rfl⟩
    rw [← g26] at A26 st26
    have ne_r_1_b26 : r_1 ≠ b26 := Nat.ne_of_lt (Nat.lt_of_lt_of_le f4.lt (Nat.le_of_eq g26.symm))
    have ne_r_3_b26 : r_3 ≠ b26 := Nat.ne_of_lt (Nat.lt_of_lt_of_le t3_1.lt (Nat.le_of_eq g26.symm))
    have ne_w_ALLOCATE_PRODUCER_IDS_b26 : w_ALLOCATE_PRODUCER_IDS ≠ b26 := Nat.ne_of_lt (Nat.lt_of_lt_of_le f5.lt (Nat.le_of_eq g26.symm))
    have ne_w_ALTER_PARTITION_b26 : w_ALTER_PARTITION ≠ b26 := Nat.ne_of_lt (Nat.lt_of_lt_of_le f6.lt (Nat.le_of_eq g26.symm))
    have ne_w_API_VERSIONS_b26 : w_API_VERSIONS ≠ b26 := Nat.ne_of_lt (Nat.lt_of_lt_of_le f7.lt (Nat.le_of_eq g26.symm))
    have ne_w_BROKER_HEARTBEAT_b26 : w_BROKER_HEARTBEAT ≠ b26 := Nat.ne_of_lt (Nat.lt_of_lt_of_le f8.lt (Nat.le_of_eq g26.symm))
    have ne_w_BROKER_REGISTRATION_b26 : w_BROKER_REGISTRATION ≠ b26 := Nat.ne_of_lt (Nat.lt_of_lt_of_le f9.lt (Nat.le_of_eq g26.symm))
    have ne_w_CREATE_TOPICS_b26 : w_CREATE_TOPICS ≠ b26 := Nat.ne_of_lt (Nat.lt_of_lt_of_le f10.lt (Nat.le_of_eq g26.symm))
    have ne_w_DESCRIBE_CONFIGS_b26 : w_DESCRIBE_CONFIGS ≠ b26 := Nat.ne_of_lt (Nat.lt_of_lt_of_le f11.lt (Nat.le_of_eq g26.symm))
    have ne_w_ELECT_LEADERS_b26 : w_ELECT_LEADERS ≠ b26 := Nat.ne_of_lt (Nat.lt_of_lt_of_le f12.lt (Nat.le_of_eq g26.symm))
    have ne_w_FETCH_b26 : w_FETCH ≠ b26 := Nat.ne_of_lt (Nat.lt_of_lt_of_le f13.lt (Nat.le_of_eq g26.symm))
    have ne_w_FIND_COORDINATOR_b26 : w_FIND_COORDINATOR ≠ b26 := Nat.ne_of_lt (Nat.lt_of_lt_of_le f14.lt (Nat.le_of_eq g26.symm))
    have ne_w_HEARTBEAT_b26 : w_HEARTBEAT ≠ b26 := Nat.ne_of_lt (Nat.lt_of_lt_of_le f15.lt (Nat.le_of_eq g26.symm))
    have ne_w_INIT_PRODUCER_ID_b26 : w_INIT_PRODUCER_ID ≠ b26 := Nat.ne_of_lt (Nat.lt_of_lt_of_le f16.lt (Nat.le_of_eq g26.symm))
    have ne_w_JOIN_GROUP_b26 : w_JOIN_GROUP ≠ b26 := Nat.ne_of_lt (Nat.lt_of_lt_of_le f17.lt (Nat.le_of_eq g26.symm))
    have ne_w_LEAVE_GROUP_b26 : w_LEAVE_GROUP ≠ b26 := Nat.ne_of_lt (Nat.lt_of_lt_of_le f18.lt (Nat.le_of_eq g26.symm))
    have ne_w_LIST_OFFSETS_b26 : w_LIST_OFFSETS ≠ b26 := Nat.ne_of_lt (Nat.lt_of_lt_of_le f19.lt (Nat.le_of_eq g26.symm))
    have ne_w_METADATA_b26 : w_METADATA ≠ b26 := Nat.ne_of_lt (Nat.lt_of_lt_of_le f20.lt (Nat.le_of_eq g26.symm))
    have ne_w_OFFSET_COMMIT_b26 : w_OFFSET_COMMIT ≠ b26 := Nat.ne_of_lt (Nat.lt_of_lt_of_le f21.lt (Nat.le_of_eq g26.symm))
    have ne_w_OFFSET_FETCH_b26 : w_OFFSET_FETCH ≠ b26 := Nat.ne_of_lt (Nat.lt_of_lt_of_le f22.lt (Nat.le_of_eq g26.symm))
    have ne_w_OFFSET_FOR_LEADER_EPOCH_b26 : w_OFFSET_FOR_LEADER_EPOCH ≠ b26 := Nat.ne_of_lt (Nat.lt_of_lt_of_le f23.lt (Nat.le_of_eq g26.symm))
    have ne_w_PRODUCE_b26 : w_PRODUCE ≠ b26 := Nat.ne_of_lt (Nat.lt_of_lt_of_le f24.lt (Nat.le_of_eq g26.symm))
    have ne_w_SYNC_GROUP_b26 : w_SYNC_GROUP ≠ b26 := Nat.ne_of_lt (Nat.lt_of_lt_of_le f25.lt (Nat.le_of_eq g26.symm))
    have g_b26 : n0 ≤ b26 := Nat.le_trans (Nat.le_trans Z0 K3.1) (Nat.le_of_eq g26.symm)
    have sz_b26 : h0.size ≤ b26 := Nat.le_trans K3.1 (Nat.le_of_eq g26.symm)
    have K27 : Keep h0 h26 [] := K3.ext E26
    have V_b26 : Arv Z h26 b26 k26 .int (21 : Int32) [(.int (0 : Int32)), (.int (0 : Int32)), (.int (0 : Int32)), (.int (0 : Int32)), (.int (0 : Int32)), (.int (0 : Int32)), (.int (0 : Int32)), (.int (0 : Int32)), (.int (0 : Int32)), (.int (0 : Int32)), (.int (0 : Int32)), (.int (0 : Int32)), (.int (0 : Int32)), (.int (0 : Int32)), (.int (0 : Int32)), (.int (0 : Int32)), (.int (0 : Int32)), (.int (0 : Int32)), (.int (0 : Int32)), (.int (0 : Int32)), (.int (0 : Int32))] (.int (0 : Int32)) := (Arv.new A26 (by decide)).pad (pad_rep [] (.int (0 : Int32)) 21)
    obtain ⟨c28, Ac28, qc28, Sc28, Nc28, Hc28, Gc28⟩ := id V_b26
    obtain ⟨T29, h29, X29, e29, W29, st29⟩ := stI X26 hx hZ e26 Ac28 (j := (0 : Int32)) (inb_of Sc28 ⟨by decide, by decide⟩) (g := (mkF m 51 #[.val (.int p1), .val (.int p2), .val (.int p3), .val (.int p4), .val (.int ((p1 &&& (2147483647 : Int32)) % (21 : Int32))), .val (.int (p2.toInt16.toInt32)), .val (.ref r_1), .val (.ref r_3), .unset, .unset, .unset, .unset] [(.int (9 : Int32)), (.int (0 : Int32)), (.ref b26), (.ref b26)])) rfl rfl (hb hby at_51)
    have K30 : Keep h0 h29 [] := K27.wr W29 (Or.inr sz_b26)
    have N31 := Fr.snoc X29 N3 g_b26
    have Vw29 := Arv.set Ac28 qc28 Sc28 Nc28 Hc28 Gc28 rfl W29 0 rfl (Nat.le_of_ble_eq_true rfl)
    change Arv Z h29 b26 k26 .int (21 : Int32) [(.int (9 : Int32)), (.int (0 : Int32)), (.int (0 : Int32)), (.int (0 : Int32)), (.int (0 : Int32)), (.int (0 : Int32)), (.int (0 : Int32)), (.int (0 : Int32)), (.int (0 : Int32)), (.int (0 : Int32)), (.int (0 : Int32)), (.int (0 : Int32)), (.int (0 : Int32)), (.int (0 : Int32)), (.int (0 : Int32)), (.int (0 : Int32)), (.int (0 : Int32)), (.int (0 : Int32)), (.int (0 : Int32)), (.int (0 : Int32)), (.int (0 : Int32))] (.int (0 : Int32)) at Vw29
    obtain ⟨c32, Ac32, qc32, Sc32, Nc32, Hc32, Gc32⟩ := id Vw29
    obtain ⟨T33, h33, X33, e33, W33, st33⟩ := stI X29 hx hZ e29 Ac32 (j := (1 : Int32)) (inb_of Sc32 ⟨by decide, by decide⟩) (g := (mkF m 56 #[.val (.int p1), .val (.int p2), .val (.int p3), .val (.int p4), .val (.int ((p1 &&& (2147483647 : Int32)) % (21 : Int32))), .val (.int (p2.toInt16.toInt32)), .val (.ref r_1), .val (.ref r_3), .unset, .unset, .unset, .unset] [(.int (12 : Int32)), (.int (1 : Int32)), (.ref b26), (.ref b26)])) rfl rfl (hb hby at_56)
    have K34 : Keep h0 h33 [] := K30.wr W33 (Or.inr sz_b26)
    have N35 := Fr.snoc X33 N31 g_b26
    have Vw33 := Arv.set Ac32 qc32 Sc32 Nc32 Hc32 Gc32 rfl W33 1 rfl (Nat.le_of_ble_eq_true rfl)
    change Arv Z h33 b26 k26 .int (21 : Int32) [(.int (9 : Int32)), (.int (12 : Int32)), (.int (0 : Int32)), (.int (0 : Int32)), (.int (0 : Int32)), (.int (0 : Int32)), (.int (0 : Int32)), (.int (0 : Int32)), (.int (0 : Int32)), (.int (0 : Int32)), (.int (0 : Int32)), (.int (0 : Int32)), (.int (0 : Int32)), (.int (0 : Int32)), (.int (0 : Int32)), (.int (0 : Int32)), (.int (0 : Int32)), (.int (0 : Int32)), (.int (0 : Int32)), (.int (0 : Int32)), (.int (0 : Int32))] (.int (0 : Int32)) at Vw33
    obtain ⟨c36, Ac36, qc36, Sc36, Nc36, Hc36, Gc36⟩ := id Vw33
    obtain ⟨T37, h37, X37, e37, W37, st37⟩ := stI X33 hx hZ e33 Ac36 (j := (2 : Int32)) (inb_of Sc36 ⟨by decide, by decide⟩) (g := (mkF m 61 #[.val (.int p1), .val (.int p2), .val (.int p3), .val (.int p4), .val (.int ((p1 &&& (2147483647 : Int32)) % (21 : Int32))), .val (.int (p2.toInt16.toInt32)), .val (.ref r_1), .val (.ref r_3), .unset, .unset, .unset, .unset] [(.int (6 : Int32)), (.int (2 : Int32)), (.ref b26), (.ref b26)])) rfl rfl (hb hby at_61)
    have K38 : Keep h0 h37 [] := K34.wr W37 (Or.inr sz_b26)
    have N39 := Fr.snoc X37 N35 g_b26
    have Vw37 := Arv.set Ac36 qc36 Sc36 Nc36 Hc36 Gc36 rfl W37 2 rfl (Nat.le_of_ble_eq_true rfl)
    change Arv Z h37 b26 k26 .int (21 : Int32) [(.int (9 : Int32)), (.int (12 : Int32)), (.int (6 : Int32)), (.int (0 : Int32)), (.int (0 : Int32)), (.int (0 : Int32)), (.int (0 : Int32)), (.int (0 : Int32)), (.int (0 : Int32)), (.int (0 : Int32)), (.int (0 : Int32)), (.int (0 : Int32)), (.int (0 : Int32)), (.int (0 : Int32)), (.int (0 : Int32)), (.int (0 : Int32)), (.int (0 : Int32)), (.int (0 : Int32)), (.int (0 : Int32)), (.int (0 : Int32)), (.int (0 : Int32))] (.int (0 : Int32)) at Vw37
    obtain ⟨c40, Ac40, qc40, Sc40, Nc40, Hc40, Gc40⟩ := id Vw37
    obtain ⟨T41, h41, X41, e41, W41, st41⟩ := stI X37 hx hZ e37 Ac40 (j := (3 : Int32)) (inb_of Sc40 ⟨by decide, by decide⟩) (g := (mkF m 66 #[.val (.int p1), .val (.int p2), .val (.int p3), .val (.int p4), .val (.int ((p1 &&& (2147483647 : Int32)) % (21 : Int32))), .val (.int (p2.toInt16.toInt32)), .val (.ref r_1), .val (.ref r_3), .unset, .unset, .unset, .unset] [(.int (9 : Int32)), (.int (3 : Int32)), (.ref b26), (.ref b26)])) rfl rfl (hb hby at_66)
    have K42 : Keep h0 h41 [] := K38.wr W41 (Or.inr sz_b26)
    have N43 := Fr.snoc X41 N39 g_b26
    have Vw41 := Arv.set Ac40 qc40 Sc40 Nc40 Hc40 Gc40 rfl W41 3 rfl (Nat.le_of_ble_eq_true rfl)
    change Arv Z h41 b26 k26 .int (21 : Int32) [(.int (9 : Int32)), (.int (12 : Int32)), (.int (6 : Int32)), (.int (9 : Int32)), (.int (0 : Int32)), (.int (0 : Int32)), (.int (0 : Int32)), (.int (0 : Int32)), (.int (0 : Int32)), (.int (0 : Int32)), (.int (0 : Int32)), (.int (0 : Int32)), (.int (0 : Int32)), (.int (0 : Int32)), (.int (0 : Int32)), (.int (0 : Int32)), (.int (0 : Int32)), (.int (0 : Int32)), (.int (0 : Int32)), (.int (0 : Int32)), (.int (0 : Int32))] (.int (0 : Int32)) at Vw41
    obtain ⟨c44, Ac44, qc44, Sc44, Nc44, Hc44, Gc44⟩ := id Vw41
    obtain ⟨T45, h45, X45, e45, W45, st45⟩ := stI X41 hx hZ e41 Ac44 (j := (4 : Int32)) (inb_of Sc44 ⟨by decide, by decide⟩) (g := (mkF m 71 #[.val (.int p1), .val (.int p2), .val (.int p3), .val (.int p4), .val (.int ((p1 &&& (2147483647 : Int32)) % (21 : Int32))), .val (.int (p2.toInt16.toInt32)), .val (.ref r_1), .val (.ref r_3), .unset, .unset, .unset, .unset] [(.int (8 : Int32)), (.int (4 : Int32)), (.ref b26), (.ref b26)])) rfl rfl (hb hby at_71)
    have K46 : Keep h0 h45 [] := K42.wr W45 (Or.inr sz_b26)
    have N47 := Fr.snoc X45 N43 g_b26
    have Vw45 := Arv.set Ac44 qc44 Sc44 Nc44 Hc44 Gc44 rfl W45 4 rfl (Nat.le_of_ble_eq_true rfl)
    change Arv Z h45 b26 k26 .int (21 : Int32) [(.int (9 : Int32)), (.int (12 : Int32)), (.int (6 : Int32)), (.int (9 : Int32)), (.int (8 : Int32)), (.int (0 : Int32)), (.int (0 : Int32)), (.int (0 : Int32)), (.int (0 : Int32)), (.int (0 : Int32)), (.int (0 : Int32)), (.int (0 : Int32)), (.int (0 : Int32)), (.int (0 : Int32)), (.int (0 : Int32)), (.int (0 : Int32)), (.int (0 : Int32)), (.int (0 : Int32)), (.int (0 : Int32)), (.int (0 : Int32)), (.int (0 : Int32))] (.int (0 : Int32)) at Vw45
    obtain ⟨c48, Ac48, qc48, Sc48, Nc48, Hc48, Gc48⟩ := id Vw45
    obtain ⟨T49, h49, X49, e49, W49, st49⟩ := stI X45 hx hZ e45 Ac48 (j := (5 : Int32)) (inb_of Sc48 ⟨by decide, by decide⟩) (g := (mkF m 76 #[.val (.int p1), .val (.int p2), .val (.int p3), .val (.int p4), .val (.int ((p1 &&& (2147483647 : Int32)) % (21 : Int32))), .val (.int (p2.toInt16.toInt32)), .val (.ref r_1), .val (.ref r_3), .unset, .unset, .unset, .unset] [(.int (6 : Int32)), (.int (5 : Int32)), (.ref b26), (.ref b26)])) rfl rfl (hb hby at_76)
    have K50 : Keep h0 h49 [] := K46.wr W49 (Or.inr sz_b26)
    have N51 := Fr.snoc X49 N47 g_b26
    have Vw49 := Arv.set Ac48 qc48 Sc48 Nc48 Hc48 Gc48 rfl W49 5 rfl (Nat.le_of_ble_eq_true rfl)
    change Arv Z h49 b26 k26 .int (21 : Int32) [(.int (9 : Int32)), (.int (12 : Int32)), (.int (6 : Int32)), (.int (9 : Int32)), (.int (8 : Int32)), (.int (6 : Int32)), (.int (0 : Int32)), (.int (0 : Int32)), (.int (0 : Int32)), (.int (0 : Int32)), (.int (0 : Int32)), (.int (0 : Int32)), (.int (0 : Int32)), (.int (0 : Int32)), (.int (0 : Int32)), (.int (0 : Int32)), (.int (0 : Int32)), (.int (0 : Int32)), (.int (0 : Int32)), (.int (0 : Int32)), (.int (0 : Int32))] (.int (0 : Int32)) at Vw49
    have pre52 : ∀ t, Steps p.tables e below (T49.setTop (mkF m 81 #[.val (.int p1), .val (.int p2), .val (.int p3), .val (.int p4), .val (.int ((p1 &&& (2147483647 : Int32)) % (21 : Int32))), .val (.int (p2.toInt16.toInt32)), .val (.ref r_1), .val (.ref r_3), .unset, .unset, .unset, .unset] [(.int (3 : Int32)), (.int (6 : Int32)), (.ref b26), (.ref b26)])) t → Steps p.tables e below (s₁.setTop (entryFrame m #[(.int p1), (.int p2), (.int p3), (.int p4)] maxLocals)) t := fun t kt => by
      refine pre2 t ?_
      show Steps p.tables e below (T1.setTop (mkF m 25 #[.val (.int p1), .val (.int p2), .val (.int p3), .val (.int p4), .val (.int ((p1 &&& (2147483647 : Int32)) % (21 : Int32))), .val (.int (p2.toInt16.toInt32)), .val (.ref r_1), .unset, .unset, .unset, .unset, .unset] [(.int (p4 &&& (256 : Int32)))])) _
      refine XS.ifYes X1.here hx rfl (pc0 := 25) (pc' := 32) rfl (hb hby at_25) rfl ((if0 _ _).trans (teq hC).1) (by decide) (by decide) ?_
      show Steps p.tables e below (T1.setTop (mkF m 32 #[.val (.int p1), .val (.int p2), .val (.int p3), .val (.int p4), .val (.int ((p1 &&& (2147483647 : Int32)) % (21 : Int32))), .val (.int (p2.toInt16.toInt32)), .val (.ref r_1), .unset, .unset, .unset, .unset, .unset] [])) _
      refine XS.iloadN X1.here hx rfl (hb hby at_32) rfl ?_
      show Steps p.tables e below (T1.setTop (mkF m 33 #[.val (.int p1), .val (.int p2), .val (.int p3), .val (.int p4), .val (.int ((p1 &&& (2147483647 : Int32)) % (21 : Int32))), .val (.int (p2.toInt16.toInt32)), .val (.ref r_1), .unset, .unset, .unset, .unset, .unset] [(.int p4)])) _
      refine XS.sipush X1.here hx rfl (hb hby at_33) ?_
      show Steps p.tables e below (T1.setTop (mkF m 36 #[.val (.int p1), .val (.int p2), .val (.int p3), .val (.int p4), .val (.int ((p1 &&& (2147483647 : Int32)) % (21 : Int32))), .val (.int (p2.toInt16.toInt32)), .val (.ref r_1), .unset, .unset, .unset, .unset, .unset] [(.int (255 : Int32)), (.int p4)])) _
      refine XS.iand X1.here hx rfl (hb hby at_36) rfl ?_
      show Steps p.tables e below (T1.setTop (mkF m 37 #[.val (.int p1), .val (.int p2), .val (.int p3), .val (.int p4), .val (.int ((p1 &&& (2147483647 : Int32)) % (21 : Int32))), .val (.int (p2.toInt16.toInt32)), .val (.ref r_1), .unset, .unset, .unset, .unset, .unset] [(.int (p4 &&& (255 : Int32)))])) _
      refine XS.i2c X1.here hx rfl (hb hby at_37) rfl ?_
      show Steps p.tables e below (T1.setTop (mkF m 38 #[.val (.int p1), .val (.int p2), .val (.int p3), .val (.int p4), .val (.int ((p1 &&& (2147483647 : Int32)) % (21 : Int32))), .val (.int (p2.toInt16.toInt32)), .val (.ref r_1), .unset, .unset, .unset, .unset, .unset] [(.int ((p4 &&& (255 : Int32)).toUInt32.toUInt16.toUInt32.toInt32))])) _
      refine st3 _ ?_
      show Steps p.tables e below (T3.setTop (mkF m 41 #[.val (.int p1), .val (.int p2), .val (.int p3), .val (.int p4), .val (.int ((p1 &&& (2147483647 : Int32)) % (21 : Int32))), .val (.int (p2.toInt16.toInt32)), .val (.ref r_1), .unset, .unset, .unset, .unset, .unset] [(.ref r_3)])) _
      refine XS.astore X3.here hx rfl (hb hby at_41) rfl rfl (l' := #[.val (.int p1), .val (.int p2), .val (.int p3), .val (.int p4), .val (.int ((p1 &&& (2147483647 : Int32)) % (21 : Int32))), .val (.int (p2.toInt16.toInt32)), .val (.ref r_1), .val (.ref r_3), .unset, .unset, .unset, .unset]) rfl ?_
      show Steps p.tables e below (T3.setTop (mkF m 43 #[.val (.int p1), .val (.int p2), .val (.int p3), .val (.int p4), .val (.int ((p1 &&& (2147483647 : Int32)) % (21 : Int32))), .val (.int (p2.toInt16.toInt32)), .val (.ref r_1), .val (.ref r_3), .unset, .unset, .unset, .unset] [])) _
      refine XS.bipush X3.here hx rfl (hb hby at_43) ?_
      show Steps p.tables e below (T3.setTop (mkF m 45 #[.val (.int p1), .val (.int p2), .val (.int p3), .val (.int p4), .val (.int ((p1 &&& (2147483647 : Int32)) % (21 : Int32))), .val (.int (p2.toInt16.toInt32)), .val (.ref r_1), .val (.ref r_3), .unset, .unset, .unset, .unset] [(.int (21 : Int32))])) _
      refine st26 _ ?_
      show Steps p.tables e below (T26.setTop (mkF m 47 #[.val (.int p1), .val (.int p2), .val (.int p3), .val (.int p4), .val (.int ((p1 &&& (2147483647 : Int32)) % (21 : Int32))), .val (.int (p2.toInt16.toInt32)), .val (.ref r_1), .val (.ref r_3), .unset, .unset, .unset, .unset] [(.ref b26)])) _
      refine XS.dup X26.here hx rfl (hb hby at_47) rfl rfl ?_
      show Steps p.tables e below (T26.setTop (mkF m 48 #[.val (.int p1), .val (.int p2), .val (.int p3), .val (.int p4), .val (.int ((p1 &&& (2147483647 : Int32)) % (21 : Int32))), .val (.int (p2.toInt16.toInt32)), .val (.ref r_1), .val (.ref r_3), .unset, .unset, .unset, .unset] [(.ref b26), (.ref b26)])) _
      refine XS.iconst X26.here hx rfl (hb hby at_48) ?_
      show Steps p.tables e below (T26.setTop (mkF m 49 #[.val (.int p1), .val (.int p2), .val (.int p3), .val (.int p4), .val (.int ((p1 &&& (2147483647 : Int32)) % (21 : Int32))), .val (.int (p2.toInt16.toInt32)), .val (.ref r_1), .val (.ref r_3), .unset, .unset, .unset, .unset] [(.int (0 : Int32)), (.ref b26), (.ref b26)])) _
      refine XS.bipush X26.here hx rfl (hb hby at_49) ?_
      show Steps p.tables e below (T26.setTop (mkF m 51 #[.val (.int p1), .val (.int p2), .val (.int p3), .val (.int p4), .val (.int ((p1 &&& (2147483647 : Int32)) % (21 : Int32))), .val (.int (p2.toInt16.toInt32)), .val (.ref r_1), .val (.ref r_3), .unset, .unset, .unset, .unset] [(.int (9 : Int32)), (.int (0 : Int32)), (.ref b26), (.ref b26)])) _
      refine st29 _ ?_
      show Steps p.tables e below (T29.setTop (mkF m 52 #[.val (.int p1), .val (.int p2), .val (.int p3), .val (.int p4), .val (.int ((p1 &&& (2147483647 : Int32)) % (21 : Int32))), .val (.int (p2.toInt16.toInt32)), .val (.ref r_1), .val (.ref r_3), .unset, .unset, .unset, .unset] [(.ref b26)])) _
      refine XS.dup X29.here hx rfl (hb hby at_52) rfl rfl ?_
      show Steps p.tables e below (T29.setTop (mkF m 53 #[.val (.int p1), .val (.int p2), .val (.int p3), .val (.int p4), .val (.int ((p1 &&& (2147483647 : Int32)) % (21 : Int32))), .val (.int (p2.toInt16.toInt32)), .val (.ref r_1), .val (.ref r_3), .unset, .unset, .unset, .unset] [(.ref b26), (.ref b26)])) _
      refine XS.iconst X29.here hx rfl (hb hby at_53) ?_
      show Steps p.tables e below (T29.setTop (mkF m 54 #[.val (.int p1), .val (.int p2), .val (.int p3), .val (.int p4), .val (.int ((p1 &&& (2147483647 : Int32)) % (21 : Int32))), .val (.int (p2.toInt16.toInt32)), .val (.ref r_1), .val (.ref r_3), .unset, .unset, .unset, .unset] [(.int (1 : Int32)), (.ref b26), (.ref b26)])) _
      refine XS.bipush X29.here hx rfl (hb hby at_54) ?_
      show Steps p.tables e below (T29.setTop (mkF m 56 #[.val (.int p1), .val (.int p2), .val (.int p3), .val (.int p4), .val (.int ((p1 &&& (2147483647 : Int32)) % (21 : Int32))), .val (.int (p2.toInt16.toInt32)), .val (.ref r_1), .val (.ref r_3), .unset, .unset, .unset, .unset] [(.int (12 : Int32)), (.int (1 : Int32)), (.ref b26), (.ref b26)])) _
      refine st33 _ ?_
      show Steps p.tables e below (T33.setTop (mkF m 57 #[.val (.int p1), .val (.int p2), .val (.int p3), .val (.int p4), .val (.int ((p1 &&& (2147483647 : Int32)) % (21 : Int32))), .val (.int (p2.toInt16.toInt32)), .val (.ref r_1), .val (.ref r_3), .unset, .unset, .unset, .unset] [(.ref b26)])) _
      refine XS.dup X33.here hx rfl (hb hby at_57) rfl rfl ?_
      show Steps p.tables e below (T33.setTop (mkF m 58 #[.val (.int p1), .val (.int p2), .val (.int p3), .val (.int p4), .val (.int ((p1 &&& (2147483647 : Int32)) % (21 : Int32))), .val (.int (p2.toInt16.toInt32)), .val (.ref r_1), .val (.ref r_3), .unset, .unset, .unset, .unset] [(.ref b26), (.ref b26)])) _
      refine XS.iconst X33.here hx rfl (hb hby at_58) ?_
      show Steps p.tables e below (T33.setTop (mkF m 59 #[.val (.int p1), .val (.int p2), .val (.int p3), .val (.int p4), .val (.int ((p1 &&& (2147483647 : Int32)) % (21 : Int32))), .val (.int (p2.toInt16.toInt32)), .val (.ref r_1), .val (.ref r_3), .unset, .unset, .unset, .unset] [(.int (2 : Int32)), (.ref b26), (.ref b26)])) _
      refine XS.bipush X33.here hx rfl (hb hby at_59) ?_
      show Steps p.tables e below (T33.setTop (mkF m 61 #[.val (.int p1), .val (.int p2), .val (.int p3), .val (.int p4), .val (.int ((p1 &&& (2147483647 : Int32)) % (21 : Int32))), .val (.int (p2.toInt16.toInt32)), .val (.ref r_1), .val (.ref r_3), .unset, .unset, .unset, .unset] [(.int (6 : Int32)), (.int (2 : Int32)), (.ref b26), (.ref b26)])) _
      refine st37 _ ?_
      show Steps p.tables e below (T37.setTop (mkF m 62 #[.val (.int p1), .val (.int p2), .val (.int p3), .val (.int p4), .val (.int ((p1 &&& (2147483647 : Int32)) % (21 : Int32))), .val (.int (p2.toInt16.toInt32)), .val (.ref r_1), .val (.ref r_3), .unset, .unset, .unset, .unset] [(.ref b26)])) _
      refine XS.dup X37.here hx rfl (hb hby at_62) rfl rfl ?_
      show Steps p.tables e below (T37.setTop (mkF m 63 #[.val (.int p1), .val (.int p2), .val (.int p3), .val (.int p4), .val (.int ((p1 &&& (2147483647 : Int32)) % (21 : Int32))), .val (.int (p2.toInt16.toInt32)), .val (.ref r_1), .val (.ref r_3), .unset, .unset, .unset, .unset] [(.ref b26), (.ref b26)])) _
      refine XS.iconst X37.here hx rfl (hb hby at_63) ?_
      show Steps p.tables e below (T37.setTop (mkF m 64 #[.val (.int p1), .val (.int p2), .val (.int p3), .val (.int p4), .val (.int ((p1 &&& (2147483647 : Int32)) % (21 : Int32))), .val (.int (p2.toInt16.toInt32)), .val (.ref r_1), .val (.ref r_3), .unset, .unset, .unset, .unset] [(.int (3 : Int32)), (.ref b26), (.ref b26)])) _
      refine XS.bipush X37.here hx rfl (hb hby at_64) ?_
      show Steps p.tables e below (T37.setTop (mkF m 66 #[.val (.int p1), .val (.int p2), .val (.int p3), .val (.int p4), .val (.int ((p1 &&& (2147483647 : Int32)) % (21 : Int32))), .val (.int (p2.toInt16.toInt32)), .val (.ref r_1), .val (.ref r_3), .unset, .unset, .unset, .unset] [(.int (9 : Int32)), (.int (3 : Int32)), (.ref b26), (.ref b26)])) _
      refine st41 _ ?_
      show Steps p.tables e below (T41.setTop (mkF m 67 #[.val (.int p1), .val (.int p2), .val (.int p3), .val (.int p4), .val (.int ((p1 &&& (2147483647 : Int32)) % (21 : Int32))), .val (.int (p2.toInt16.toInt32)), .val (.ref r_1), .val (.ref r_3), .unset, .unset, .unset, .unset] [(.ref b26)])) _
      refine XS.dup X41.here hx rfl (hb hby at_67) rfl rfl ?_
      show Steps p.tables e below (T41.setTop (mkF m 68 #[.val (.int p1), .val (.int p2), .val (.int p3), .val (.int p4), .val (.int ((p1 &&& (2147483647 : Int32)) % (21 : Int32))), .val (.int (p2.toInt16.toInt32)), .val (.ref r_1), .val (.ref r_3), .unset, .unset, .unset, .unset] [(.ref b26), (.ref b26)])) _
      refine XS.iconst X41.here hx rfl (hb hby at_68) ?_
      show Steps p.tables e below (T41.setTop (mkF m 69 #[.val (.int p1), .val (.int p2), .val (.int p3), .val (.int p4), .val (.int ((p1 &&& (2147483647 : Int32)) % (21 : Int32))), .val (.int (p2.toInt16.toInt32)), .val (.ref r_1), .val (.ref r_3), .unset, .unset, .unset, .unset] [(.int (4 : Int32)), (.ref b26), (.ref b26)])) _
      refine XS.bipush X41.here hx rfl (hb hby at_69) ?_
      show Steps p.tables e below (T41.setTop (mkF m 71 #[.val (.int p1), .val (.int p2), .val (.int p3), .val (.int p4), .val (.int ((p1 &&& (2147483647 : Int32)) % (21 : Int32))), .val (.int (p2.toInt16.toInt32)), .val (.ref r_1), .val (.ref r_3), .unset, .unset, .unset, .unset] [(.int (8 : Int32)), (.int (4 : Int32)), (.ref b26), (.ref b26)])) _
      refine st45 _ ?_
      show Steps p.tables e below (T45.setTop (mkF m 72 #[.val (.int p1), .val (.int p2), .val (.int p3), .val (.int p4), .val (.int ((p1 &&& (2147483647 : Int32)) % (21 : Int32))), .val (.int (p2.toInt16.toInt32)), .val (.ref r_1), .val (.ref r_3), .unset, .unset, .unset, .unset] [(.ref b26)])) _
      refine XS.dup X45.here hx rfl (hb hby at_72) rfl rfl ?_
      show Steps p.tables e below (T45.setTop (mkF m 73 #[.val (.int p1), .val (.int p2), .val (.int p3), .val (.int p4), .val (.int ((p1 &&& (2147483647 : Int32)) % (21 : Int32))), .val (.int (p2.toInt16.toInt32)), .val (.ref r_1), .val (.ref r_3), .unset, .unset, .unset, .unset] [(.ref b26), (.ref b26)])) _
      refine XS.iconst X45.here hx rfl (hb hby at_73) ?_
      show Steps p.tables e below (T45.setTop (mkF m 74 #[.val (.int p1), .val (.int p2), .val (.int p3), .val (.int p4), .val (.int ((p1 &&& (2147483647 : Int32)) % (21 : Int32))), .val (.int (p2.toInt16.toInt32)), .val (.ref r_1), .val (.ref r_3), .unset, .unset, .unset, .unset] [(.int (5 : Int32)), (.ref b26), (.ref b26)])) _
      refine XS.bipush X45.here hx rfl (hb hby at_74) ?_
      show Steps p.tables e below (T45.setTop (mkF m 76 #[.val (.int p1), .val (.int p2), .val (.int p3), .val (.int p4), .val (.int ((p1 &&& (2147483647 : Int32)) % (21 : Int32))), .val (.int (p2.toInt16.toInt32)), .val (.ref r_1), .val (.ref r_3), .unset, .unset, .unset, .unset] [(.int (6 : Int32)), (.int (5 : Int32)), (.ref b26), (.ref b26)])) _
      refine st49 _ ?_
      show Steps p.tables e below (T49.setTop (mkF m 77 #[.val (.int p1), .val (.int p2), .val (.int p3), .val (.int p4), .val (.int ((p1 &&& (2147483647 : Int32)) % (21 : Int32))), .val (.int (p2.toInt16.toInt32)), .val (.ref r_1), .val (.ref r_3), .unset, .unset, .unset, .unset] [(.ref b26)])) _
      refine XS.dup X49.here hx rfl (hb hby at_77) rfl rfl ?_
      show Steps p.tables e below (T49.setTop (mkF m 78 #[.val (.int p1), .val (.int p2), .val (.int p3), .val (.int p4), .val (.int ((p1 &&& (2147483647 : Int32)) % (21 : Int32))), .val (.int (p2.toInt16.toInt32)), .val (.ref r_1), .val (.ref r_3), .unset, .unset, .unset, .unset] [(.ref b26), (.ref b26)])) _
      refine XS.bipush X49.here hx rfl (hb hby at_78) ?_
      show Steps p.tables e below (T49.setTop (mkF m 80 #[.val (.int p1), .val (.int p2), .val (.int p3), .val (.int p4), .val (.int ((p1 &&& (2147483647 : Int32)) % (21 : Int32))), .val (.int (p2.toInt16.toInt32)), .val (.ref r_1), .val (.ref r_3), .unset, .unset, .unset, .unset] [(.int (6 : Int32)), (.ref b26), (.ref b26)])) _
      refine XS.iconst X49.here hx rfl (hb hby at_80) ?_
      exact kt
    obtain ⟨c53, Ac53, qc53, Sc53, Nc53, Hc53, Gc53⟩ := id Vw49
    obtain ⟨T54, h54, X54, e54, W54, st54⟩ := stI X49 hx hZ e49 Ac53 (j := (6 : Int32)) (inb_of Sc53 ⟨by decide, by decide⟩) (g := (mkF m 81 #[.val (.int p1), .val (.int p2), .val (.int p3), .val (.int p4), .val (.int ((p1 &&& (2147483647 : Int32)) % (21 : Int32))), .val (.int (p2.toInt16.toInt32)), .val (.ref r_1), .val (.ref r_3), .unset, .unset, .unset, .unset] [(.int (3 : Int32)), (.int (6 : Int32)), (.ref b26), (.ref b26)])) rfl rfl (hb hby at_81)
    have K55 : Keep h0 h54 [] := K50.wr W54 (Or.inr sz_b26)
    have N56 := Fr.snoc X54 N51 g_b26
    have Vw54 := Arv.set Ac53 qc53 Sc53 Nc53 Hc53 Gc53 rfl W54 6 rfl (Nat.le_of_ble_eq_true rfl)
    change Arv Z h54 b26 k26 .int (21 : Int32) [(.int (9 : Int32)), (.int (12 : Int32)), (.int (6 : Int32)), (.int (9 : Int32)), (.int (8 : Int32)), (.int (6 : Int32)), (.int (3 : Int32)), (.int (0 : Int32)), (.int (0 : Int32)), (.int (0 : Int32)), (.int (0 : Int32)), (.int (0 : Int32)), (.int (0 : Int32)), (.int (0 : Int32)), (.int (0 : Int32)), (.int (0 : Int32)), (.int (0 : Int32)), (.int (0 : Int32)), (.int (0 : Int32)), (.int (0 : Int32)), (.int (0 : Int32))] (.int (0 : Int32)) at Vw54
    obtain ⟨c57, Ac57, qc57, Sc57, Nc57, Hc57, Gc57⟩ := id Vw54
    obtain ⟨T58, h58, X58, e58, W58, st58⟩ := stI X54 hx hZ e54 Ac57 (j := (7 : Int32)) (inb_of Sc57 ⟨by decide, by decide⟩) (g := (mkF m 87 #[.val (.int p1), .val (.int p2), .val (.int p3), .val (.int p4), .val (.int ((p1 &&& (2147483647 : Int32)) % (21 : Int32))), .val (.int (p2.toInt16.toInt32)), .val (.ref r_1), .val (.ref r_3), .unset, .unset, .unset, .unset] [(.int (6 : Int32)), (.int (7 : Int32)), (.ref b26), (.ref b26)])) rfl rfl (hb hby at_87)
    have K59 : Keep h0 h58 [] := K55.wr W58 (Or.inr sz_b26)
    have N60 := Fr.snoc X58 N56 g_b26
    have Vw58 := Arv.set Ac57 qc57 Sc57 Nc57 Hc57 Gc57 rfl W58 7 rfl (Nat.le_of_ble_eq_true rfl)
    change Arv Z h58 b26 k26 .int (21 : Int32) [(.int (9 : Int32)), (.int (12 : Int32)), (.int (6 : Int32)), (.int (9 : Int32)), (.int (8 : Int32)), (.int (6 : Int32)), (.int (3 : Int32)), (.int (6 : Int32)), (.int (0 : Int32)), (.int (0 : Int32)), (.int (0 : Int32)), (.int (0 : Int32)), (.int (0 : Int32)), (.int (0 : Int32)), (.int (0 : Int32)), (.int (0 : Int32)), (.int (0 : Int32)), (.int (0 : Int32)), (.int (0 : Int32)), (.int (0 : Int32)), (.int (0 : Int32))] (.int (0 : Int32)) at Vw58
    obtain ⟨c61, Ac61, qc61, Sc61, Nc61, Hc61, Gc61⟩ := id Vw58
    obtain ⟨T62, h62, X62, e62, W62, st62⟩ := stI X58 hx hZ e58 Ac61 (j := (8 : Int32)) (inb_of Sc61 ⟨by decide, by decide⟩) (g := (mkF m 92 #[.val (.int p1), .val (.int p2), .val (.int p3), .val (.int p4), .val (.int ((p1 &&& (2147483647 : Int32)) % (21 : Int32))), .val (.int (p2.toInt16.toInt32)), .val (.ref r_1), .val (.ref r_3), .unset, .unset, .unset, .unset] [(.int (4 : Int32)), (.int (8 : Int32)), (.ref b26), (.ref b26)])) rfl rfl (hb hby at_92)
    have K63 : Keep h0 h62 [] := K59.wr W62 (Or.inr sz_b26)
    have N64 := Fr.snoc X62 N60 g_b26
    have Vw62 := Arv.set Ac61 qc61 Sc61 Nc61 Hc61 Gc61 rfl W62 8 rfl (Nat.le_of_ble_eq_true rfl)
    change Arv Z h62 b26 k26 .int (21 : Int32) [(.int (9 : Int32)), (.int (12 : Int32)), (.int (6 : Int32)), (.int (9 : Int32)), (.int (8 : Int32)), (.int (6 : Int32)), (.int (3 : Int32)), (.int (6 : Int32)), (.int (4 : Int32)), (.int (0 : Int32)), (.int (0 : Int32)), (.int (0 : Int32)), (.int (0 : Int32)), (.int (0 : Int32)), (.int (0 : Int32)), (.int (0 : Int32)), (.int (0 : Int32)), (.int (0 : Int32)), (.int (0 : Int32)), (.int (0 : Int32)), (.int (0 : Int32))] (.int (0 : Int32)) at Vw62
    obtain ⟨c65, Ac65, qc65, Sc65, Nc65, Hc65, Gc65⟩ := id Vw62
    obtain ⟨T66, h66, X66, e66, W66, st66⟩ := stI X62 hx hZ e62 Ac65 (j := (9 : Int32)) (inb_of Sc65 ⟨by decide, by decide⟩) (g := (mkF m 97 #[.val (.int p1), .val (.int p2), .val (.int p3), .val (.int p4), .val (.int ((p1 &&& (2147483647 : Int32)) % (21 : Int32))), .val (.int (p2.toInt16.toInt32)), .val (.ref r_1), .val (.ref r_3), .unset, .unset, .unset, .unset] [(.int (4 : Int32)), (.int (9 : Int32)), (.ref b26), (.ref b26)])) rfl rfl (hb hby at_97)
    have K67 : Keep h0 h66 [] := K63.wr W66 (Or.inr sz_b26)
    have N68 := Fr.snoc X66 N64 g_b26
    have Vw66 := Arv.set Ac65 qc65 Sc65 Nc65 Hc65 Gc65 rfl W66 9 rfl (Nat.le_of_ble_eq_true rfl)
    change Arv Z h66 b26 k26 .int (21 : Int32) [(.int (9 : Int32)), (.int (12 : Int32)), (.int (6 : Int32)), (.int (9 : Int32)), (.int (8 : Int32)), (.int (6 : Int32)), (.int (3 : Int32)), (.int (6 : Int32)), (.int (4 : Int32)), (.int (4 : Int32)), (.int (0 : Int32)), (.int (0 : Int32)), (.int (0 : Int32)), (.int (0 : Int32)), (.int (0 : Int32)), (.int (0 : Int32)), (.int (0 : Int32)), (.int (0 : Int32)), (.int (0 : Int32)), (.int (0 : Int32)), (.int (0 : Int32))] (.int (0 : Int32)) at Vw66
    obtain ⟨c69, Ac69, qc69, Sc69, Nc69, Hc69, Gc69⟩ := id Vw66
    obtain ⟨T70, h70, X70, e70, W70, st70⟩ := stI X66 hx hZ e66 Ac69 (j := (10 : Int32)) (inb_of Sc69 ⟨by decide, by decide⟩) (g := (mkF m 102 #[.val (.int p1), .val (.int p2), .val (.int p3), .val (.int p4), .val (.int ((p1 &&& (2147483647 : Int32)) % (21 : Int32))), .val (.int (p2.toInt16.toInt32)), .val (.ref r_1), .val (.ref r_3), .unset, .unset, .unset, .unset] [(.int (4 : Int32)), (.int (10 : Int32)), (.ref b26), (.ref b26)])) rfl rfl (hb hby at_102)
    have K71 : Keep h0 h70 [] := K67.wr W70 (Or.inr sz_b26)
    have N72 := Fr.snoc X70 N68 g_b26
    have Vw70 := Arv.set Ac69 qc69 Sc69 Nc69 Hc69 Gc69 rfl W70 10 rfl (Nat.le_of_ble_eq_true rfl)
    change Arv Z h70 b26 k26 .int (21 : Int32) [(.int (9 : Int32)), (.int (12 : Int32)), (.int (6 : Int32)), (.int (9 : Int32)), (.int (8 : Int32)), (.int (6 : Int32)), (.int (3 : Int32)), (.int (6 : Int32)), (.int (4 : Int32)), (.int (4 : Int32)), (.int (4 : Int32)), (.int (0 : Int32)), (.int (0 : Int32)), (.int (0 : Int32)), (.int (0 : Int32)), (.int (0 : Int32)), (.int (0 : Int32)), (.int (0 : Int32)), (.int (0 : Int32)), (.int (0 : Int32)), (.int (0 : Int32))] (.int (0 : Int32)) at Vw70
    obtain ⟨c73, Ac73, qc73, Sc73, Nc73, Hc73, Gc73⟩ := id Vw70
    obtain ⟨T74, h74, X74, e74, W74, st74⟩ := stI X70 hx hZ e70 Ac73 (j := (11 : Int32)) (inb_of Sc73 ⟨by decide, by decide⟩) (g := (mkF m 107 #[.val (.int p1), .val (.int p2), .val (.int p3), .val (.int p4), .val (.int ((p1 &&& (2147483647 : Int32)) % (21 : Int32))), .val (.int (p2.toInt16.toInt32)), .val (.ref r_1), .val (.ref r_3), .unset, .unset, .unset, .unset] [(.int (3 : Int32)), (.int (11 : Int32)), (.ref b26), (.ref b26)])) rfl rfl (hb hby at_107)
    have K75 : Keep h0 h74 [] := K71.wr W74 (Or.inr sz_b26)
    have N76 := Fr.snoc X74 N72 g_b26
    have Vw74 := Arv.set Ac73 qc73 Sc73 Nc73 Hc73 Gc73 rfl W74 11 rfl (Nat.le_of_ble_eq_true rfl)
    change Arv Z h74 b26 k26 .int (21 : Int32) [(.int (9 : Int32)), (.int (12 : Int32)), (.int (6 : Int32)), (.int (9 : Int32)), (.int (8 : Int32)), (.int (6 : Int32)), (.int (3 : Int32)), (.int (6 : Int32)), (.int (4 : Int32)), (.int (4 : Int32)), (.int (4 : Int32)), (.int (3 : Int32)), (.int (0 : Int32)), (.int (0 : Int32)), (.int (0 : Int32)), (.int (0 : Int32)), (.int (0 : Int32)), (.int (0 : Int32)), (.int (0 : Int32)), (.int (0 : Int32)), (.int (0 : Int32))] (.int (0 : Int32)) at Vw74
    obtain ⟨c77, Ac77, qc77, Sc77, Nc77, Hc77, Gc77⟩ := id Vw74
    obtain ⟨T78, h78, X78, e78, W78, st78⟩ := stI X74 hx hZ e74 Ac77 (j := (12 : Int32)) (inb_of Sc77 ⟨by decide, by decide⟩) (g := (mkF m 112 #[.val (.int p1), .val (.int p2), .val (.int p3), .val (.int p4), .val (.int ((p1 &&& (2147483647 : Int32)) % (21 : Int32))), .val (.int (p2.toInt16.toInt32)), .val (.ref r_1), .val (.ref r_3), .unset, .unset, .unset, .unset] [(.int (5 : Int32)), (.int (12 : Int32)), (.ref b26), (.ref b26)])) rfl rfl (hb hby at_112)
    have K79 : Keep h0 h78 [] := K75.wr W78 (Or.inr sz_b26)
    have N80 := Fr.snoc X78 N76 g_b26
    have Vw78 := Arv.set Ac77 qc77 Sc77 Nc77 Hc77 Gc77 rfl W78 12 rfl (Nat.le_of_ble_eq_true rfl)
    change Arv Z h78 b26 k26 .int (21 : Int32) [(.int (9 : Int32)), (.int (12 : Int32)), (.int (6 : Int32)), (.int (9 : Int32)), (.int (8 : Int32)), (.int (6 : Int32)), (.int (3 : Int32)), (.int (6 : Int32)), (.int (4 : Int32)), (.int (4 : Int32)), (.int (4 : Int32)), (.int (3 : Int32)), (.int (5 : Int32)), (.int (0 : Int32)), (.int (0 : Int32)), (.int (0 : Int32)), (.int (0 : Int32)), (.int (0 : Int32)), (.int (0 : Int32)), (.int (0 : Int32)), (.int (0 : Int32))] (.int (0 : Int32)) at Vw78
    obtain ⟨c81, Ac81, qc81, Sc81, Nc81, Hc81, Gc81⟩ := id Vw78
    obtain ⟨T82, h82, X82, e82, W82, st82⟩ := stI X78 hx hZ e78 Ac81 (j := (13 : Int32)) (inb_of Sc81 ⟨by decide, by decide⟩) (g := (mkF m 117 #[.val (.int p1), .val (.int p2), .val (.int p3), .val (.int p4), .val (.int ((p1 &&& (2147483647 : Int32)) % (21 : Int32))), .val (.int (p2.toInt16.toInt32)), .val (.ref r_1), .val (.ref r_3), .unset, .unset, .unset, .unset] [(.int (2 : Int32)), (.int (13 : Int32)), (.ref b26), (.ref b26)])) rfl rfl (hb hby at_117)
    have K83 : Keep h0 h82 [] := K79.wr W82 (Or.inr sz_b26)
    have N84 := Fr.snoc X82 N80 g_b26
    have Vw82 := Arv.set Ac81 qc81 Sc81 Nc81 Hc81 Gc81 rfl W82 13 rfl (Nat.le_of_ble_eq_true rfl)
    change Arv Z h82 b26 k26 .int (21 : Int32) [(.int (9 : Int32)), (.int (12 : Int32)), (.int (6 : Int32)), (.int (9 : Int32)), (.int (8 : Int32)), (.int (6 : Int32)), (.int (3 : Int32)), (.int (6 : Int32)), (.int (4 : Int32)), (.int (4 : Int32)), (.int (4 : Int32)), (.int (3 : Int32)), (.int (5 : Int32)), (.int (2 : Int32)), (.int (0 : Int32)), (.int (0 : Int32)), (.int (0 : Int32)), (.int (0 : Int32)), (.int (0 : Int32)), (.int (0 : Int32)), (.int (0 : Int32))] (.int (0 : Int32)) at Vw82
    obtain ⟨c85, Ac85, qc85, Sc85, Nc85, Hc85, Gc85⟩ := id Vw82
    obtain ⟨T86, h86, X86, e86, W86, st86⟩ := stI X82 hx hZ e82 Ac85 (j := (14 : Int32)) (inb_of Sc85 ⟨by decide, by decide⟩) (g := (mkF m 122 #[.val (.int p1), .val (.int p2), .val (.int p3), .val (.int p4), .val (.int ((p1 &&& (2147483647 : Int32)) % (21 : Int32))), .val (.int (p2.toInt16.toInt32)), .val (.ref r_1), .val (.ref r_3), .unset, .unset, .unset, .unset] [(.int (4 : Int32)), (.int (14 : Int32)), (.ref b26), (.ref b26)])) rfl rfl (hb hby at_122)
    have K87 : Keep h0 h86 [] := K83.wr W86 (Or.inr sz_b26)
    have N88 := Fr.snoc X86 N84 g_b26
    have Vw86 := Arv.set Ac85 qc85 Sc85 Nc85 Hc85 Gc85 rfl W86 14 rfl (Nat.le_of_ble_eq_true rfl)
    change Arv Z h86 b26 k26 .int (21 : Int32) [(.int (9 : Int32)), (.int (12 : Int32)), (.int (6 : Int32)), (.int (9 : Int32)), (.int (8 : Int32)), (.int (6 : Int32)), (.int (3 : Int32)), (.int (6 : Int32)), (.int (4 : Int32)), (.int (4 : Int32)), (.int (4 : Int32)), (.int (3 : Int32)), (.int (5 : Int32)), (.int (2 : Int32)), (.int (4 : Int32)), (.int (0 : Int32)), (.int (0 : Int32)), (.int (0 : Int32)), (.int (0 : Int32)), (.int (0 : Int32)), (.int (0 : Int32))] (.int (0 : Int32)) at Vw86
    have pre89 : ∀ t, Steps p.tables e below (T86.setTop (mkF m 127 #[.val (.int p1), .val (.int p2), .val (.int p3), .val (.int p4), .val (.int ((p1 &&& (2147483647 : Int32)) % (21 : Int32))), .val (.int (p2.toInt16.toInt32)), .val (.ref r_1), .val (.ref r_3), .unset, .unset, .unset, .unset] [(.int (4 : Int32)), (.int (15 : Int32)), (.ref b26), (.ref b26)])) t → Steps p.tables e below (s₁.setTop (entryFrame m #[(.int p1), (.int p2), (.int p3), (.int p4)] maxLocals)) t := fun t kt => by
      refine pre52 t ?_
      show Steps p.tables e below (T49.setTop (mkF m 81 #[.val (.int p1), .val (.int p2), .val (.int p3), .val (.int p4), .val (.int ((p1 &&& (2147483647 : Int32)) % (21 : Int32))), .val (.int (p2.toInt16.toInt32)), .val (.ref r_1), .val (.ref r_3), .unset, .unset, .unset, .unset] [(.int (3 : Int32)), (.int (6 : Int32)), (.ref b26), (.ref b26)])) _
      refine st54 _ ?_
      show Steps p.tables e below (T54.setTop (mkF m 82 #[.val (.int p1), .val (.int p2), .val (.int p3), .val (.int p4), .val (.int ((p1 &&& (2147483647 : Int32)) % (21 : Int32))), .val (.int (p2.toInt16.toInt32)), .val (.ref r_1), .val (.ref r_3), .unset, .unset, .unset, .unset] [(.ref b26)])) _
      refine XS.dup X54.here hx rfl (hb hby at_82) rfl rfl ?_
      show Steps p.tables e below (T54.setTop (mkF m 83 #[.val (.int p1), .val (.int p2), .val (.int p3), .val (.int p4), .val (.int ((p1 &&& (2147483647 : Int32)) % (21 : Int32))), .val (.int (p2.toInt16.toInt32)), .val (.ref r_1), .val (.ref r_3), .unset, .unset, .unset, .unset] [(.ref b26), (.ref b26)])) _
      refine XS.bipush X54.here hx rfl (hb hby at_83) ?_
      show Steps p.tables e below (T54.setTop (mkF m 85 #[.val (.int p1), .val (.int p2), .val (.int p3), .val (.int p4), .val (.int ((p1 &&& (2147483647 : Int32)) % (21 : Int32))), .val (.int (p2.toInt16.toInt32)), .val (.ref r_1), .val (.ref r_3), .unset, .unset, .unset, .unset] [(.int (7 : Int32)), (.ref b26), (.ref b26)])) _
      refine XS.bipush X54.here hx rfl (hb hby at_85) ?_
      show Steps p.tables e below (T54.setTop (mkF m 87 #[.val (.int p1), .val (.int p2), .val (.int p3), .val (.int p4), .val (.int ((p1 &&& (2147483647 : Int32)) % (21 : Int32))), .val (.int (p2.toInt16.toInt32)), .val (.ref r_1), .val (.ref r_3), .unset, .unset, .unset, .unset] [(.int (6 : Int32)), (.int (7 : Int32)), (.ref b26), (.ref b26)])) _
      refine st58 _ ?_
      show Steps p.tables e below (T58.setTop (mkF m 88 #[.val (.int p1), .val (.int p2), .val (.int p3), .val (.int p4), .val (.int ((p1 &&& (2147483647 : Int32)) % (21 : Int32))), .val (.int (p2.toInt16.toInt32)), .val (.ref r_1), .val (.ref r_3), .unset, .unset, .unset, .unset] [(.ref b26)])) _
      refine XS.dup X58.here hx rfl (hb hby at_88) rfl rfl ?_
      show Steps p.tables e below (T58.setTop (mkF m 89 #[.val (.int p1), .val (.int p2), .val (.int p3), .val (.int p4), .val (.int ((p1 &&& (2147483647 : Int32)) % (21 : Int32))), .val (.int (p2.toInt16.toInt32)), .val (.ref r_1), .val (.ref r_3), .unset, .unset, .unset, .unset] [(.ref b26), (.ref b26)])) _
      refine XS.bipush X58.here hx rfl (hb hby at_89) ?_
      show Steps p.tables e below (T58.setTop (mkF m 91 #[.val (.int p1), .val (.int p2), .val (.int p3), .val (.int p4), .val (.int ((p1 &&& (2147483647 : Int32)) % (21 : Int32))), .val (.int (p2.toInt16.toInt32)), .val (.ref r_1), .val (.ref r_3), .unset, .unset, .unset, .unset] [(.int (8 : Int32)), (.ref b26), (.ref b26)])) _
      refine XS.iconst X58.here hx rfl (hb hby at_91) ?_
      show Steps p.tables e below (T58.setTop (mkF m 92 #[.val (.int p1), .val (.int p2), .val (.int p3), .val (.int p4), .val (.int ((p1 &&& (2147483647 : Int32)) % (21 : Int32))), .val (.int (p2.toInt16.toInt32)), .val (.ref r_1), .val (.ref r_3), .unset, .unset, .unset, .unset] [(.int (4 : Int32)), (.int (8 : Int32)), (.ref b26), (.ref b26)])) _
      refine st62 _ ?_
      show Steps p.tables e below (T62.setTop (mkF m 93 #[.val (.int p1), .val (.int p2), .val (.int p3), .val (.int p4), .val (.int ((p1 &&& (2147483647 : Int32)) % (21 : Int32))), .val (.int (p2.toInt16.toInt32)), .val (.ref r_1), .val (.ref r_3), .unset, .unset, .unset, .unset] [(.ref b26)])) _
      refine XS.dup X62.here hx rfl (hb hby at_93) rfl rfl ?_
      show Steps p.tables e below (T62.setTop (mkF m 94 #[.val (.int p1), .val (.int p2), .val (.int p3), .val (.int p4), .val (.int ((p1 &&& (2147483647 : Int32)) % (21 : Int32))), .val (.int (p2.toInt16.toInt32)), .val (.ref r_1), .val (.ref r_3), .unset, .unset, .unset, .unset] [(.ref b26), (.ref b26)])) _
      refine XS.bipush X62.here hx rfl (hb hby at_94) ?_
      show Steps p.tables e below (T62.setTop (mkF m 96 #[.val (.int p1), .val (.int p2), .val (.int p3), .val (.int p4), .val (.int ((p1 &&& (2147483647 : Int32)) % (21 : Int32))), .val (.int (p2.toInt16.toInt32)), .val (.ref r_1), .val (.ref r_3), .unset, .unset, .unset, .unset] [(.int (9 : Int32)), (.ref b26), (.ref b26)])) _
      refine XS.iconst X62.here hx rfl (hb hby at_96) ?_
      show Steps p.tables e below (T62.setTop (mkF m 97 #[.val (.int p1), .val (.int p2), .val (.int p3), .val (.int p4), .val (.int ((p1 &&& (2147483647 : Int32)) % (21 : Int32))), .val (.int (p2.toInt16.toInt32)), .val (.ref r_1), .val (.ref r_3), .unset, .unset, .unset, .unset] [(.int (4 : Int32)), (.int (9 : Int32)), (.ref b26), (.ref b26)])) _
      refine st66 _ ?_
      show Steps p.tables e below (T66.setTop (mkF m 98 #[.val (.int p1), .val (.int p2), .val (.int p3), .val (.int p4), .val (.int ((p1 &&& (2147483647 : Int32)) % (21 : Int32))), .val (.int (p2.toInt16.toInt32)), .val (.ref r_1), .val (.ref r_3), .unset, .unset, .unset, .unset] [(.ref b26)])) _
      refine XS.dup X66.here hx rfl (hb hby at_98) rfl rfl ?_
      show Steps p.tables e below (T66.setTop (mkF m 99 #[.val (.int p1), .val (.int p2), .val (.int p3), .val (.int p4), .val (.int ((p1 &&& (2147483647 : Int32)) % (21 : Int32))), .val (.int (p2.toInt16.toInt32)), .val (.ref r_1), .val (.ref r_3), .unset, .unset, .unset, .unset] [(.ref b26), (.ref b26)])) _
      refine XS.bipush X66.here hx rfl (hb hby at_99) ?_
      show Steps p.tables e below (T66.setTop (mkF m 101 #[.val (.int p1), .val (.int p2), .val (.int p3), .val (.int p4), .val (.int ((p1 &&& (2147483647 : Int32)) % (21 : Int32))), .val (.int (p2.toInt16.toInt32)), .val (.ref r_1), .val (.ref r_3), .unset, .unset, .unset, .unset] [(.int (10 : Int32)), (.ref b26), (.ref b26)])) _
      refine XS.iconst X66.here hx rfl (hb hby at_101) ?_
      show Steps p.tables e below (T66.setTop (mkF m 102 #[.val (.int p1), .val (.int p2), .val (.int p3), .val (.int p4), .val (.int ((p1 &&& (2147483647 : Int32)) % (21 : Int32))), .val (.int (p2.toInt16.toInt32)), .val (.ref r_1), .val (.ref r_3), .unset, .unset, .unset, .unset] [(.int (4 : Int32)), (.int (10 : Int32)), (.ref b26), (.ref b26)])) _
      refine st70 _ ?_
      show Steps p.tables e below (T70.setTop (mkF m 103 #[.val (.int p1), .val (.int p2), .val (.int p3), .val (.int p4), .val (.int ((p1 &&& (2147483647 : Int32)) % (21 : Int32))), .val (.int (p2.toInt16.toInt32)), .val (.ref r_1), .val (.ref r_3), .unset, .unset, .unset, .unset] [(.ref b26)])) _
      refine XS.dup X70.here hx rfl (hb hby at_103) rfl rfl ?_
      show Steps p.tables e below (T70.setTop (mkF m 104 #[.val (.int p1), .val (.int p2), .val (.int p3), .val (.int p4), .val (.int ((p1 &&& (2147483647 : Int32)) % (21 : Int32))), .val (.int (p2.toInt16.toInt32)), .val (.ref r_1), .val (.ref r_3), .unset, .unset, .unset, .unset] [(.ref b26), (.ref b26)])) _
      refine XS.bipush X70.here hx rfl (hb hby at_104) ?_
      show Steps p.tables e below (T70.setTop (mkF m 106 #[.val (.int p1), .val (.int p2), .val (.int p3), .val (.int p4), .val (.int ((p1 &&& (2147483647 : Int32)) % (21 : Int32))), .val (.int (p2.toInt16.toInt32)), .val (.ref r_1), .val (.ref r_3), .unset, .unset, .unset, .unset] [(.int (11 : Int32)), (.ref b26), (.ref b26)])) _
      refine XS.iconst X70.here hx rfl (hb hby at_106) ?_
      show Steps p.tables e below (T70.setTop (mkF m 107 #[.val (.int p1), .val (.int p2), .val (.int p3), .val (.int p4), .val (.int ((p1 &&& (2147483647 : Int32)) % (21 : Int32))), .val (.int (p2.toInt16.toInt32)), .val (.ref r_1), .val (.ref r_3), .unset, .unset, .unset, .unset] [(.int (3 : Int32)), (.int (11 : Int32)), (.ref b26), (.ref b26)])) _
      refine st74 _ ?_
      show Steps p.tables e below (T74.setTop (mkF m 108 #[.val (.int p1), .val (.int p2), .val (.int p3), .val (.int p4), .val (.int ((p1 &&& (2147483647 : Int32)) % (21 : Int32))), .val (.int (p2.toInt16.toInt32)), .val (.ref r_1), .val (.ref r_3), .unset, .unset, .unset, .unset] [(.ref b26)])) _
      refine XS.dup X74.here hx rfl (hb hby at_108) rfl rfl ?_
      show Steps p.tables e below (T74.setTop (mkF m 109 #[.val (.int p1), .val (.int p2), .val (.int p3), .val (.int p4), .val (.int ((p1 &&& (2147483647 : Int32)) % (21 : Int32))), .val (.int (p2.toInt16.toInt32)), .val (.ref r_1), .val (.ref r_3), .unset, .unset, .unset, .unset] [(.ref b26), (.ref b26)])) _
      refine XS.bipush X74.here hx rfl (hb hby at_109) ?_
      show Steps p.tables e below (T74.setTop (mkF m 111 #[.val (.int p1), .val (.int p2), .val (.int p3), .val (.int p4), .val (.int ((p1 &&& (2147483647 : Int32)) % (21 : Int32))), .val (.int (p2.toInt16.toInt32)), .val (.ref r_1), .val (.ref r_3), .unset, .unset, .unset, .unset] [(.int (12 : Int32)), (.ref b26), (.ref b26)])) _
      refine XS.iconst X74.here hx rfl (hb hby at_111) ?_
      show Steps p.tables e below (T74.setTop (mkF m 112 #[.val (.int p1), .val (.int p2), .val (.int p3), .val (.int p4), .val (.int ((p1 &&& (2147483647 : Int32)) % (21 : Int32))), .val (.int (p2.toInt16.toInt32)), .val (.ref r_1), .val (.ref r_3), .unset, .unset, .unset, .unset] [(.int (5 : Int32)), (.int (12 : Int32)), (.ref b26), (.ref b26)])) _
      refine st78 _ ?_
      show Steps p.tables e below (T78.setTop (mkF m 113 #[.val (.int p1), .val (.int p2), .val (.int p3), .val (.int p4), .val (.int ((p1 &&& (2147483647 : Int32)) % (21 : Int32))), .val (.int (p2.toInt16.toInt32)), .val (.ref r_1), .val (.ref r_3), .unset, .unset, .unset, .unset] [(.ref b26)])) _
      refine XS.dup X78.here hx rfl (hb hby at_113) rfl rfl ?_
      show Steps p.tables e below (T78.setTop (mkF m 114 #[.val (.int p1), .val (.int p2), .val (.int p3), .val (.int p4), .val (.int ((p1 &&& (2147483647 : Int32)) % (21 : Int32))), .val (.int (p2.toInt16.toInt32)), .val (.ref r_1), .val (.ref r_3), .unset, .unset, .unset, .unset] [(.ref b26), (.ref b26)])) _
      refine XS.bipush X78.here hx rfl (hb hby at_114) ?_
      show Steps p.tables e below (T78.setTop (mkF m 116 #[.val (.int p1), .val (.int p2), .val (.int p3), .val (.int p4), .val (.int ((p1 &&& (2147483647 : Int32)) % (21 : Int32))), .val (.int (p2.toInt16.toInt32)), .val (.ref r_1), .val (.ref r_3), .unset, .unset, .unset, .unset] [(.int (13 : Int32)), (.ref b26), (.ref b26)])) _
      refine XS.iconst X78.here hx rfl (hb hby at_116) ?_
      show Steps p.tables e below (T78.setTop (mkF m 117 #[.val (.int p1), .val (.int p2), .val (.int p3), .val (.int p4), .val (.int ((p1 &&& (2147483647 : Int32)) % (21 : Int32))), .val (.int (p2.toInt16.toInt32)), .val (.ref r_1), .val (.ref r_3), .unset, .unset, .unset, .unset] [(.int (2 : Int32)), (.int (13 : Int32)), (.ref b26), (.ref b26)])) _
      refine st82 _ ?_
      show Steps p.tables e below (T82.setTop (mkF m 118 #[.val (.int p1), .val (.int p2), .val (.int p3), .val (.int p4), .val (.int ((p1 &&& (2147483647 : Int32)) % (21 : Int32))), .val (.int (p2.toInt16.toInt32)), .val (.ref r_1), .val (.ref r_3), .unset, .unset, .unset, .unset] [(.ref b26)])) _
      refine XS.dup X82.here hx rfl (hb hby at_118) rfl rfl ?_
      show Steps p.tables e below (T82.setTop (mkF m 119 #[.val (.int p1), .val (.int p2), .val (.int p3), .val (.int p4), .val (.int ((p1 &&& (2147483647 : Int32)) % (21 : Int32))), .val (.int (p2.toInt16.toInt32)), .val (.ref r_1), .val (.ref r_3), .unset, .unset, .unset, .unset] [(.ref b26), (.ref b26)])) _
      refine XS.bipush X82.here hx rfl (hb hby at_119) ?_
      show Steps p.tables e below (T82.setTop (mkF m 121 #[.val (.int p1), .val (.int p2), .val (.int p3), .val (.int p4), .val (.int ((p1 &&& (2147483647 : Int32)) % (21 : Int32))), .val (.int (p2.toInt16.toInt32)), .val (.ref r_1), .val (.ref r_3), .unset, .unset, .unset, .unset] [(.int (14 : Int32)), (.ref b26), (.ref b26)])) _
      refine XS.iconst X82.here hx rfl (hb hby at_121) ?_
      show Steps p.tables e below (T82.setTop (mkF m 122 #[.val (.int p1), .val (.int p2), .val (.int p3), .val (.int p4), .val (.int ((p1 &&& (2147483647 : Int32)) % (21 : Int32))), .val (.int (p2.toInt16.toInt32)), .val (.ref r_1), .val (.ref r_3), .unset, .unset, .unset, .unset] [(.int (4 : Int32)), (.int (14 : Int32)), (.ref b26), (.ref b26)])) _
      refine st86 _ ?_
      show Steps p.tables e below (T86.setTop (mkF m 123 #[.val (.int p1), .val (.int p2), .val (.int p3), .val (.int p4), .val (.int ((p1 &&& (2147483647 : Int32)) % (21 : Int32))), .val (.int (p2.toInt16.toInt32)), .val (.ref r_1), .val (.ref r_3), .unset, .unset, .unset, .unset] [(.ref b26)])) _
      refine XS.dup X86.here hx rfl (hb hby at_123) rfl rfl ?_
      show Steps p.tables e below (T86.setTop (mkF m 124 #[.val (.int p1), .val (.int p2), .val (.int p3), .val (.int p4), .val (.int ((p1 &&& (2147483647 : Int32)) % (21 : Int32))), .val (.int (p2.toInt16.toInt32)), .val (.ref r_1), .val (.ref r_3), .unset, .unset, .unset, .unset] [(.ref b26), (.ref b26)])) _
      refine XS.bipush X86.here hx rfl (hb hby at_124) ?_
      show Steps p.tables e below (T86.setTop (mkF m 126 #[.val (.int p1), .val (.int p2), .val (.int p3), .val (.int p4), .val (.int ((p1 &&& (2147483647 : Int32)) % (21 : Int32))), .val (.int (p2.toInt16.toInt32)), .val (.ref r_1), .val (.ref r_3), .unset, .unset, .unset, .unset] [(.int (15 : Int32)), (.ref b26), (.ref b26)])) _
      refine XS.iconst X86.here hx rfl (hb hby at_126) ?_
      exact kt
    obtain ⟨c90, Ac90, qc90, Sc90, Nc90, Hc90, Gc90⟩ := id Vw86
    obtain ⟨T91, h91, X91, e91, W91, st91⟩ := stI X86 hx hZ e86 Ac90 (j := (15 : Int32)) (inb_of Sc90 ⟨by decide, by decide⟩) (g := (mkF m 127 #[.val (.int p1), .val (.int p2), .val (.int p3), .val (.int p4), .val (.int ((p1 &&& (2147483647 : Int32)) % (21 : Int32))), .val (.int (p2.toInt16.toInt32)), .val (.ref r_1), .val (.ref r_3), .unset, .unset, .unset, .unset] [(.int (4 : Int32)), (.int (15 : Int32)), (.ref b26), (.ref b26)])) rfl rfl (hb hby at_127)
    have K92 : Keep h0 h91 [] := K87.wr W91 (Or.inr sz_b26)
    have N93 := Fr.snoc X91 N88 g_b26
    have Vw91 := Arv.set Ac90 qc90 Sc90 Nc90 Hc90 Gc90 rfl W91 15 rfl (Nat.le_of_ble_eq_true rfl)
    change Arv Z h91 b26 k26 .int (21 : Int32) [(.int (9 : Int32)), (.int (12 : Int32)), (.int (6 : Int32)), (.int (9 : Int32)), (.int (8 : Int32)), (.int (6 : Int32)), (.int (3 : Int32)), (.int (6 : Int32)), (.int (4 : Int32)), (.int (4 : Int32)), (.int (4 : Int32)), (.int (3 : Int32)), (.int (5 : Int32)), (.int (2 : Int32)), (.int (4 : Int32)), (.int (4 : Int32)), (.int (0 : Int32)), (.int (0 : Int32)), (.int (0 : Int32)), (.int (0 : Int32)), (.int (0 : Int32))] (.int (0 : Int32)) at Vw91
    obtain ⟨c94, Ac94, qc94, Sc94, Nc94, Hc94, Gc94⟩ := id Vw91
    obtain ⟨T95, h95, X95, e95, W95, st95⟩ := stI X91 hx hZ e91 Ac94 (j := (16 : Int32)) (inb_of Sc94 ⟨by decide, by decide⟩) (g := (mkF m 132 #[.val (.int p1), .val (.int p2), .val (.int p3), .val (.int p4), .val (.int ((p1 &&& (2147483647 : Int32)) % (21 : Int32))), .val (.int (p2.toInt16.toInt32)), .val (.ref r_1), .val (.ref r_3), .unset, .unset, .unset, .unset] [(.int (2 : Int32)), (.int (16 : Int32)), (.ref b26), (.ref b26)])) rfl rfl (hb hby at_132)
    have K96 : Keep h0 h95 [] := K92.wr W95 (Or.inr sz_b26)
    have N97 := Fr.snoc X95 N93 g_b26
    have Vw95 := Arv.set Ac94 qc94 Sc94 Nc94 Hc94 Gc94 rfl W95 16 rfl (Nat.le_of_ble_eq_true rfl)
    change Arv Z h95 b26 k26 .int (21 : Int32) [(.int (9 : Int32)), (.int (12 : Int32)), (.int (6 : Int32)), (.int (9 : Int32)), (.int (8 : Int32)), (.int (6 : Int32)), (.int (3 : Int32)), (.int (6 : Int32)), (.int (4 : Int32)), (.int (4 : Int32)), (.int (4 : Int32)), (.int (3 : Int32)), (.int (5 : Int32)), (.int (2 : Int32)), (.int (4 : Int32)), (.int (4 : Int32)), (.int (2 : Int32)), (.int (0 : Int32)), (.int (0 : Int32)), (.int (0 : Int32)), (.int (0 : Int32))] (.int (0 : Int32)) at Vw95
    obtain ⟨c98, Ac98, qc98, Sc98, Nc98, Hc98, Gc98⟩ := id Vw95
    obtain ⟨T99, h99, X99, e99, W99, st99⟩ := stI X95 hx hZ e95 Ac98 (j := (17 : Int32)) (inb_of Sc98 ⟨by decide, by decide⟩) (g := (mkF m 137 #[.val (.int p1), .val (.int p2), .val (.int p3), .val (.int p4), .val (.int ((p1 &&& (2147483647 : Int32)) % (21 : Int32))), .val (.int (p2.toInt16.toInt32)), .val (.ref r_1), .val (.ref r_3), .unset, .unset, .unset, .unset] [(.int (0 : Int32)), (.int (17 : Int32)), (.ref b26), (.ref b26)])) rfl rfl (hb hby at_137)
    have K100 : Keep h0 h99 [] := K96.wr W99 (Or.inr sz_b26)
    have N101 := Fr.snoc X99 N97 g_b26
    have Vw99 := Arv.set Ac98 qc98 Sc98 Nc98 Hc98 Gc98 rfl W99 17 rfl (Nat.le_of_ble_eq_true rfl)
    change Arv Z h99 b26 k26 .int (21 : Int32) [(.int (9 : Int32)), (.int (12 : Int32)), (.int (6 : Int32)), (.int (9 : Int32)), (.int (8 : Int32)), (.int (6 : Int32)), (.int (3 : Int32)), (.int (6 : Int32)), (.int (4 : Int32)), (.int (4 : Int32)), (.int (4 : Int32)), (.int (3 : Int32)), (.int (5 : Int32)), (.int (2 : Int32)), (.int (4 : Int32)), (.int (4 : Int32)), (.int (2 : Int32)), (.int (0 : Int32)), (.int (0 : Int32)), (.int (0 : Int32)), (.int (0 : Int32))] (.int (0 : Int32)) at Vw99
    obtain ⟨c102, Ac102, qc102, Sc102, Nc102, Hc102, Gc102⟩ := id Vw99
    obtain ⟨T103, h103, X103, e103, W103, st103⟩ := stI X99 hx hZ e99 Ac102 (j := (18 : Int32)) (inb_of Sc102 ⟨by decide, by decide⟩) (g := (mkF m 142 #[.val (.int p1), .val (.int p2), .val (.int p3), .val (.int p4), .val (.int ((p1 &&& (2147483647 : Int32)) % (21 : Int32))), .val (.int (p2.toInt16.toInt32)), .val (.ref r_1), .val (.ref r_3), .unset, .unset, .unset, .unset] [(.int (0 : Int32)), (.int (18 : Int32)), (.ref b26), (.ref b26)])) rfl rfl (hb hby at_142)
    have K104 : Keep h0 h103 [] := K100.wr W103 (Or.inr sz_b26)
    have N105 := Fr.snoc X103 N101 g_b26
    have Vw103 := Arv.set Ac102 qc102 Sc102 Nc102 Hc102 Gc102 rfl W103 18 rfl (Nat.le_of_ble_eq_true rfl)
    change Arv Z h103 b26 k26 .int (21 : Int32) [(.int (9 : Int32)), (.int (12 : Int32)), (.int (6 : Int32)), (.int (9 : Int32)), (.int (8 : Int32)), (.int (6 : Int32)), (.int (3 : Int32)), (.int (6 : Int32)), (.int (4 : Int32)), (.int (4 : Int32)), (.int (4 : Int32)), (.int (3 : Int32)), (.int (5 : Int32)), (.int (2 : Int32)), (.int (4 : Int32)), (.int (4 : Int32)), (.int (2 : Int32)), (.int (0 : Int32)), (.int (0 : Int32)), (.int (0 : Int32)), (.int (0 : Int32))] (.int (0 : Int32)) at Vw103
    obtain ⟨c106, Ac106, qc106, Sc106, Nc106, Hc106, Gc106⟩ := id Vw103
    obtain ⟨T107, h107, X107, e107, W107, st107⟩ := stI X103 hx hZ e103 Ac106 (j := (19 : Int32)) (inb_of Sc106 ⟨by decide, by decide⟩) (g := (mkF m 147 #[.val (.int p1), .val (.int p2), .val (.int p3), .val (.int p4), .val (.int ((p1 &&& (2147483647 : Int32)) % (21 : Int32))), .val (.int (p2.toInt16.toInt32)), .val (.ref r_1), .val (.ref r_3), .unset, .unset, .unset, .unset] [(.int (0 : Int32)), (.int (19 : Int32)), (.ref b26), (.ref b26)])) rfl rfl (hb hby at_147)
    have K108 : Keep h0 h107 [] := K104.wr W107 (Or.inr sz_b26)
    have N109 := Fr.snoc X107 N105 g_b26
    have Vw107 := Arv.set Ac106 qc106 Sc106 Nc106 Hc106 Gc106 rfl W107 19 rfl (Nat.le_of_ble_eq_true rfl)
    change Arv Z h107 b26 k26 .int (21 : Int32) [(.int (9 : Int32)), (.int (12 : Int32)), (.int (6 : Int32)), (.int (9 : Int32)), (.int (8 : Int32)), (.int (6 : Int32)), (.int (3 : Int32)), (.int (6 : Int32)), (.int (4 : Int32)), (.int (4 : Int32)), (.int (4 : Int32)), (.int (3 : Int32)), (.int (5 : Int32)), (.int (2 : Int32)), (.int (4 : Int32)), (.int (4 : Int32)), (.int (2 : Int32)), (.int (0 : Int32)), (.int (0 : Int32)), (.int (0 : Int32)), (.int (0 : Int32))] (.int (0 : Int32)) at Vw107
    obtain ⟨c110, Ac110, qc110, Sc110, Nc110, Hc110, Gc110⟩ := id Vw107
    obtain ⟨T111, h111, X111, e111, W111, st111⟩ := stI X107 hx hZ e107 Ac110 (j := (20 : Int32)) (inb_of Sc110 ⟨by decide, by decide⟩) (g := (mkF m 152 #[.val (.int p1), .val (.int p2), .val (.int p3), .val (.int p4), .val (.int ((p1 &&& (2147483647 : Int32)) % (21 : Int32))), .val (.int (p2.toInt16.toInt32)), .val (.ref r_1), .val (.ref r_3), .unset, .unset, .unset, .unset] [(.int (0 : Int32)), (.int (20 : Int32)), (.ref b26), (.ref b26)])) rfl rfl (hb hby at_152)
    have K112 : Keep h0 h111 [] := K108.wr W111 (Or.inr sz_b26)
    have N113 := Fr.snoc X111 N109 g_b26
    have Vw111 := Arv.set Ac110 qc110 Sc110 Nc110 Hc110 Gc110 rfl W111 20 rfl (Nat.le_of_ble_eq_true rfl)
    change Arv Z h111 b26 k26 .int (21 : Int32) [(.int (9 : Int32)), (.int (12 : Int32)), (.int (6 : Int32)), (.int (9 : Int32)), (.int (8 : Int32)), (.int (6 : Int32)), (.int (3 : Int32)), (.int (6 : Int32)), (.int (4 : Int32)), (.int (4 : Int32)), (.int (4 : Int32)), (.int (3 : Int32)), (.int (5 : Int32)), (.int (2 : Int32)), (.int (4 : Int32)), (.int (4 : Int32)), (.int (2 : Int32)), (.int (0 : Int32)), (.int (0 : Int32)), (.int (0 : Int32)), (.int (0 : Int32))] (.int (0 : Int32)) at Vw111
    have f114 : Exa Z h111 r_1 "com/example/alviso/alviso/protocol/ApiKey" := ((((((((((((((((((((((f4.ext E26).wr W29).wr W33).wr W37).wr W41).wr W45).wr W49).wr W54).wr W58).wr W62).wr W66).wr W70).wr W74).wr W78).wr W82).wr W86).wr W91).wr W95).wr W99).wr W103).wr W107).wr W111)
    have f115 : Exa Z h111 r_3 "java/lang/String" := ((((((((((((((((((((((t3_1.ext E26).wr W29).wr W33).wr W37).wr W41).wr W45).wr W49).wr W54).wr W58).wr W62).wr W66).wr W70).wr W74).wr W78).wr W82).wr W86).wr W91).wr W95).wr W99).wr W103).wr W107).wr W111)
    have f116 : Exa Z h111 w_ALLOCATE_PRODUCER_IDS "com/example/alviso/alviso/protocol/ApiKey" := ((((((((((((((((((((((f5.ext E26).wr W29).wr W33).wr W37).wr W41).wr W45).wr W49).wr W54).wr W58).wr W62).wr W66).wr W70).wr W74).wr W78).wr W82).wr W86).wr W91).wr W95).wr W99).wr W103).wr W107).wr W111)
    have f117 : Exa Z h111 w_ALTER_PARTITION "com/example/alviso/alviso/protocol/ApiKey" := ((((((((((((((((((((((f6.ext E26).wr W29).wr W33).wr W37).wr W41).wr W45).wr W49).wr W54).wr W58).wr W62).wr W66).wr W70).wr W74).wr W78).wr W82).wr W86).wr W91).wr W95).wr W99).wr W103).wr W107).wr W111)
    have f118 : Exa Z h111 w_API_VERSIONS "com/example/alviso/alviso/protocol/ApiKey" := ((((((((((((((((((((((f7.ext E26).wr W29).wr W33).wr W37).wr W41).wr W45).wr W49).wr W54).wr W58).wr W62).wr W66).wr W70).wr W74).wr W78).wr W82).wr W86).wr W91).wr W95).wr W99).wr W103).wr W107).wr W111)
    have f119 : Exa Z h111 w_BROKER_HEARTBEAT "com/example/alviso/alviso/protocol/ApiKey" := ((((((((((((((((((((((f8.ext E26).wr W29).wr W33).wr W37).wr W41).wr W45).wr W49).wr W54).wr W58).wr W62).wr W66).wr W70).wr W74).wr W78).wr W82).wr W86).wr W91).wr W95).wr W99).wr W103).wr W107).wr W111)
    have f120 : Exa Z h111 w_BROKER_REGISTRATION "com/example/alviso/alviso/protocol/ApiKey" := ((((((((((((((((((((((f9.ext E26).wr W29).wr W33).wr W37).wr W41).wr W45).wr W49).wr W54).wr W58).wr W62).wr W66).wr W70).wr W74).wr W78).wr W82).wr W86).wr W91).wr W95).wr W99).wr W103).wr W107).wr W111)
    have f121 : Exa Z h111 w_CREATE_TOPICS "com/example/alviso/alviso/protocol/ApiKey" := ((((((((((((((((((((((f10.ext E26).wr W29).wr W33).wr W37).wr W41).wr W45).wr W49).wr W54).wr W58).wr W62).wr W66).wr W70).wr W74).wr W78).wr W82).wr W86).wr W91).wr W95).wr W99).wr W103).wr W107).wr W111)
    have f122 : Exa Z h111 w_DESCRIBE_CONFIGS "com/example/alviso/alviso/protocol/ApiKey" := ((((((((((((((((((((((f11.ext E26).wr W29).wr W33).wr W37).wr W41).wr W45).wr W49).wr W54).wr W58).wr W62).wr W66).wr W70).wr W74).wr W78).wr W82).wr W86).wr W91).wr W95).wr W99).wr W103).wr W107).wr W111)
    have f123 : Exa Z h111 w_ELECT_LEADERS "com/example/alviso/alviso/protocol/ApiKey" := ((((((((((((((((((((((f12.ext E26).wr W29).wr W33).wr W37).wr W41).wr W45).wr W49).wr W54).wr W58).wr W62).wr W66).wr W70).wr W74).wr W78).wr W82).wr W86).wr W91).wr W95).wr W99).wr W103).wr W107).wr W111)
    have f124 : Exa Z h111 w_FETCH "com/example/alviso/alviso/protocol/ApiKey" := ((((((((((((((((((((((f13.ext E26).wr W29).wr W33).wr W37).wr W41).wr W45).wr W49).wr W54).wr W58).wr W62).wr W66).wr W70).wr W74).wr W78).wr W82).wr W86).wr W91).wr W95).wr W99).wr W103).wr W107).wr W111)
    have f125 : Exa Z h111 w_FIND_COORDINATOR "com/example/alviso/alviso/protocol/ApiKey" := ((((((((((((((((((((((f14.ext E26).wr W29).wr W33).wr W37).wr W41).wr W45).wr W49).wr W54).wr W58).wr W62).wr W66).wr W70).wr W74).wr W78).wr W82).wr W86).wr W91).wr W95).wr W99).wr W103).wr W107).wr W111)
    have f126 : Exa Z h111 w_HEARTBEAT "com/example/alviso/alviso/protocol/ApiKey" := ((((((((((((((((((((((f15.ext E26).wr W29).wr W33).wr W37).wr W41).wr W45).wr W49).wr W54).wr W58).wr W62).wr W66).wr W70).wr W74).wr W78).wr W82).wr W86).wr W91).wr W95).wr W99).wr W103).wr W107).wr W111)
    have f127 : Exa Z h111 w_INIT_PRODUCER_ID "com/example/alviso/alviso/protocol/ApiKey" := ((((((((((((((((((((((f16.ext E26).wr W29).wr W33).wr W37).wr W41).wr W45).wr W49).wr W54).wr W58).wr W62).wr W66).wr W70).wr W74).wr W78).wr W82).wr W86).wr W91).wr W95).wr W99).wr W103).wr W107).wr W111)
    have f128 : Exa Z h111 w_JOIN_GROUP "com/example/alviso/alviso/protocol/ApiKey" := ((((((((((((((((((((((f17.ext E26).wr W29).wr W33).wr W37).wr W41).wr W45).wr W49).wr W54).wr W58).wr W62).wr W66).wr W70).wr W74).wr W78).wr W82).wr W86).wr W91).wr W95).wr W99).wr W103).wr W107).wr W111)
    have f129 : Exa Z h111 w_LEAVE_GROUP "com/example/alviso/alviso/protocol/ApiKey" := ((((((((((((((((((((((f18.ext E26).wr W29).wr W33).wr W37).wr W41).wr W45).wr W49).wr W54).wr W58).wr W62).wr W66).wr W70).wr W74).wr W78).wr W82).wr W86).wr W91).wr W95).wr W99).wr W103).wr W107).wr W111)
    have f130 : Exa Z h111 w_LIST_OFFSETS "com/example/alviso/alviso/protocol/ApiKey" := ((((((((((((((((((((((f19.ext E26).wr W29).wr W33).wr W37).wr W41).wr W45).wr W49).wr W54).wr W58).wr W62).wr W66).wr W70).wr W74).wr W78).wr W82).wr W86).wr W91).wr W95).wr W99).wr W103).wr W107).wr W111)
    have f131 : Exa Z h111 w_METADATA "com/example/alviso/alviso/protocol/ApiKey" := ((((((((((((((((((((((f20.ext E26).wr W29).wr W33).wr W37).wr W41).wr W45).wr W49).wr W54).wr W58).wr W62).wr W66).wr W70).wr W74).wr W78).wr W82).wr W86).wr W91).wr W95).wr W99).wr W103).wr W107).wr W111)
    have f132 : Exa Z h111 w_OFFSET_COMMIT "com/example/alviso/alviso/protocol/ApiKey" := ((((((((((((((((((((((f21.ext E26).wr W29).wr W33).wr W37).wr W41).wr W45).wr W49).wr W54).wr W58).wr W62).wr W66).wr W70).wr W74).wr W78).wr W82).wr W86).wr W91).wr W95).wr W99).wr W103).wr W107).wr W111)
    have f133 : Exa Z h111 w_OFFSET_FETCH "com/example/alviso/alviso/protocol/ApiKey" := ((((((((((((((((((((((f22.ext E26).wr W29).wr W33).wr W37).wr W41).wr W45).wr W49).wr W54).wr W58).wr W62).wr W66).wr W70).wr W74).wr W78).wr W82).wr W86).wr W91).wr W95).wr W99).wr W103).wr W107).wr W111)
    have f134 : Exa Z h111 w_OFFSET_FOR_LEADER_EPOCH "com/example/alviso/alviso/protocol/ApiKey" := ((((((((((((((((((((((f23.ext E26).wr W29).wr W33).wr W37).wr W41).wr W45).wr W49).wr W54).wr W58).wr W62).wr W66).wr W70).wr W74).wr W78).wr W82).wr W86).wr W91).wr W95).wr W99).wr W103).wr W107).wr W111)
    have f135 : Exa Z h111 w_PRODUCE "com/example/alviso/alviso/protocol/ApiKey" := ((((((((((((((((((((((f24.ext E26).wr W29).wr W33).wr W37).wr W41).wr W45).wr W49).wr W54).wr W58).wr W62).wr W66).wr W70).wr W74).wr W78).wr W82).wr W86).wr W91).wr W95).wr W99).wr W103).wr W107).wr W111)
    have f136 : Exa Z h111 w_SYNC_GROUP "com/example/alviso/alviso/protocol/ApiKey" := ((((((((((((((((((((((f25.ext E26).wr W29).wr W33).wr W37).wr W41).wr W45).wr W49).wr W54).wr W58).wr W62).wr W66).wr W70).wr W74).wr W78).wr W82).wr W86).wr W91).wr W95).wr W99).wr W103).wr W107).wr W111)
    obtain ⟨T137, h137, X137, e137, E137, A137, D137, -, st137⟩ := newO X111 hx hZ hown (hw _ (List.mem_of_getElem? (i := 35) rfl)) (hw _ (List.mem_of_getElem? (i := 36) rfl)) (hw _ (List.mem_of_getElem? (i := 37) rfl)) e111 (g := (mkF m 155 #[.val (.int p1), .val (.int p2), .val (.int p3), .val (.int p4), .val (.int ((p1 &&& (2147483647 : Int32)) % (21 : Int32))), .val (.int (p2.toInt16.toInt32)), .val (.ref r_1), .val (.ref r_3), .val (.ref b26), .unset, .unset, .unset] [])) rfl (hb hby at_155) (by decide) (by decide)
    obtain ⟨b137, g137⟩ : ∃ z, z = h111.size := ⟨_, rfl⟩
    rw [← g137] at A137 D137 st137
    have ne_b26_b137 : b26 ≠ b137 := Nat.ne_of_lt (Nat.lt_of_lt_of_le Vw111.lt (Nat.le_of_eq g137.symm))
    have ne_r_1_b137 : r_1 ≠ b137 := Nat.ne_of_lt (Nat.lt_of_lt_of_le f114.lt (Nat.le_of_eq g137.symm))
    have ne_r_3_b137 : r_3 ≠ b137 := Nat.ne_of_lt (Nat.lt_of_lt_of_le f115.lt (Nat.le_of_eq g137.symm))
    have ne_w_ALLOCATE_PRODUCER_IDS_b137 : w_ALLOCATE_PRODUCER_IDS ≠ b137 := Nat.ne_of_lt (Nat.lt_of_lt_of_le f116.lt (Nat.le_of_eq g137.symm))
    have ne_w_ALTER_PARTITION_b137 : w_ALTER_PARTITION ≠ b137 := Nat.ne_of_lt (Nat.lt_of_lt_of_le f117.lt (Nat.le_of_eq g137.symm))
    have ne_w_API_VERSIONS_b137 : w_API_VERSIONS ≠ b137 := Nat.ne_of_lt (Nat.lt_of_lt_of_le f118.lt (Nat.le_of_eq g137.symm))
    have ne_w_BROKER_HEARTBEAT_b137 : w_BROKER_HEARTBEAT ≠ b137 := Nat.ne_of_lt (Nat.lt_of_lt_of_le f119.lt (Nat.le_of_eq g137.symm))
    have ne_w_BROKER_REGISTRATION_b137 : w_BROKER_REGISTRATION ≠ b137 := Nat.ne_of_lt (Nat.lt_of_lt_of_le f120.lt (Nat.le_of_eq g137.symm))
    have ne_w_CREATE_TOPICS_b137 : w_CREATE_TOPICS ≠ b137 := Nat.ne_of_lt (Nat.lt_of_lt_of_le f121.lt (Nat.le_of_eq g137.symm))
    have ne_w_DESCRIBE_CONFIGS_b137 : w_DESCRIBE_CONFIGS ≠ b137 := Nat.ne_of_lt (Nat.lt_of_lt_of_le f122.lt (Nat.le_of_eq g137.symm))
    have ne_w_ELECT_LEADERS_b137 : w_ELECT_LEADERS ≠ b137 := Nat.ne_of_lt (Nat.lt_of_lt_of_le f123.lt (Nat.le_of_eq g137.symm))
    have ne_w_FETCH_b137 : w_FETCH ≠ b137 := Nat.ne_of_lt (Nat.lt_of_lt_of_le f124.lt (Nat.le_of_eq g137.symm))
    have ne_w_FIND_COORDINATOR_b137 : w_FIND_COORDINATOR ≠ b137 := Nat.ne_of_lt (Nat.lt_of_lt_of_le f125.lt (Nat.le_of_eq g137.symm))
    have ne_w_HEARTBEAT_b137 : w_HEARTBEAT ≠ b137 := Nat.ne_of_lt (Nat.lt_of_lt_of_le f126.lt (Nat.le_of_eq g137.symm))
    have ne_w_INIT_PRODUCER_ID_b137 : w_INIT_PRODUCER_ID ≠ b137 := Nat.ne_of_lt (Nat.lt_of_lt_of_le f127.lt (Nat.le_of_eq g137.symm))
    have ne_w_JOIN_GROUP_b137 : w_JOIN_GROUP ≠ b137 := Nat.ne_of_lt (Nat.lt_of_lt_of_le f128.lt (Nat.le_of_eq g137.symm))
    have ne_w_LEAVE_GROUP_b137 : w_LEAVE_GROUP ≠ b137 := Nat.ne_of_lt (Nat.lt_of_lt_of_le f129.lt (Nat.le_of_eq g137.symm))
    have ne_w_LIST_OFFSETS_b137 : w_LIST_OFFSETS ≠ b137 := Nat.ne_of_lt (Nat.lt_of_lt_of_le f130.lt (Nat.le_of_eq g137.symm))
    have ne_w_METADATA_b137 : w_METADATA ≠ b137 := Nat.ne_of_lt (Nat.lt_of_lt_of_le f131.lt (Nat.le_of_eq g137.symm))
    have ne_w_OFFSET_COMMIT_b137 : w_OFFSET_COMMIT ≠ b137 := Nat.ne_of_lt (Nat.lt_of_lt_of_le f132.lt (Nat.le_of_eq g137.symm))
    have ne_w_OFFSET_FETCH_b137 : w_OFFSET_FETCH ≠ b137 := Nat.ne_of_lt (Nat.lt_of_lt_of_le f133.lt (Nat.le_of_eq g137.symm))
    have ne_w_OFFSET_FOR_LEADER_EPOCH_b137 : w_OFFSET_FOR_LEADER_EPOCH ≠ b137 := Nat.ne_of_lt (Nat.lt_of_lt_of_le f134.lt (Nat.le_of_eq g137.symm))
    have ne_w_PRODUCE_b137 : w_PRODUCE ≠ b137 := Nat.ne_of_lt (Nat.lt_of_lt_of_le f135.lt (Nat.le_of_eq g137.symm))
    have ne_w_SYNC_GROUP_b137 : w_SYNC_GROUP ≠ b137 := Nat.ne_of_lt (Nat.lt_of_lt_of_le f136.lt (Nat.le_of_eq g137.symm))
    have g_b137 : n0 ≤ b137 := Nat.le_trans (Nat.le_trans Z0 K112.1) (Nat.le_of_eq g137.symm)
    have sz_b137 : h0.size ≤ b137 := Nat.le_trans K112.1 (Nat.le_of_eq g137.symm)
    have K138 : Keep h0 h137 [] := K112.ext E137
    have F_api_b137 : Fld Z h137 b137 "com/example/alviso/alviso/protocol/RequestHeader" "api" "Lcom/example/alviso/alviso/protocol/ApiKey;" .null := D137 (Or.inr (hw _ (List.mem_of_getElem? (i := 48) rfl))) (ty := (.object "com/example/alviso/alviso/protocol/ApiKey")) (by decide)
    have F_version_b137 : Fld Z h137 b137 "com/example/alviso/alviso/protocol/RequestHeader" "version" "S" (.int (0 : Int32)) := D137 (Or.inr (hw _ (List.mem_of_getElem? (i := 50) rfl))) (ty := .short) (by decide)
    have F_correlationId_b137 : Fld Z h137 b137 "com/example/alviso/alviso/protocol/RequestHeader" "correlationId" "I" (.int (0 : Int32)) := D137 (Or.inr (hw _ (List.mem_of_getElem? (i := 52) rfl))) (ty := .int) (by decide)
    have F_clientId_b137 : Fld Z h137 b137 "com/example/alviso/alviso/protocol/RequestHeader" "clientId" "Ljava/lang/String;" .null := D137 (Or.inr (hw _ (List.mem_of_getElem? (i := 54) rfl))) (ty := (.object "java/lang/String")) (by decide)
    have f140 : Arv Z h137 b26 k26 .int (21 : Int32) [(.int (9 : Int32)), (.int (12 : Int32)), (.int (6 : Int32)), (.int (9 : Int32)), (.int (8 : Int32)), (.int (6 : Int32)), (.int (3 : Int32)), (.int (6 : Int32)), (.int (4 : Int32)), (.int (4 : Int32)), (.int (4 : Int32)), (.int (3 : Int32)), (.int (5 : Int32)), (.int (2 : Int32)), (.int (4 : Int32)), (.int (4 : Int32)), (.int (2 : Int32)), (.int (0 : Int32)), (.int (0 : Int32)), (.int (0 : Int32)), (.int (0 : Int32))] (.int (0 : Int32)) := (Vw111.ext E137)
    have f141 : Exa Z h137 r_1 "com/example/alviso/alviso/protocol/ApiKey" := (f114.ext E137)
    have f142 : Exa Z h137 r_3 "java/lang/String" := (f115.ext E137)
    have f143 : Exa Z h137 w_ALLOCATE_PRODUCER_IDS "com/example/alviso/alviso/protocol/ApiKey" := (f116.ext E137)
    have f144 : Exa Z h137 w_ALTER_PARTITION "com/example/alviso/alviso/protocol/ApiKey" := (f117.ext E137)
    have f145 : Exa Z h137 w_API_VERSIONS "com/example/alviso/alviso/protocol/ApiKey" := (f118.ext E137)
    have f146 : Exa Z h137 w_BROKER_HEARTBEAT "com/example/alviso/alviso/protocol/ApiKey" := (f119.ext E137)
    have f147 : Exa Z h137 w_BROKER_REGISTRATION "com/example/alviso/alviso/protocol/ApiKey" := (f120.ext E137)
    have f148 : Exa Z h137 w_CREATE_TOPICS "com/example/alviso/alviso/protocol/ApiKey" := (f121.ext E137)
    have f149 : Exa Z h137 w_DESCRIBE_CONFIGS "com/example/alviso/alviso/protocol/ApiKey" := (f122.ext E137)
    have f150 : Exa Z h137 w_ELECT_LEADERS "com/example/alviso/alviso/protocol/ApiKey" := (f123.ext E137)
    have f151 : Exa Z h137 w_FETCH "com/example/alviso/alviso/protocol/ApiKey" := (f124.ext E137)
    have f152 : Exa Z h137 w_FIND_COORDINATOR "com/example/alviso/alviso/protocol/ApiKey" := (f125.ext E137)
    have f153 : Exa Z h137 w_HEARTBEAT "com/example/alviso/alviso/protocol/ApiKey" := (f126.ext E137)
    have f154 : Exa Z h137 w_INIT_PRODUCER_ID "com/example/alviso/alviso/protocol/ApiKey" := (f127.ext E137)
    have f155 : Exa Z h137 w_JOIN_GROUP "com/example/alviso/alviso/protocol/ApiKey" := (f128.ext E137)
    have f156 : Exa Z h137 w_LEAVE_GROUP "com/example/alviso/alviso/protocol/ApiKey" := (f129.ext E137)
    have f157 : Exa Z h137 w_LIST_OFFSETS "com/example/alviso/alviso/protocol/ApiKey" := (f130.ext E137)
    have f158 : Exa Z h137 w_METADATA "com/example/alviso/alviso/protocol/ApiKey" := (f131.ext E137)
    have f159 : Exa Z h137 w_OFFSET_COMMIT "com/example/alviso/alviso/protocol/ApiKey" := (f132.ext E137)
    have f160 : Exa Z h137 w_OFFSET_FETCH "com/example/alviso/alviso/protocol/ApiKey" := (f133.ext E137)
    have f161 : Exa Z h137 w_OFFSET_FOR_LEADER_EPOCH "com/example/alviso/alviso/protocol/ApiKey" := (f134.ext E137)
    have f162 : Exa Z h137 w_PRODUCE "com/example/alviso/alviso/protocol/ApiKey" := (f135.ext E137)
    have f163 : Exa Z h137 w_SYNC_GROUP "com/example/alviso/alviso/protocol/ApiKey" := (f136.ext E137)
    obtain ⟨_, _, ⟨T139, L139, k139, n139⟩, -, X139, ⟨Lc139, hQ139, l139, y139, z139⟩, st139⟩ := X137.specialBack hx (y := (⟨"com/example/alviso/alviso/protocol/RequestHeader", "<init>", "(Lcom/example/alviso/alviso/protocol/ApiKey;SILjava/lang/String;)V"⟩ : MethodName)) rfl hown (mvT hZ (hw _ (List.mem_of_getElem? (i := 38) rfl))) (mvT hZ (hw _ (List.mem_of_getElem? (i := 39) rfl))) (mvT hZ (hw _ (List.mem_of_getElem? (i := 40) rfl))) (by decide) (backOf (W := 1) (rmRq0 l Z a0 hw [] b137 r_1 (p2.toInt16.toInt32) p3 r_3 .null (.int (0 : Int32)) (.int (0 : Int32)) .null h137 n0 (Nat.le_trans Z0 K138.1) A137 F_api_b137 F_version_b137 F_correlationId_b137 F_clientId_b137 g_b137) hZ (hw _ (List.mem_of_getElem? (i := 40) rfl)) (hw _ (List.mem_of_getElem? (i := 37) rfl)) (by decide) (by decide)) (g := (mkF m 166 #[.val (.int p1), .val (.int p2), .val (.int p3), .val (.int p4), .val (.int ((p1 &&& (2147483647 : Int32)) % (21 : Int32))), .val (.int (p2.toInt16.toInt32)), .val (.ref r_1), .val (.ref r_3), .val (.ref b26), .unset, .unset, .unset] [(.ref r_3), (.int p3), (.int (p2.toInt16.toInt32)), (.ref r_1), (.ref b137), (.ref b137)])) rfl (by rw [hml]; rfl) (Steps.refl _) (a := b137) (argsL := [(.ref r_1), (.int (p2.toInt16.toInt32)), (.int p3), (.ref r_3)]) (rest := [(.ref b137)]) (lenOf pd__28Lcom_2fexample_2falviso_2falviso_2fprotocol_2fApiKey_3bSILjava_2flang_2fString_3b_29V rfl) rfl (by show 2 * 0 + _ ≤ _; exact Nat.le_of_eq rfl) (hb hby at_166) (fun _ _ => ⟨rfl, e137, (by decide : 4 + 0 ≤ _), (by decide : 30 + 0 ≤ _)⟩)
    dsimp only [Pt.U, Pt.locs, Pt.cells, Pt.slots] at y139 z139 st139 hQ139
    change Stand p l e _ s m _ below meth c T139 L139 k139 n139 at X139
    change L139 = _ ++ Lc139 at l139
    subst y139 z139
    obtain ⟨rfl, N139q, K139q, t139_0, t139_1, t139_2, t139_3⟩ := hQ139
    have N139 : Fr n0 L139 := l139 ▸ Fr.app N113 N139q
    have K139 : Keep h0 T139.heap [] := K138.trans K139q (allS (P := fun x => x ∈ [] ∨ h0.size ≤ x) (Or.inr sz_b137) all0)
    have f164 : Exa Z T139.heap r_1 "com/example/alviso/alviso/protocol/ApiKey" := (f141.keep K139q)
    have f165 : Fld Z T139.heap r_1 "com/example/alviso/alviso/protocol/ApiKey" "firstFlexibleVersion" "S" (.int (own_ff ((p1 &&& (2147483647 : Int32)) % (21 : Int32)))) := (((((((((((((((((((((((((t1_1.keep K3q nin0).ext E26).other W29 (Or.inl ne_r_1_b26)).other W33 (Or.inl ne_r_1_b26)).other W37 (Or.inl ne_r_1_b26)).other W41 (Or.inl ne_r_1_b26)).other W45 (Or.inl ne_r_1_b26)).other W49 (Or.inl ne_r_1_b26)).other W54 (Or.inl ne_r_1_b26)).other W58 (Or.inl ne_r_1_b26)).other W62 (Or.inl ne_r_1_b26)).other W66 (Or.inl ne_r_1_b26)).other W70 (Or.inl ne_r_1_b26)).other W74 (Or.inl ne_r_1_b26)).other W78 (Or.inl ne_r_1_b26)).other W82 (Or.inl ne_r_1_b26)).other W86 (Or.inl ne_r_1_b26)).other W91 (Or.inl ne_r_1_b26)).other W95 (Or.inl ne_r_1_b26)).other W99 (Or.inl ne_r_1_b26)).other W103 (Or.inl ne_r_1_b26)).other W107 (Or.inl ne_r_1_b26)).other W111 (Or.inl ne_r_1_b26)).ext E137).keep K139q (ninS ne_r_1_b137 nin0))
    have f166 : Sta Z T139.heap "com/example/alviso/alviso/protocol/ApiKey" "API_VERSIONS" "Lcom/example/alviso/alviso/protocol/ApiKey;" (.ref w_API_VERSIONS) := (own_staKeep ((((((((((((((((((((((((own_staKeep S_API_VERSIONS K3q own_ns0).ext E26).wr W29).wr W33).wr W37).wr W41).wr W45).wr W49).wr W54).wr W58).wr W62).wr W66).wr W70).wr W74).wr W78).wr W82).wr W86).wr W91).wr W95).wr W99).wr W103).wr W107).wr W111).ext E137) K139q (own_nsE A137 own_ns0))
    have f168 : Arv Z T139.heap b26 k26 .int (21 : Int32) [(.int (9 : Int32)), (.int (12 : Int32)), (.int (6 : Int32)), (.int (9 : Int32)), (.int (8 : Int32)), (.int (6 : Int32)), (.int (3 : Int32)), (.int (6 : Int32)), (.int (4 : Int32)), (.int (4 : Int32)), (.int (4 : Int32)), (.int (3 : Int32)), (.int (5 : Int32)), (.int (2 : Int32)), (.int (4 : Int32)), (.int (4 : Int32)), (.int (2 : Int32)), (.int (0 : Int32)), (.int (0 : Int32)), (.int (0 : Int32)), (.int (0 : Int32))] (.int (0 : Int32)) := (f140.keep K139q (ninS ne_b26_b137 nin0))
    have f169 : Exa Z T139.heap r_3 "java/lang/String" := (f142.keep K139q)
    have f170 : Exa Z T139.heap w_ALLOCATE_PRODUCER_IDS "com/example/alviso/alviso/protocol/ApiKey" := (f143.keep K139q)
    have f171 : Exa Z T139.heap w_ALTER_PARTITION "com/example/alviso/alviso/protocol/ApiKey" := (f144.keep K139q)
    have f172 : Exa Z T139.heap w_API_VERSIONS "com/example/alviso/alviso/protocol/ApiKey" := (f145.keep K139q)
    have f173 : Exa Z T139.heap w_BROKER_HEARTBEAT "com/example/alviso/alviso/protocol/ApiKey" := (f146.keep K139q)
    have f174 : Exa Z T139.heap w_BROKER_REGISTRATION "com/example/alviso/alviso/protocol/ApiKey" := (f147.keep K139q)
    have f175 : Exa Z T139.heap w_CREATE_TOPICS "com/example/alviso/alviso/protocol/ApiKey" := (f148.keep K139q)
    have f176 : Exa Z T139.heap w_DESCRIBE_CONFIGS "com/example/alviso/alviso/protocol/ApiKey" := (f149.keep K139q)
    have f177 : Exa Z T139.heap w_ELECT_LEADERS "com/example/alviso/alviso/protocol/ApiKey" := (f150.keep K139q)
    have f178 : Exa Z T139.heap w_FETCH "com/example/alviso/alviso/protocol/ApiKey" := (f151.keep K139q)
    have f179 : Exa Z T139.heap w_FIND_COORDINATOR "com/example/alviso/alviso/protocol/ApiKey" := (f152.keep K139q)
    have f180 : Exa Z T139.heap w_HEARTBEAT "com/example/alviso/alviso/protocol/ApiKey" := (f153.keep K139q)
    have f181 : Exa Z T139.heap w_INIT_PRODUCER_ID "com/example/alviso/alviso/protocol/ApiKey" := (f154.keep K139q)
    have f182 : Exa Z T139.heap w_JOIN_GROUP "com/example/alviso/alviso/protocol/ApiKey" := (f155.keep K139q)
    have f183 : Exa Z T139.heap w_LEAVE_GROUP "com/example/alviso/alviso/protocol/ApiKey" := (f156.keep K139q)
    have f184 : Exa Z T139.heap w_LIST_OFFSETS "com/example/alviso/alviso/protocol/ApiKey" := (f157.keep K139q)
    have f185 : Exa Z T139.heap w_METADATA "com/example/alviso/alviso/protocol/ApiKey" := (f158.keep K139q)
    have f186 : Exa Z T139.heap w_OFFSET_COMMIT "com/example/alviso/alviso/protocol/ApiKey" := (f159.keep K139q)
    have f187 : Exa Z T139.heap w_OFFSET_FETCH "com/example/alviso/alviso/protocol/ApiKey" := (f160.keep K139q)
    have f188 : Exa Z T139.heap w_OFFSET_FOR_LEADER_EPOCH "com/example/alviso/alviso/protocol/ApiKey" := (f161.keep K139q)
    have f189 : Exa Z T139.heap w_PRODUCE "com/example/alviso/alviso/protocol/ApiKey" := (f162.keep K139q)
    have f190 : Exa Z T139.heap w_SYNC_GROUP "com/example/alviso/alviso/protocol/ApiKey" := (f163.keep K139q)
    obtain ⟨_, _, ⟨T167, L167, k167, n167⟩, -, X167, ⟨Lc167, hQ167, l167, y167, z167⟩, st167⟩ := Jvm.LawKit.callS X139 hx (y := (⟨"com/example/alviso/alviso/protocol/ResponseHeader", "answering", "(Lcom/example/alviso/alviso/protocol/RequestHeader;)Lcom/example/alviso/alviso/protocol/ResponseHeader;"⟩ : MethodName)) hown (mvT hZ (hw _ (List.mem_of_getElem? (i := 55) rfl))) (mvT hZ (hw _ (List.mem_of_getElem? (i := 56) rfl))) (mvT hZ (hw _ (List.mem_of_getElem? (i := 57) rfl))) (mvT hZ (hw _ (List.mem_of_getElem? (i := 58) rfl))) (by decide) (backOf (W := 0) (rm9 l Z a0 hw [] b137 r_1 (nar .short (p2.toInt16.toInt32)) p3 (own_ff ((p1 &&& (2147483647 : Int32)) % (21 : Int32))) w_API_VERSIONS T139.heap n0 (Nat.le_trans Z0 K139.1) t139_0 t139_1 t139_2 t139_3 f164 f165 f166) hZ (hw _ (List.mem_of_getElem? (i := 58) rfl)) (hw _ (List.mem_of_getElem? (i := 57) rfl)) (by decide) (by decide)) (g := (mkF m 173 #[.val (.int p1), .val (.int p2), .val (.int p3), .val (.int p4), .val (.int ((p1 &&& (2147483647 : Int32)) % (21 : Int32))), .val (.int (p2.toInt16.toInt32)), .val (.ref r_1), .val (.ref r_3), .val (.ref b26), .val (.ref b137), .unset, .unset] [(.ref b137)])) rfl (by rw [hml]; rfl) (argsL := [(.ref b137)]) (rest := []) (lenOf pd__28Lcom_2fexample_2falviso_2falviso_2fprotocol_2fRequestHeader_3b_29Lcom_2fexample_2falviso_2falviso_2fprotocol_2fResponseHeader_3b rfl) rfl (by show 2 * 0 + _ ≤ _; exact Nat.le_of_eq rfl) (hb hby at_173) (fun _ _ => ⟨rfl, rfl, (by decide : 4 + 1 ≤ _), (by decide : 30 + 2 ≤ _)⟩)
    dsimp only [Pt.U, Pt.locs, Pt.cells, Pt.slots] at y167 z167 st167 hQ167
    change Stand p l e _ s m _ below meth c T167 L167 k167 n167 at X167
    change L167 = _ ++ Lc167 at l167
    subst y167 z167
    obtain ⟨r_167, rfl, N167q, K167q, t167_0, t167_1, t167_2, t167_3⟩ := hQ167
    have N167 : Fr n0 L167 := l167 ▸ Fr.app N139 N167q
    have K167 : Keep h0 T167.heap [] := K139.trans K167q all0
    have ne_b137_r_167 : b137 ≠ r_167 := Nat.ne_of_lt (Nat.lt_of_lt_of_le t139_0.lt t167_0)
    have ne_b26_r_167 : b26 ≠ r_167 := Nat.ne_of_lt (Nat.lt_of_lt_of_le f168.lt t167_0)
    have ne_r_1_r_167 : r_1 ≠ r_167 := Nat.ne_of_lt (Nat.lt_of_lt_of_le f164.lt t167_0)
    have ne_r_3_r_167 : r_3 ≠ r_167 := Nat.ne_of_lt (Nat.lt_of_lt_of_le f169.lt t167_0)
    have ne_w_ALLOCATE_PRODUCER_IDS_r_167 : w_ALLOCATE_PRODUCER_IDS ≠ r_167 := Nat.ne_of_lt (Nat.lt_of_lt_of_le f170.lt t167_0)
    have ne_w_ALTER_PARTITION_r_167 : w_ALTER_PARTITION ≠ r_167 := Nat.ne_of_lt (Nat.lt_of_lt_of_le f171.lt t167_0)
    have ne_w_API_VERSIONS_r_167 : w_API_VERSIONS ≠ r_167 := Nat.ne_of_lt (Nat.lt_of_lt_of_le f172.lt t167_0)
    have ne_w_BROKER_HEARTBEAT_r_167 : w_BROKER_HEARTBEAT ≠ r_167 := Nat.ne_of_lt (Nat.lt_of_lt_of_le f173.lt t167_0)
    have ne_w_BROKER_REGISTRATION_r_167 : w_BROKER_REGISTRATION ≠ r_167 := Nat.ne_of_lt (Nat.lt_of_lt_of_le f174.lt t167_0)
    have ne_w_CREATE_TOPICS_r_167 : w_CREATE_TOPICS ≠ r_167 := Nat.ne_of_lt (Nat.lt_of_lt_of_le f175.lt t167_0)
    have ne_w_DESCRIBE_CONFIGS_r_167 : w_DESCRIBE_CONFIGS ≠ r_167 := Nat.ne_of_lt (Nat.lt_of_lt_of_le f176.lt t167_0)
    have ne_w_ELECT_LEADERS_r_167 : w_ELECT_LEADERS ≠ r_167 := Nat.ne_of_lt (Nat.lt_of_lt_of_le f177.lt t167_0)
    have ne_w_FETCH_r_167 : w_FETCH ≠ r_167 := Nat.ne_of_lt (Nat.lt_of_lt_of_le f178.lt t167_0)
    have ne_w_FIND_COORDINATOR_r_167 : w_FIND_COORDINATOR ≠ r_167 := Nat.ne_of_lt (Nat.lt_of_lt_of_le f179.lt t167_0)
    have ne_w_HEARTBEAT_r_167 : w_HEARTBEAT ≠ r_167 := Nat.ne_of_lt (Nat.lt_of_lt_of_le f180.lt t167_0)
    have ne_w_INIT_PRODUCER_ID_r_167 : w_INIT_PRODUCER_ID ≠ r_167 := Nat.ne_of_lt (Nat.lt_of_lt_of_le f181.lt t167_0)
    have ne_w_JOIN_GROUP_r_167 : w_JOIN_GROUP ≠ r_167 := Nat.ne_of_lt (Nat.lt_of_lt_of_le f182.lt t167_0)
    have ne_w_LEAVE_GROUP_r_167 : w_LEAVE_GROUP ≠ r_167 := Nat.ne_of_lt (Nat.lt_of_lt_of_le f183.lt t167_0)
    have ne_w_LIST_OFFSETS_r_167 : w_LIST_OFFSETS ≠ r_167 := Nat.ne_of_lt (Nat.lt_of_lt_of_le f184.lt t167_0)
    have ne_w_METADATA_r_167 : w_METADATA ≠ r_167 := Nat.ne_of_lt (Nat.lt_of_lt_of_le f185.lt t167_0)
    have ne_w_OFFSET_COMMIT_r_167 : w_OFFSET_COMMIT ≠ r_167 := Nat.ne_of_lt (Nat.lt_of_lt_of_le f186.lt t167_0)
    have ne_w_OFFSET_FETCH_r_167 : w_OFFSET_FETCH ≠ r_167 := Nat.ne_of_lt (Nat.lt_of_lt_of_le f187.lt t167_0)
    have ne_w_OFFSET_FOR_LEADER_EPOCH_r_167 : w_OFFSET_FOR_LEADER_EPOCH ≠ r_167 := Nat.ne_of_lt (Nat.lt_of_lt_of_le f188.lt t167_0)
    have ne_w_PRODUCE_r_167 : w_PRODUCE ≠ r_167 := Nat.ne_of_lt (Nat.lt_of_lt_of_le f189.lt t167_0)
    have ne_w_SYNC_GROUP_r_167 : w_SYNC_GROUP ≠ r_167 := Nat.ne_of_lt (Nat.lt_of_lt_of_le f190.lt t167_0)
    have sz_r_167 : h0.size ≤ r_167 := Nat.le_trans K139.1 t167_0
    have pre191 : ∀ t, Steps p.tables e below (T167.setTop (mkF m 182 #[.val (.int p1), .val (.int p2), .val (.int p3), .val (.int p4), .val (.int ((p1 &&& (2147483647 : Int32)) % (21 : Int32))), .val (.int (p2.toInt16.toInt32)), .val (.ref r_1), .val (.ref r_3), .val (.ref b26), .val (.ref b137), .val (.ref r_167), .unset] [(.int (11 : Int32)), (.int ((p1 &&& (2147483647 : Int32)) % (21 : Int32)))])) t → Steps p.tables e below (s₁.setTop (entryFrame m #[(.int p1), (.int p2), (.int p3), (.int p4)] maxLocals)) t := fun t kt => by
      refine pre89 t ?_
      show Steps p.tables e below (T86.setTop (mkF m 127 #[.val (.int p1), .val (.int p2), .val (.int p3), .val (.int p4), .val (.int ((p1 &&& (2147483647 : Int32)) % (21 : Int32))), .val (.int (p2.toInt16.toInt32)), .val (.ref r_1), .val (.ref r_3), .unset, .unset, .unset, .unset] [(.int (4 : Int32)), (.int (15 : Int32)), (.ref b26), (.ref b26)])) _
      refine st91 _ ?_
      show Steps p.tables e below (T91.setTop (mkF m 128 #[.val (.int p1), .val (.int p2), .val (.int p3), .val (.int p4), .val (.int ((p1 &&& (2147483647 : Int32)) % (21 : Int32))), .val (.int (p2.toInt16.toInt32)), .val (.ref r_1), .val (.ref r_3), .unset, .unset, .unset, .unset] [(.ref b26)])) _
      refine XS.dup X91.here hx rfl (hb hby at_128) rfl rfl ?_
      show Steps p.tables e below (T91.setTop (mkF m 129 #[.val (.int p1), .val (.int p2), .val (.int p3), .val (.int p4), .val (.int ((p1 &&& (2147483647 : Int32)) % (21 : Int32))), .val (.int (p2.toInt16.toInt32)), .val (.ref r_1), .val (.ref r_3), .unset, .unset, .unset, .unset] [(.ref b26), (.ref b26)])) _
      refine XS.bipush X91.here hx rfl (hb hby at_129) ?_
      show Steps p.tables e below (T91.setTop (mkF m 131 #[.val (.int p1), .val (.int p2), .val (.int p3), .val (.int p4), .val (.int ((p1 &&& (2147483647 : Int32)) % (21 : Int32))), .val (.int (p2.toInt16.toInt32)), .val (.ref r_1), .val (.ref r_3), .unset, .unset, .unset, .unset] [(.int (16 : Int32)), (.ref b26), (.ref b26)])) _
      refine XS.iconst X91.here hx rfl (hb hby at_131) ?_
      show Steps p.tables e below (T91.setTop (mkF m 132 #[.val (.int p1), .val (.int p2), .val (.int p3), .val (.int p4), .val (.int ((p1 &&& (2147483647 : Int32)) % (21 : Int32))), .val (.int (p2.toInt16.toInt32)), .val (.ref r_1), .val (.ref r_3), .unset, .unset, .unset, .unset] [(.int (2 : Int32)), (.int (16 : Int32)), (.ref b26), (.ref b26)])) _
      refine st95 _ ?_
      show Steps p.tables e below (T95.setTop (mkF m 133 #[.val (.int p1), .val (.int p2), .val (.int p3), .val (.int p4), .val (.int ((p1 &&& (2147483647 : Int32)) % (21 : Int32))), .val (.int (p2.toInt16.toInt32)), .val (.ref r_1), .val (.ref r_3), .unset, .unset, .unset, .unset] [(.ref b26)])) _
      refine XS.dup X95.here hx rfl (hb hby at_133) rfl rfl ?_
      show Steps p.tables e below (T95.setTop (mkF m 134 #[.val (.int p1), .val (.int p2), .val (.int p3), .val (.int p4), .val (.int ((p1 &&& (2147483647 : Int32)) % (21 : Int32))), .val (.int (p2.toInt16.toInt32)), .val (.ref r_1), .val (.ref r_3), .unset, .unset, .unset, .unset] [(.ref b26), (.ref b26)])) _
      refine XS.bipush X95.here hx rfl (hb hby at_134) ?_
      show Steps p.tables e below (T95.setTop (mkF m 136 #[.val (.int p1), .val (.int p2), .val (.int p3), .val (.int p4), .val (.int ((p1 &&& (2147483647 : Int32)) % (21 : Int32))), .val (.int (p2.toInt16.toInt32)), .val (.ref r_1), .val (.ref r_3), .unset, .unset, .unset, .unset] [(.int (17 : Int32)), (.ref b26), (.ref b26)])) _
      refine XS.iconst X95.here hx rfl (hb hby at_136) ?_
      show Steps p.tables e below (T95.setTop (mkF m 137 #[.val (.int p1), .val (.int p2), .val (.int p3), .val (.int p4), .val (.int ((p1 &&& (2147483647 : Int32)) % (21 : Int32))), .val (.int (p2.toInt16.toInt32)), .val (.ref r_1), .val (.ref r_3), .unset, .unset, .unset, .unset] [(.int (0 : Int32)), (.int (17 : Int32)), (.ref b26), (.ref b26)])) _
      refine st99 _ ?_
      show Steps p.tables e below (T99.setTop (mkF m 138 #[.val (.int p1), .val (.int p2), .val (.int p3), .val (.int p4), .val (.int ((p1 &&& (2147483647 : Int32)) % (21 : Int32))), .val (.int (p2.toInt16.toInt32)), .val (.ref r_1), .val (.ref r_3), .unset, .unset, .unset, .unset] [(.ref b26)])) _
      refine XS.dup X99.here hx rfl (hb hby at_138) rfl rfl ?_
      show Steps p.tables e below (T99.setTop (mkF m 139 #[.val (.int p1), .val (.int p2), .val (.int p3), .val (.int p4), .val (.int ((p1 &&& (2147483647 : Int32)) % (21 : Int32))), .val (.int (p2.toInt16.toInt32)), .val (.ref r_1), .val (.ref r_3), .unset, .unset, .unset, .unset] [(.ref b26), (.ref b26)])) _
      refine XS.bipush X99.here hx rfl (hb hby at_139) ?_
      show Steps p.tables e below (T99.setTop (mkF m 141 #[.val (.int p1), .val (.int p2), .val (.int p3), .val (.int p4), .val (.int ((p1 &&& (2147483647 : Int32)) % (21 : Int32))), .val (.int (p2.toInt16.toInt32)), .val (.ref r_1), .val (.ref r_3), .unset, .unset, .unset, .unset] [(.int (18 : Int32)), (.ref b26), (.ref b26)])) _
      refine XS.iconst X99.here hx rfl (hb hby at_141) ?_
      show Steps p.tables e below (T99.setTop (mkF m 142 #[.val (.int p1), .val (.int p2), .val (.int p3), .val (.int p4), .val (.int ((p1 &&& (2147483647 : Int32)) % (21 : Int32))), .val (.int (p2.toInt16.toInt32)), .val (.ref r_1), .val (.ref r_3), .unset, .unset, .unset, .unset] [(.int (0 : Int32)), (.int (18 : Int32)), (.ref b26), (.ref b26)])) _
      refine st103 _ ?_
      show Steps p.tables e below (T103.setTop (mkF m 143 #[.val (.int p1), .val (.int p2), .val (.int p3), .val (.int p4), .val (.int ((p1 &&& (2147483647 : Int32)) % (21 : Int32))), .val (.int (p2.toInt16.toInt32)), .val (.ref r_1), .val (.ref r_3), .unset, .unset, .unset, .unset] [(.ref b26)])) _
      refine XS.dup X103.here hx rfl (hb hby at_143) rfl rfl ?_
      show Steps p.tables e below (T103.setTop (mkF m 144 #[.val (.int p1), .val (.int p2), .val (.int p3), .val (.int p4), .val (.int ((p1 &&& (2147483647 : Int32)) % (21 : Int32))), .val (.int (p2.toInt16.toInt32)), .val (.ref r_1), .val (.ref r_3), .unset, .unset, .unset, .unset] [(.ref b26), (.ref b26)])) _
      refine XS.bipush X103.here hx rfl (hb hby at_144) ?_
      show Steps p.tables e below (T103.setTop (mkF m 146 #[.val (.int p1), .val (.int p2), .val (.int p3), .val (.int p4), .val (.int ((p1 &&& (2147483647 : Int32)) % (21 : Int32))), .val (.int (p2.toInt16.toInt32)), .val (.ref r_1), .val (.ref r_3), .unset, .unset, .unset, .unset] [(.int (19 : Int32)), (.ref b26), (.ref b26)])) _
      refine XS.iconst X103.here hx rfl (hb hby at_146) ?_
      show Steps p.tables e below (T103.setTop (mkF m 147 #[.val (.int p1), .val (.int p2), .val (.int p3), .val (.int p4), .val (.int ((p1 &&& (2147483647 : Int32)) % (21 : Int32))), .val (.int (p2.toInt16.toInt32)), .val (.ref r_1), .val (.ref r_3), .unset, .unset, .unset, .unset] [(.int (0 : Int32)), (.int (19 : Int32)), (.ref b26), (.ref b26)])) _
      refine st107 _ ?_
      show Steps p.tables e below (T107.setTop (mkF m 148 #[.val (.int p1), .val (.int p2), .val (.int p3), .val (.int p4), .val (.int ((p1 &&& (2147483647 : Int32)) % (21 : Int32))), .val (.int (p2.toInt16.toInt32)), .val (.ref r_1), .val (.ref r_3), .unset, .unset, .unset, .unset] [(.ref b26)])) _
      refine XS.dup X107.here hx rfl (hb hby at_148) rfl rfl ?_
      show Steps p.tables e below (T107.setTop (mkF m 149 #[.val (.int p1), .val (.int p2), .val (.int p3), .val (.int p4), .val (.int ((p1 &&& (2147483647 : Int32)) % (21 : Int32))), .val (.int (p2.toInt16.toInt32)), .val (.ref r_1), .val (.ref r_3), .unset, .unset, .unset, .unset] [(.ref b26), (.ref b26)])) _
      refine XS.bipush X107.here hx rfl (hb hby at_149) ?_
      show Steps p.tables e below (T107.setTop (mkF m 151 #[.val (.int p1), .val (.int p2), .val (.int p3), .val (.int p4), .val (.int ((p1 &&& (2147483647 : Int32)) % (21 : Int32))), .val (.int (p2.toInt16.toInt32)), .val (.ref r_1), .val (.ref r_3), .unset, .unset, .unset, .unset] [(.int (20 : Int32)), (.ref b26), (.ref b26)])) _
      refine XS.iconst X107.here hx rfl (hb hby at_151) ?_
      show Steps p.tables e below (T107.setTop (mkF m 152 #[.val (.int p1), .val (.int p2), .val (.int p3), .val (.int p4), .val (.int ((p1 &&& (2147483647 : Int32)) % (21 : Int32))), .val (.int (p2.toInt16.toInt32)), .val (.ref r_1), .val (.ref r_3), .unset, .unset, .unset, .unset] [(.int (0 : Int32)), (.int (20 : Int32)), (.ref b26), (.ref b26)])) _
      refine st111 _ ?_
      show Steps p.tables e below (T111.setTop (mkF m 153 #[.val (.int p1), .val (.int p2), .val (.int p3), .val (.int p4), .val (.int ((p1 &&& (2147483647 : Int32)) % (21 : Int32))), .val (.int (p2.toInt16.toInt32)), .val (.ref r_1), .val (.ref r_3), .unset, .unset, .unset, .unset] [(.ref b26)])) _
      refine XS.astore X111.here hx rfl (hb hby at_153) rfl rfl (l' := #[.val (.int p1), .val (.int p2), .val (.int p3), .val (.int p4), .val (.int ((p1 &&& (2147483647 : Int32)) % (21 : Int32))), .val (.int (p2.toInt16.toInt32)), .val (.ref r_1), .val (.ref r_3), .val (.ref b26), .unset, .unset, .unset]) rfl ?_
      show Steps p.tables e below (T111.setTop (mkF m 155 #[.val (.int p1), .val (.int p2), .val (.int p3), .val (.int p4), .val (.int ((p1 &&& (2147483647 : Int32)) % (21 : Int32))), .val (.int (p2.toInt16.toInt32)), .val (.ref r_1), .val (.ref r_3), .val (.ref b26), .unset, .unset, .unset] [])) _
      refine st137 _ ?_
      show Steps p.tables e below (T137.setTop (mkF m 158 #[.val (.int p1), .val (.int p2), .val (.int p3), .val (.int p4), .val (.int ((p1 &&& (2147483647 : Int32)) % (21 : Int32))), .val (.int (p2.toInt16.toInt32)), .val (.ref r_1), .val (.ref r_3), .val (.ref b26), .unset, .unset, .unset] [(.ref b137)])) _
      refine XS.dup X137.here hx rfl (hb hby at_158) rfl rfl ?_
      show Steps p.tables e below (T137.setTop (mkF m 159 #[.val (.int p1), .val (.int p2), .val (.int p3), .val (.int p4), .val (.int ((p1 &&& (2147483647 : Int32)) % (21 : Int32))), .val (.int (p2.toInt16.toInt32)), .val (.ref r_1), .val (.ref r_3), .val (.ref b26), .unset, .unset, .unset] [(.ref b137), (.ref b137)])) _
      refine XS.aload X137.here hx rfl (hb hby at_159) rfl rfl ?_
      show Steps p.tables e below (T137.setTop (mkF m 161 #[.val (.int p1), .val (.int p2), .val (.int p3), .val (.int p4), .val (.int ((p1 &&& (2147483647 : Int32)) % (21 : Int32))), .val (.int (p2.toInt16.toInt32)), .val (.ref r_1), .val (.ref r_3), .val (.ref b26), .unset, .unset, .unset] [(.ref r_1), (.ref b137), (.ref b137)])) _
      refine XS.iload X137.here hx rfl (hb hby at_161) rfl ?_
      show Steps p.tables e below (T137.setTop (mkF m 163 #[.val (.int p1), .val (.int p2), .val (.int p3), .val (.int p4), .val (.int ((p1 &&& (2147483647 : Int32)) % (21 : Int32))), .val (.int (p2.toInt16.toInt32)), .val (.ref r_1), .val (.ref r_3), .val (.ref b26), .unset, .unset, .unset] [(.int (p2.toInt16.toInt32)), (.ref r_1), (.ref b137), (.ref b137)])) _
      refine XS.iloadN X137.here hx rfl (hb hby at_163) rfl ?_
      show Steps p.tables e below (T137.setTop (mkF m 164 #[.val (.int p1), .val (.int p2), .val (.int p3), .val (.int p4), .val (.int ((p1 &&& (2147483647 : Int32)) % (21 : Int32))), .val (.int (p2.toInt16.toInt32)), .val (.ref r_1), .val (.ref r_3), .val (.ref b26), .unset, .unset, .unset] [(.int p3), (.int (p2.toInt16.toInt32)), (.ref r_1), (.ref b137), (.ref b137)])) _
      refine XS.aload X137.here hx rfl (hb hby at_164) rfl rfl ?_
      show Steps p.tables e below (T137.setTop (mkF m 166 #[.val (.int p1), .val (.int p2), .val (.int p3), .val (.int p4), .val (.int ((p1 &&& (2147483647 : Int32)) % (21 : Int32))), .val (.int (p2.toInt16.toInt32)), .val (.ref r_1), .val (.ref r_3), .val (.ref b26), .unset, .unset, .unset] [(.ref r_3), (.int p3), (.int (p2.toInt16.toInt32)), (.ref r_1), (.ref b137), (.ref b137)])) _
      refine st139.trans ?_
      show Steps p.tables e below (T139.setTop (mkF m 169 #[.val (.int p1), .val (.int p2), .val (.int p3), .val (.int p4), .val (.int ((p1 &&& (2147483647 : Int32)) % (21 : Int32))), .val (.int (p2.toInt16.toInt32)), .val (.ref r_1), .val (.ref r_3), .val (.ref b26), .unset, .unset, .unset] [(.ref b137)])) _
      refine XS.astore X139.here hx rfl (hb hby at_169) rfl rfl (l' := #[.val (.int p1), .val (.int p2), .val (.int p3), .val (.int p4), .val (.int ((p1 &&& (2147483647 : Int32)) % (21 : Int32))), .val (.int (p2.toInt16.toInt32)), .val (.ref r_1), .val (.ref r_3), .val (.ref b26), .val (.ref b137), .unset, .unset]) rfl ?_
      show Steps p.tables e below (T139.setTop (mkF m 171 #[.val (.int p1), .val (.int p2), .val (.int p3), .val (.int p4), .val (.int ((p1 &&& (2147483647 : Int32)) % (21 : Int32))), .val (.int (p2.toInt16.toInt32)), .val (.ref r_1), .val (.ref r_3), .val (.ref b26), .val (.ref b137), .unset, .unset] [])) _
      refine XS.aload X139.here hx rfl (hb hby at_171) rfl rfl ?_
      show Steps p.tables e below (T139.setTop (mkF m 173 #[.val (.int p1), .val (.int p2), .val (.int p3), .val (.int p4), .val (.int ((p1 &&& (2147483647 : Int32)) % (21 : Int32))), .val (.int (p2.toInt16.toInt32)), .val (.ref r_1), .val (.ref r_3), .val (.ref b26), .val (.ref b137), .unset, .unset] [(.ref b137)])) _
      refine st167 _ ?_
      show Steps p.tables e below (T167.setTop (mkF m 176 #[.val (.int p1), .val (.int p2), .val (.int p3), .val (.int p4), .val (.int ((p1 &&& (2147483647 : Int32)) % (21 : Int32))), .val (.int (p2.toInt16.toInt32)), .val (.ref r_1), .val (.ref r_3), .val (.ref b26), .val (.ref b137), .unset, .unset] [(.ref r_167)])) _
      refine XS.astore X167.here hx rfl (hb hby at_176) rfl rfl (l' := #[.val (.int p1), .val (.int p2), .val (.int p3), .val (.int p4), .val (.int ((p1 &&& (2147483647 : Int32)) % (21 : Int32))), .val (.int (p2.toInt16.toInt32)), .val (.ref r_1), .val (.ref r_3), .val (.ref b26), .val (.ref b137), .val (.ref r_167), .unset]) rfl ?_
      show Steps p.tables e below (T167.setTop (mkF m 178 #[.val (.int p1), .val (.int p2), .val (.int p3), .val (.int p4), .val (.int ((p1 &&& (2147483647 : Int32)) % (21 : Int32))), .val (.int (p2.toInt16.toInt32)), .val (.ref r_1), .val (.ref r_3), .val (.ref b26), .val (.ref b137), .val (.ref r_167), .unset] [])) _
      refine XS.iload X167.here hx rfl (hb hby at_178) rfl ?_
      show Steps p.tables e below (T167.setTop (mkF m 180 #[.val (.int p1), .val (.int p2), .val (.int p3), .val (.int p4), .val (.int ((p1 &&& (2147483647 : Int32)) % (21 : Int32))), .val (.int (p2.toInt16.toInt32)), .val (.ref r_1), .val (.ref r_3), .val (.ref b26), .val (.ref b137), .val (.ref r_167), .unset] [(.int ((p1 &&& (2147483647 : Int32)) % (21 : Int32)))])) _
      refine XS.bipush X167.here hx rfl (hb hby at_180) ?_
      exact kt
    by_cases h11 : ((p1 &&& (2147483647 : Int32)) % (21 : Int32)) = (11 : Int32)
    · obtain ⟨cq192, kq192, q192a, q192b, q192c⟩ := isOf hZ rfl t167_1
      obtain ⟨_, _, ⟨T192, L192, k192, n192⟩, -, X192, ⟨Lc192, hQ192, l192, y192, z192⟩, st192⟩ := X167.virtualBack hx (y := (⟨"com/example/alviso/alviso/protocol/ResponseHeader", "correlationId", "()I"⟩ : MethodName)) (z := (⟨"com/example/alviso/alviso/protocol/ResponseHeader", "correlationId", "()I"⟩ : MethodName)) hown (mvT hZ (hw _ (List.mem_of_getElem? (i := 96) rfl))) (mvT hZ (hw _ (List.mem_of_getElem? (i := 97) rfl))) (notFace_of_selects (args := #[]) (mvT hZ (hw _ (List.mem_of_getElem? (i := 99) rfl)))) (mvT hZ (hw _ (List.mem_of_getElem? (i := 99) rfl))) (mvT hZ (hw _ (List.mem_of_getElem? (i := 98) rfl))) (by decide) (backOf (W := 0) (rm16 l Z a0 hw [] r_167 p3 T167.heap n0 (Nat.le_trans Z0 K167.1) t167_2) hZ (hw _ (List.mem_of_getElem? (i := 100) rfl)) (hw _ (List.mem_of_getElem? (i := 57) rfl)) (by decide) (by decide)) q192a q192c (g := (mkF m 209 #[.val (.int p1), .val (.int p2), .val (.int p3), .val (.int p4), .val (.int ((p1 &&& (2147483647 : Int32)) % (21 : Int32))), .val (.int (p2.toInt16.toInt32)), .val (.ref r_1), .val (.ref r_3), .val (.ref b26), .val (.ref b137), .val (.ref r_167), .val (.int (0 : Int32))] [(.ref r_167)])) rfl (by rw [hml]; rfl) (Steps.refl _) (argsL := []) (rest := []) (lenOf pd__28_29I rfl) rfl (by show 2 * 0 + _ ≤ _; exact Nat.le_of_eq rfl) (hb hby at_209) (fun _ _ => ⟨rfl, rfl, (by decide : 5 + 0 ≤ _), (by decide : 32 + 0 ≤ _)⟩)
      dsimp only [Pt.U, Pt.locs, Pt.cells, Pt.slots] at y192 z192 st192 hQ192
      change Stand p l e _ s m _ below meth c T192 L192 k192 n192 at X192
      change L192 = _ ++ Lc192 at l192
      subst y192 z192
      obtain ⟨rfl, N192q, e192⟩ := hQ192
      have N192 : Fr n0 L192 := l192 ▸ Fr.app N167 N192q
      obtain ⟨cq193, kq193, q193a, q193b, q193c⟩ := isOf hZ e192 t167_1
      obtain ⟨_, _, ⟨T193, L193, k193, n193⟩, -, X193, ⟨Lc193, hQ193, l193, y193, z193⟩, st193⟩ := X192.virtualBack hx (y := (⟨"com/example/alviso/alviso/protocol/ResponseHeader", "flexible", "()Z"⟩ : MethodName)) (z := (⟨"com/example/alviso/alviso/protocol/ResponseHeader", "flexible", "()Z"⟩ : MethodName)) hown (mvT hZ (hw _ (List.mem_of_getElem? (i := 101) rfl))) (mvT hZ (hw _ (List.mem_of_getElem? (i := 102) rfl))) (notFace_of_selects (args := #[]) (mvT hZ (hw _ (List.mem_of_getElem? (i := 104) rfl)))) (mvT hZ (hw _ (List.mem_of_getElem? (i := 104) rfl))) (mvT hZ (hw _ (List.mem_of_getElem? (i := 103) rfl))) (by decide) (backOf (W := 0) (rm17 l Z a0 hw [] r_167 (nar .boolean (own_flex (r_1 = w_API_VERSIONS) (nar .short (nar .short (p2.toInt16.toInt32))) (own_ff ((p1 &&& (2147483647 : Int32)) % (21 : Int32))))) T167.heap n0 (Nat.le_trans Z0 K167.1) t167_3) hZ (hw _ (List.mem_of_getElem? (i := 105) rfl)) (hw _ (List.mem_of_getElem? (i := 57) rfl)) (by decide) (by decide)) q193a q193c (g := (mkF m 218 #[.val (.int p1), .val (.int p2), .val (.int p3), .val (.int p4), .val (.int ((p1 &&& (2147483647 : Int32)) % (21 : Int32))), .val (.int (p2.toInt16.toInt32)), .val (.ref r_1), .val (.ref r_3), .val (.ref b26), .val (.ref b137), .val (.ref r_167), .val (.int (0 : Int32))] [(.ref r_167)])) rfl (by rw [hml]; rfl) (Steps.refl _) (argsL := []) (rest := []) (lenOf pd__28_29Z rfl) rfl (by show 2 * 0 + _ ≤ _; exact Nat.le_of_eq rfl) (hb hby at_218) (fun _ _ => ⟨rfl, e192, (by decide : 5 + 0 ≤ _), (by decide : 32 + 0 ≤ _)⟩)
      dsimp only [Pt.U, Pt.locs, Pt.cells, Pt.slots] at y193 z193 st193 hQ193
      change Stand p l e _ s m _ below meth c T193 L193 k193 n193 at X193
      change L193 = _ ++ Lc193 at l193
      subst y193 z193
      obtain ⟨rfl, N193q, e193⟩ := hQ193
      have N193 : Fr n0 L193 := l193 ▸ Fr.app N192 N193q
      obtain ⟨fs, hr, hrun, hended, hW, hsame⟩ := X193.leave (v := some (.int (1 : Int32))) (fun h => by rw [Bd.returns] at h; cases h)
      refine ⟨_, _, pre191 _ ?_, hrun, hended, _, _, rfl, ?_, ⟨_, rfl⟩, hW, hsame.mono (by decide) (by decide)⟩
      · show Steps p.tables e below (T167.setTop (mkF m 182 #[.val (.int p1), .val (.int p2), .val (.int p3), .val (.int p4), .val (.int ((p1 &&& (2147483647 : Int32)) % (21 : Int32))), .val (.int (p2.toInt16.toInt32)), .val (.ref r_1), .val (.ref r_3), .val (.ref b26), .val (.ref b137), .val (.ref r_167), .unset] [(.int (11 : Int32)), (.int ((p1 &&& (2147483647 : Int32)) % (21 : Int32)))])) _
        refine XS.icmpYes X167.here hx rfl (pc0 := 182) (pc' := 199) rfl (hb hby at_182) rfl (teq h11).1 (by decide) (by decide) ?_
        show Steps p.tables e below (T167.setTop (mkF m 199 #[.val (.int p1), .val (.int p2), .val (.int p3), .val (.int p4), .val (.int ((p1 &&& (2147483647 : Int32)) % (21 : Int32))), .val (.int (p2.toInt16.toInt32)), .val (.ref r_1), .val (.ref r_3), .val (.ref b26), .val (.ref b137), .val (.ref r_167), .unset] [])) _
        refine XS.iconst X167.here hx rfl (hb hby at_199) ?_
        show Steps p.tables e below (T167.setTop (mkF m 200 #[.val (.int p1), .val (.int p2), .val (.int p3), .val (.int p4), .val (.int ((p1 &&& (2147483647 : Int32)) % (21 : Int32))), .val (.int (p2.toInt16.toInt32)), .val (.ref r_1), .val (.ref r_3), .val (.ref b26), .val (.ref b137), .val (.ref r_167), .unset] [(.int (0 : Int32))])) _
        refine XS.istore X167.here hx rfl (hb hby at_200) rfl (l' := #[.val (.int p1), .val (.int p2), .val (.int p3), .val (.int p4), .val (.int ((p1 &&& (2147483647 : Int32)) % (21 : Int32))), .val (.int (p2.toInt16.toInt32)), .val (.ref r_1), .val (.ref r_3), .val (.ref b26), .val (.ref b137), .val (.ref r_167), .val (.int (0 : Int32))]) rfl ?_
        show Steps p.tables e below (T167.setTop (mkF m 202 #[.val (.int p1), .val (.int p2), .val (.int p3), .val (.int p4), .val (.int ((p1 &&& (2147483647 : Int32)) % (21 : Int32))), .val (.int (p2.toInt16.toInt32)), .val (.ref r_1), .val (.ref r_3), .val (.ref b26), .val (.ref b137), .val (.ref r_167), .val (.int (0 : Int32))] [])) _
        refine XS.aload X167.here hx rfl (hb hby at_202) rfl rfl ?_
        show Steps p.tables e below (T167.setTop (mkF m 204 #[.val (.int p1), .val (.int p2), .val (.int p3), .val (.int p4), .val (.int ((p1 &&& (2147483647 : Int32)) % (21 : Int32))), .val (.int (p2.toInt16.toInt32)), .val (.ref r_1), .val (.ref r_3), .val (.ref b26), .val (.ref b137), .val (.ref r_167), .val (.int (0 : Int32))] [(.ref r_167)])) _
        refine XS.ifnullNo X167.here hx rfl (hb hby at_204) rfl ?_
        show Steps p.tables e below (T167.setTop (mkF m 207 #[.val (.int p1), .val (.int p2), .val (.int p3), .val (.int p4), .val (.int ((p1 &&& (2147483647 : Int32)) % (21 : Int32))), .val (.int (p2.toInt16.toInt32)), .val (.ref r_1), .val (.ref r_3), .val (.ref b26), .val (.ref b137), .val (.ref r_167), .val (.int (0 : Int32))] [])) _
        refine XS.aload X167.here hx rfl (hb hby at_207) rfl rfl ?_
        show Steps p.tables e below (T167.setTop (mkF m 209 #[.val (.int p1), .val (.int p2), .val (.int p3), .val (.int p4), .val (.int ((p1 &&& (2147483647 : Int32)) % (21 : Int32))), .val (.int (p2.toInt16.toInt32)), .val (.ref r_1), .val (.ref r_3), .val (.ref b26), .val (.ref b137), .val (.ref r_167), .val (.int (0 : Int32))] [(.ref r_167)])) _
        refine st192.trans ?_
        show Steps p.tables e below (T192.setTop (mkF m 212 #[.val (.int p1), .val (.int p2), .val (.int p3), .val (.int p4), .val (.int ((p1 &&& (2147483647 : Int32)) % (21 : Int32))), .val (.int (p2.toInt16.toInt32)), .val (.ref r_1), .val (.ref r_3), .val (.ref b26), .val (.ref b137), .val (.ref r_167), .val (.int (0 : Int32))] [(.int p3)])) _
        refine XS.iloadN X192.here hx rfl (hb hby at_212) rfl ?_
        show Steps p.tables e below (T192.setTop (mkF m 213 #[.val (.int p1), .val (.int p2), .val (.int p3), .val (.int p4), .val (.int ((p1 &&& (2147483647 : Int32)) % (21 : Int32))), .val (.int (p2.toInt16.toInt32)), .val (.ref r_1), .val (.ref r_3), .val (.ref b26), .val (.ref b137), .val (.ref r_167), .val (.int (0 : Int32))] [(.int p3), (.int p3)])) _
        refine XS.icmpNo X192.here hx rfl (hb hby at_213) rfl (teq rfl).2 ?_
        show Steps p.tables e below (T192.setTop (mkF m 216 #[.val (.int p1), .val (.int p2), .val (.int p3), .val (.int p4), .val (.int ((p1 &&& (2147483647 : Int32)) % (21 : Int32))), .val (.int (p2.toInt16.toInt32)), .val (.ref r_1), .val (.ref r_3), .val (.ref b26), .val (.ref b137), .val (.ref r_167), .val (.int (0 : Int32))] [])) _
        refine XS.aload X192.here hx rfl (hb hby at_216) rfl rfl ?_
        show Steps p.tables e below (T192.setTop (mkF m 218 #[.val (.int p1), .val (.int p2), .val (.int p3), .val (.int p4), .val (.int ((p1 &&& (2147483647 : Int32)) % (21 : Int32))), .val (.int (p2.toInt16.toInt32)), .val (.ref r_1), .val (.ref r_3), .val (.ref b26), .val (.ref b137), .val (.ref r_167), .val (.int (0 : Int32))] [(.ref r_167)])) _
        refine st193.trans ?_
        show Steps p.tables e below (T193.setTop (mkF m 221 #[.val (.int p1), .val (.int p2), .val (.int p3), .val (.int p4), .val (.int ((p1 &&& (2147483647 : Int32)) % (21 : Int32))), .val (.int (p2.toInt16.toInt32)), .val (.ref r_1), .val (.ref r_3), .val (.ref b26), .val (.ref b137), .val (.ref r_167), .val (.int (0 : Int32))] [(.int (nar .boolean (nar .boolean (own_flex (r_1 = w_API_VERSIONS) (nar .short (nar .short (p2.toInt16.toInt32))) (own_ff ((p1 &&& (2147483647 : Int32)) % (21 : Int32)))))))])) _
        refine XS.iload X193.here hx rfl (hb hby at_221) rfl ?_
        show Steps p.tables e below (T193.setTop (mkF m 223 #[.val (.int p1), .val (.int p2), .val (.int p3), .val (.int p4), .val (.int ((p1 &&& (2147483647 : Int32)) % (21 : Int32))), .val (.int (p2.toInt16.toInt32)), .val (.ref r_1), .val (.ref r_3), .val (.ref b26), .val (.ref b137), .val (.ref r_167), .val (.int (0 : Int32))] [(.int (0 : Int32)), (.int (nar .boolean (nar .boolean (own_flex (r_1 = w_API_VERSIONS) (nar .short (nar .short (p2.toInt16.toInt32))) (own_ff ((p1 &&& (2147483647 : Int32)) % (21 : Int32)))))))])) _
        refine XS.icmpNo X193.here hx rfl (hb hby at_223) rfl (teq (own_fin1 (t1_2.mpr h11) : (nar .boolean (nar .boolean (own_flex (r_1 = w_API_VERSIONS) (nar .short (nar .short (p2.toInt16.toInt32))) (own_ff ((p1 &&& (2147483647 : Int32)) % (21 : Int32)))))) = (0 : Int32))).2 ?_
        show Steps p.tables e below (T193.setTop (mkF m 226 #[.val (.int p1), .val (.int p2), .val (.int p3), .val (.int p4), .val (.int ((p1 &&& (2147483647 : Int32)) % (21 : Int32))), .val (.int (p2.toInt16.toInt32)), .val (.ref r_1), .val (.ref r_3), .val (.ref b26), .val (.ref b137), .val (.ref r_167), .val (.int (0 : Int32))] [])) _
        refine XS.iconst X193.here hx rfl (hb hby at_226) ?_
        show Steps p.tables e below (T193.setTop (mkF m 227 #[.val (.int p1), .val (.int p2), .val (.int p3), .val (.int p4), .val (.int ((p1 &&& (2147483647 : Int32)) % (21 : Int32))), .val (.int (p2.toInt16.toInt32)), .val (.ref r_1), .val (.ref r_3), .val (.ref b26), .val (.ref b137), .val (.ref r_167), .val (.int (0 : Int32))] [(.int (1 : Int32))])) _
        refine XS.goto X193.here hx rfl (pc0 := 227) (pc' := 231) rfl (hb hby at_227) (by decide) (by decide) ?_
        show Steps p.tables e below (T193.setTop (mkF m 231 #[.val (.int p1), .val (.int p2), .val (.int p3), .val (.int p4), .val (.int ((p1 &&& (2147483647 : Int32)) % (21 : Int32))), .val (.int (p2.toInt16.toInt32)), .val (.ref r_1), .val (.ref r_3), .val (.ref b26), .val (.ref b137), .val (.ref r_167), .val (.int (0 : Int32))] [(.int (1 : Int32))])) _
        exact retN X193 hx (t := .boolean) Bd.returns (by simp) (hb hby at_231) hr
      · show Q_rm0 Z p1 p2 p3 p4 w_PRODUCE w_FETCH w_LIST_OFFSETS w_METADATA w_OFFSET_COMMIT w_OFFSET_FETCH w_FIND_COORDINATOR w_JOIN_GROUP w_HEARTBEAT w_LEAVE_GROUP w_SYNC_GROUP w_API_VERSIONS w_CREATE_TOPICS w_INIT_PRODUCER_ID w_OFFSET_FOR_LEADER_EPOCH w_DESCRIBE_CONFIGS w_ELECT_LEADERS w_ALTER_PARTITION w_BROKER_REGISTRATION w_BROKER_HEARTBEAT w_ALLOCATE_PRODUCER_IDS cs h0 n0 _ T193.heap _
        rw [e193]
        exact ⟨rfl, N193⟩
    · have f194 : Arv Z T167.heap b26 k26 .int (21 : Int32) [(.int (9 : Int32)), (.int (12 : Int32)), (.int (6 : Int32)), (.int (9 : Int32)), (.int (8 : Int32)), (.int (6 : Int32)), (.int (3 : Int32)), (.int (6 : Int32)), (.int (4 : Int32)), (.int (4 : Int32)), (.int (4 : Int32)), (.int (3 : Int32)), (.int (5 : Int32)), (.int (2 : Int32)), (.int (4 : Int32)), (.int (4 : Int32)), (.int (2 : Int32)), (.int (0 : Int32)), (.int (0 : Int32)), (.int (0 : Int32)), (.int (0 : Int32))] (.int (0 : Int32)) := (f168.keep K167q nin0)
      obtain ⟨c195, Ac195, qc195, Sc195, Nc195, Hc195, Gc195⟩ := id f194
      have hinc195 := inb_of Sc195 (j := ((p1 &&& (2147483647 : Int32)) % (21 : Int32))) (own_in (own_m p1))
      have pre196 : ∀ t, Steps p.tables e below (T167.setTop (mkF m 192 #[.val (.int p1), .val (.int p2), .val (.int p3), .val (.int p4), .val (.int ((p1 &&& (2147483647 : Int32)) % (21 : Int32))), .val (.int (p2.toInt16.toInt32)), .val (.ref r_1), .val (.ref r_3), .val (.ref b26), .val (.ref b137), .val (.ref r_167), .unset] [(.int (own_ff ((p1 &&& (2147483647 : Int32)) % (21 : Int32)))), (.int (p2.toInt16.toInt32))])) t → Steps p.tables e below (s₁.setTop (entryFrame m #[(.int p1), (.int p2), (.int p3), (.int p4)] maxLocals)) t := fun t kt => by
        refine pre191 t ?_
        show Steps p.tables e below (T167.setTop (mkF m 182 #[.val (.int p1), .val (.int p2), .val (.int p3), .val (.int p4), .val (.int ((p1 &&& (2147483647 : Int32)) % (21 : Int32))), .val (.int (p2.toInt16.toInt32)), .val (.ref r_1), .val (.ref r_3), .val (.ref b26), .val (.ref b137), .val (.ref r_167), .unset] [(.int (11 : Int32)), (.int ((p1 &&& (2147483647 : Int32)) % (21 : Int32)))])) _
        refine XS.icmpNo X167.here hx rfl (hb hby at_182) rfl (feq h11).1 ?_
        show Steps p.tables e below (T167.setTop (mkF m 185 #[.val (.int p1), .val (.int p2), .val (.int p3), .val (.int p4), .val (.int ((p1 &&& (2147483647 : Int32)) % (21 : Int32))), .val (.int (p2.toInt16.toInt32)), .val (.ref r_1), .val (.ref r_3), .val (.ref b26), .val (.ref b137), .val (.ref r_167), .unset] [])) _
        refine XS.iload X167.here hx rfl (hb hby at_185) rfl ?_
        show Steps p.tables e below (T167.setTop (mkF m 187 #[.val (.int p1), .val (.int p2), .val (.int p3), .val (.int p4), .val (.int ((p1 &&& (2147483647 : Int32)) % (21 : Int32))), .val (.int (p2.toInt16.toInt32)), .val (.ref r_1), .val (.ref r_3), .val (.ref b26), .val (.ref b137), .val (.ref r_167), .unset] [(.int (p2.toInt16.toInt32))])) _
        refine XS.aload X167.here hx rfl (hb hby at_187) rfl rfl ?_
        show Steps p.tables e below (T167.setTop (mkF m 189 #[.val (.int p1), .val (.int p2), .val (.int p3), .val (.int p4), .val (.int ((p1 &&& (2147483647 : Int32)) % (21 : Int32))), .val (.int (p2.toInt16.toInt32)), .val (.ref r_1), .val (.ref r_3), .val (.ref b26), .val (.ref b137), .val (.ref r_167), .unset] [(.ref b26), (.int (p2.toInt16.toInt32))])) _
        refine XS.iload X167.here hx rfl (hb hby at_189) rfl ?_
        show Steps p.tables e below (T167.setTop (mkF m 191 #[.val (.int p1), .val (.int p2), .val (.int p3), .val (.int p4), .val (.int ((p1 &&& (2147483647 : Int32)) % (21 : Int32))), .val (.int (p2.toInt16.toInt32)), .val (.ref r_1), .val (.ref r_3), .val (.ref b26), .val (.ref b137), .val (.ref r_167), .unset] [(.int ((p1 &&& (2147483647 : Int32)) % (21 : Int32))), (.ref b26), (.int (p2.toInt16.toInt32))])) _
        refine X167.iaload hx (j := ((p1 &&& (2147483647 : Int32)) % (21 : Int32))) (v := (.int (own_ff ((p1 &&& (2147483647 : Int32)) % (21 : Int32))))) Ac195.1 (State.isArrayOf_alike hZ.alike Ac195.2.1) Ac195.2.2 hinc195 (Has.at Hc195 hinc195 (own_tab (own_m p1))) (g := (mkF m 191 #[.val (.int p1), .val (.int p2), .val (.int p3), .val (.int p4), .val (.int ((p1 &&& (2147483647 : Int32)) % (21 : Int32))), .val (.int (p2.toInt16.toInt32)), .val (.ref r_1), .val (.ref r_3), .val (.ref b26), .val (.ref b137), .val (.ref r_167), .unset] [(.int ((p1 &&& (2147483647 : Int32)) % (21 : Int32))), (.ref b26), (.int (p2.toInt16.toInt32))])) rfl rfl (hb hby at_191) _ ?_
        exact kt
      by_cases hV : (p2.toInt16.toInt32) < (own_ff ((p1 &&& (2147483647 : Int32)) % (21 : Int32)))
      · obtain ⟨cq197, kq197, q197a, q197b, q197c⟩ := isOf hZ rfl t167_1
        obtain ⟨_, _, ⟨T197, L197, k197, n197⟩, -, X197, ⟨Lc197, hQ197, l197, y197, z197⟩, st197⟩ := X167.virtualBack hx (y := (⟨"com/example/alviso/alviso/protocol/ResponseHeader", "correlationId", "()I"⟩ : MethodName)) (z := (⟨"com/example/alviso/alviso/protocol/ResponseHeader", "correlationId", "()I"⟩ : MethodName)) hown (mvT hZ (hw _ (List.mem_of_getElem? (i := 96) rfl))) (mvT hZ (hw _ (List.mem_of_getElem? (i := 97) rfl))) (notFace_of_selects (args := #[]) (mvT hZ (hw _ (List.mem_of_getElem? (i := 99) rfl)))) (mvT hZ (hw _ (List.mem_of_getElem? (i := 99) rfl))) (mvT hZ (hw _ (List.mem_of_getElem? (i := 98) rfl))) (by decide) (backOf (W := 0) (rm16 l Z a0 hw [] r_167 p3 T167.heap n0 (Nat.le_trans Z0 K167.1) t167_2) hZ (hw _ (List.mem_of_getElem? (i := 100) rfl)) (hw _ (List.mem_of_getElem? (i := 57) rfl)) (by decide) (by decide)) q197a q197c (g := (mkF m 209 #[.val (.int p1), .val (.int p2), .val (.int p3), .val (.int p4), .val (.int ((p1 &&& (2147483647 : Int32)) % (21 : Int32))), .val (.int (p2.toInt16.toInt32)), .val (.ref r_1), .val (.ref r_3), .val (.ref b26), .val (.ref b137), .val (.ref r_167), .val (.int (0 : Int32))] [(.ref r_167)])) rfl (by rw [hml]; rfl) (Steps.refl _) (argsL := []) (rest := []) (lenOf pd__28_29I rfl) rfl (by show 2 * 0 + _ ≤ _; exact Nat.le_of_eq rfl) (hb hby at_209) (fun _ _ => ⟨rfl, rfl, (by decide : 5 + 0 ≤ _), (by decide : 32 + 0 ≤ _)⟩)
        dsimp only [Pt.U, Pt.locs, Pt.cells, Pt.slots] at y197 z197 st197 hQ197
        change Stand p l e _ s m _ below meth c T197 L197 k197 n197 at X197
        change L197 = _ ++ Lc197 at l197
        subst y197 z197
        obtain ⟨rfl, N197q, e197⟩ := hQ197
        have N197 : Fr n0 L197 := l197 ▸ Fr.app N167 N197q
        obtain ⟨cq198, kq198, q198a, q198b, q198c⟩ := isOf hZ e197 t167_1
        obtain ⟨_, _, ⟨T198, L198, k198, n198⟩, -, X198, ⟨Lc198, hQ198, l198, y198, z198⟩, st198⟩ := X197.virtualBack hx (y := (⟨"com/example/alviso/alviso/protocol/ResponseHeader", "flexible", "()Z"⟩ : MethodName)) (z := (⟨"com/example/alviso/alviso/protocol/ResponseHeader", "flexible", "()Z"⟩ : MethodName)) hown (mvT hZ (hw _ (List.mem_of_getElem? (i := 101) rfl))) (mvT hZ (hw _ (List.mem_of_getElem? (i := 102) rfl))) (notFace_of_selects (args := #[]) (mvT hZ (hw _ (List.mem_of_getElem? (i := 104) rfl)))) (mvT hZ (hw _ (List.mem_of_getElem? (i := 104) rfl))) (mvT hZ (hw _ (List.mem_of_getElem? (i := 103) rfl))) (by decide) (backOf (W := 0) (rm17 l Z a0 hw [] r_167 (nar .boolean (own_flex (r_1 = w_API_VERSIONS) (nar .short (nar .short (p2.toInt16.toInt32))) (own_ff ((p1 &&& (2147483647 : Int32)) % (21 : Int32))))) T167.heap n0 (Nat.le_trans Z0 K167.1) t167_3) hZ (hw _ (List.mem_of_getElem? (i := 105) rfl)) (hw _ (List.mem_of_getElem? (i := 57) rfl)) (by decide) (by decide)) q198a q198c (g := (mkF m 218 #[.val (.int p1), .val (.int p2), .val (.int p3), .val (.int p4), .val (.int ((p1 &&& (2147483647 : Int32)) % (21 : Int32))), .val (.int (p2.toInt16.toInt32)), .val (.ref r_1), .val (.ref r_3), .val (.ref b26), .val (.ref b137), .val (.ref r_167), .val (.int (0 : Int32))] [(.ref r_167)])) rfl (by rw [hml]; rfl) (Steps.refl _) (argsL := []) (rest := []) (lenOf pd__28_29Z rfl) rfl (by show 2 * 0 + _ ≤ _; exact Nat.le_of_eq rfl) (hb hby at_218) (fun _ _ => ⟨rfl, e197, (by decide : 5 + 0 ≤ _), (by decide : 32 + 0 ≤ _)⟩)
        dsimp only [Pt.U, Pt.locs, Pt.cells, Pt.slots] at y198 z198 st198 hQ198
        change Stand p l e _ s m _ below meth c T198 L198 k198 n198 at X198
        change L198 = _ ++ Lc198 at l198
        subst y198 z198
        obtain ⟨rfl, N198q, e198⟩ := hQ198
        have N198 : Fr n0 L198 := l198 ▸ Fr.app N197 N198q
        obtain ⟨fs, hr, hrun, hended, hW, hsame⟩ := X198.leave (v := some (.int (1 : Int32))) (fun h => by rw [Bd.returns] at h; cases h)
        refine ⟨_, _, pre196 _ ?_, hrun, hended, _, _, rfl, ?_, ⟨_, rfl⟩, hW, hsame.mono (by decide) (by decide)⟩
        · show Steps p.tables e below (T167.setTop (mkF m 192 #[.val (.int p1), .val (.int p2), .val (.int p3), .val (.int p4), .val (.int ((p1 &&& (2147483647 : Int32)) % (21 : Int32))), .val (.int (p2.toInt16.toInt32)), .val (.ref r_1), .val (.ref r_3), .val (.ref b26), .val (.ref b137), .val (.ref r_167), .unset] [(.int (own_ff ((p1 &&& (2147483647 : Int32)) % (21 : Int32)))), (.int (p2.toInt16.toInt32))])) _
          refine XS.icmpYes X167.here hx rfl (pc0 := 192) (pc' := 199) rfl (hb hby at_192) rfl (tlt hV).1 (by decide) (by decide) ?_
          show Steps p.tables e below (T167.setTop (mkF m 199 #[.val (.int p1), .val (.int p2), .val (.int p3), .val (.int p4), .val (.int ((p1 &&& (2147483647 : Int32)) % (21 : Int32))), .val (.int (p2.toInt16.toInt32)), .val (.ref r_1), .val (.ref r_3), .val (.ref b26), .val (.ref b137), .val (.ref r_167), .unset] [])) _
          refine XS.iconst X167.here hx rfl (hb hby at_199) ?_
          show Steps p.tables e below (T167.setTop (mkF m 200 #[.val (.int p1), .val (.int p2), .val (.int p3), .val (.int p4), .val (.int ((p1 &&& (2147483647 : Int32)) % (21 : Int32))), .val (.int (p2.toInt16.toInt32)), .val (.ref r_1), .val (.ref r_3), .val (.ref b26), .val (.ref b137), .val (.ref r_167), .unset] [(.int (0 : Int32))])) _
          refine XS.istore X167.here hx rfl (hb hby at_200) rfl (l' := #[.val (.int p1), .val (.int p2), .val (.int p3), .val (.int p4), .val (.int ((p1 &&& (2147483647 : Int32)) % (21 : Int32))), .val (.int (p2.toInt16.toInt32)), .val (.ref r_1), .val (.ref r_3), .val (.ref b26), .val (.ref b137), .val (.ref r_167), .val (.int (0 : Int32))]) rfl ?_
          show Steps p.tables e below (T167.setTop (mkF m 202 #[.val (.int p1), .val (.int p2), .val (.int p3), .val (.int p4), .val (.int ((p1 &&& (2147483647 : Int32)) % (21 : Int32))), .val (.int (p2.toInt16.toInt32)), .val (.ref r_1), .val (.ref r_3), .val (.ref b26), .val (.ref b137), .val (.ref r_167), .val (.int (0 : Int32))] [])) _
          refine XS.aload X167.here hx rfl (hb hby at_202) rfl rfl ?_
          show Steps p.tables e below (T167.setTop (mkF m 204 #[.val (.int p1), .val (.int p2), .val (.int p3), .val (.int p4), .val (.int ((p1 &&& (2147483647 : Int32)) % (21 : Int32))), .val (.int (p2.toInt16.toInt32)), .val (.ref r_1), .val (.ref r_3), .val (.ref b26), .val (.ref b137), .val (.ref r_167), .val (.int (0 : Int32))] [(.ref r_167)])) _
          refine XS.ifnullNo X167.here hx rfl (hb hby at_204) rfl ?_
          show Steps p.tables e below (T167.setTop (mkF m 207 #[.val (.int p1), .val (.int p2), .val (.int p3), .val (.int p4), .val (.int ((p1 &&& (2147483647 : Int32)) % (21 : Int32))), .val (.int (p2.toInt16.toInt32)), .val (.ref r_1), .val (.ref r_3), .val (.ref b26), .val (.ref b137), .val (.ref r_167), .val (.int (0 : Int32))] [])) _
          refine XS.aload X167.here hx rfl (hb hby at_207) rfl rfl ?_
          show Steps p.tables e below (T167.setTop (mkF m 209 #[.val (.int p1), .val (.int p2), .val (.int p3), .val (.int p4), .val (.int ((p1 &&& (2147483647 : Int32)) % (21 : Int32))), .val (.int (p2.toInt16.toInt32)), .val (.ref r_1), .val (.ref r_3), .val (.ref b26), .val (.ref b137), .val (.ref r_167), .val (.int (0 : Int32))] [(.ref r_167)])) _
          refine st197.trans ?_
          show Steps p.tables e below (T197.setTop (mkF m 212 #[.val (.int p1), .val (.int p2), .val (.int p3), .val (.int p4), .val (.int ((p1 &&& (2147483647 : Int32)) % (21 : Int32))), .val (.int (p2.toInt16.toInt32)), .val (.ref r_1), .val (.ref r_3), .val (.ref b26), .val (.ref b137), .val (.ref r_167), .val (.int (0 : Int32))] [(.int p3)])) _
          refine XS.iloadN X197.here hx rfl (hb hby at_212) rfl ?_
          show Steps p.tables e below (T197.setTop (mkF m 213 #[.val (.int p1), .val (.int p2), .val (.int p3), .val (.int p4), .val (.int ((p1 &&& (2147483647 : Int32)) % (21 : Int32))), .val (.int (p2.toInt16.toInt32)), .val (.ref r_1), .val (.ref r_3), .val (.ref b26), .val (.ref b137), .val (.ref r_167), .val (.int (0 : Int32))] [(.int p3), (.int p3)])) _
          refine XS.icmpNo X197.here hx rfl (hb hby at_213) rfl (teq rfl).2 ?_
          show Steps p.tables e below (T197.setTop (mkF m 216 #[.val (.int p1), .val (.int p2), .val (.int p3), .val (.int p4), .val (.int ((p1 &&& (2147483647 : Int32)) % (21 : Int32))), .val (.int (p2.toInt16.toInt32)), .val (.ref r_1), .val (.ref r_3), .val (.ref b26), .val (.ref b137), .val (.ref r_167), .val (.int (0 : Int32))] [])) _
          refine XS.aload X197.here hx rfl (hb hby at_216) rfl rfl ?_
          show Steps p.tables e below (T197.setTop (mkF m 218 #[.val (.int p1), .val (.int p2), .val (.int p3), .val (.int p4), .val (.int ((p1 &&& (2147483647 : Int32)) % (21 : Int32))), .val (.int (p2.toInt16.toInt32)), .val (.ref r_1), .val (.ref r_3), .val (.ref b26), .val (.ref b137), .val (.ref r_167), .val (.int (0 : Int32))] [(.ref r_167)])) _
          refine st198.trans ?_
          show Steps p.tables e below (T198.setTop (mkF m 221 #[.val (.int p1), .val (.int p2), .val (.int p3), .val (.int p4), .val (.int ((p1 &&& (2147483647 : Int32)) % (21 : Int32))), .val (.int (p2.toInt16.toInt32)), .val (.ref r_1), .val (.ref r_3), .val (.ref b26), .val (.ref b137), .val (.ref r_167), .val (.int (0 : Int32))] [(.int (nar .boolean (nar .boolean (own_flex (r_1 = w_API_VERSIONS) (nar .short (nar .short (p2.toInt16.toInt32))) (own_ff ((p1 &&& (2147483647 : Int32)) % (21 : Int32)))))))])) _
          refine XS.iload X198.here hx rfl (hb hby at_221) rfl ?_
          show Steps p.tables e below (T198.setTop (mkF m 223 #[.val (.int p1), .val (.int p2), .val (.int p3), .val (.int p4), .val (.int ((p1 &&& (2147483647 : Int32)) % (21 : Int32))), .val (.int (p2.toInt16.toInt32)), .val (.ref r_1), .val (.ref r_3), .val (.ref b26), .val (.ref b137), .val (.ref r_167), .val (.int (0 : Int32))] [(.int (0 : Int32)), (.int (nar .boolean (nar .boolean (own_flex (r_1 = w_API_VERSIONS) (nar .short (nar .short (p2.toInt16.toInt32))) (own_ff ((p1 &&& (2147483647 : Int32)) % (21 : Int32)))))))])) _
          refine XS.icmpNo X198.here hx rfl (hb hby at_223) rfl (teq (own_fin2 (fun q => h11 (t1_2.mp q)) hV : (nar .boolean (nar .boolean (own_flex (r_1 = w_API_VERSIONS) (nar .short (nar .short (p2.toInt16.toInt32))) (own_ff ((p1 &&& (2147483647 : Int32)) % (21 : Int32)))))) = (0 : Int32))).2 ?_
          show Steps p.tables e below (T198.setTop (mkF m 226 #[.val (.int p1), .val (.int p2), .val (.int p3), .val (.int p4), .val (.int ((p1 &&& (2147483647 : Int32)) % (21 : Int32))), .val (.int (p2.toInt16.toInt32)), .val (.ref r_1), .val (.ref r_3), .val (.ref b26), .val (.ref b137), .val (.ref r_167), .val (.int (0 : Int32))] [])) _
          refine XS.iconst X198.here hx rfl (hb hby at_226) ?_
          show Steps p.tables e below (T198.setTop (mkF m 227 #[.val (.int p1), .val (.int p2), .val (.int p3), .val (.int p4), .val (.int ((p1 &&& (2147483647 : Int32)) % (21 : Int32))), .val (.int (p2.toInt16.toInt32)), .val (.ref r_1), .val (.ref r_3), .val (.ref b26), .val (.ref b137), .val (.ref r_167), .val (.int (0 : Int32))] [(.int (1 : Int32))])) _
          refine XS.goto X198.here hx rfl (pc0 := 227) (pc' := 231) rfl (hb hby at_227) (by decide) (by decide) ?_
          show Steps p.tables e below (T198.setTop (mkF m 231 #[.val (.int p1), .val (.int p2), .val (.int p3), .val (.int p4), .val (.int ((p1 &&& (2147483647 : Int32)) % (21 : Int32))), .val (.int (p2.toInt16.toInt32)), .val (.ref r_1), .val (.ref r_3), .val (.ref b26), .val (.ref b137), .val (.ref r_167), .val (.int (0 : Int32))] [(.int (1 : Int32))])) _
          exact retN X198 hx (t := .boolean) Bd.returns (by simp) (hb hby at_231) hr
        · show Q_rm0 Z p1 p2 p3 p4 w_PRODUCE w_FETCH w_LIST_OFFSETS w_METADATA w_OFFSET_COMMIT w_OFFSET_FETCH w_FIND_COORDINATOR w_JOIN_GROUP w_HEARTBEAT w_LEAVE_GROUP w_SYNC_GROUP w_API_VERSIONS w_CREATE_TOPICS w_INIT_PRODUCER_ID w_OFFSET_FOR_LEADER_EPOCH w_DESCRIBE_CONFIGS w_ELECT_LEADERS w_ALTER_PARTITION w_BROKER_REGISTRATION w_BROKER_HEARTBEAT w_ALLOCATE_PRODUCER_IDS cs h0 n0 _ T198.heap _
          rw [e198]
          exact ⟨rfl, N198⟩
      · obtain ⟨cq199, kq199, q199a, q199b, q199c⟩ := isOf hZ rfl t167_1
        obtain ⟨_, _, ⟨T199, L199, k199, n199⟩, -, X199, ⟨Lc199, hQ199, l199, y199, z199⟩, st199⟩ := X167.virtualBack hx (y := (⟨"com/example/alviso/alviso/protocol/ResponseHeader", "correlationId", "()I"⟩ : MethodName)) (z := (⟨"com/example/alviso/alviso/protocol/ResponseHeader", "correlationId", "()I"⟩ : MethodName)) hown (mvT hZ (hw _ (List.mem_of_getElem? (i := 96) rfl))) (mvT hZ (hw _ (List.mem_of_getElem? (i := 97) rfl))) (notFace_of_selects (args := #[]) (mvT hZ (hw _ (List.mem_of_getElem? (i := 99) rfl)))) (mvT hZ (hw _ (List.mem_of_getElem? (i := 99) rfl))) (mvT hZ (hw _ (List.mem_of_getElem? (i := 98) rfl))) (by decide) (backOf (W := 0) (rm16 l Z a0 hw [] r_167 p3 T167.heap n0 (Nat.le_trans Z0 K167.1) t167_2) hZ (hw _ (List.mem_of_getElem? (i := 100) rfl)) (hw _ (List.mem_of_getElem? (i := 57) rfl)) (by decide) (by decide)) q199a q199c (g := (mkF m 209 #[.val (.int p1), .val (.int p2), .val (.int p3), .val (.int p4), .val (.int ((p1 &&& (2147483647 : Int32)) % (21 : Int32))), .val (.int (p2.toInt16.toInt32)), .val (.ref r_1), .val (.ref r_3), .val (.ref b26), .val (.ref b137), .val (.ref r_167), .val (.int (1 : Int32))] [(.ref r_167)])) rfl (by rw [hml]; rfl) (Steps.refl _) (argsL := []) (rest := []) (lenOf pd__28_29I rfl) rfl (by show 2 * 0 + _ ≤ _; exact Nat.le_of_eq rfl) (hb hby at_209) (fun _ _ => ⟨rfl, rfl, (by decide : 5 + 0 ≤ _), (by decide : 32 + 0 ≤ _)⟩)
        dsimp only [Pt.U, Pt.locs, Pt.cells, Pt.slots] at y199 z199 st199 hQ199
        change Stand p l e _ s m _ below meth c T199 L199 k199 n199 at X199
        change L199 = _ ++ Lc199 at l199
        subst y199 z199
        obtain ⟨rfl, N199q, e199⟩ := hQ199
        have N199 : Fr n0 L199 := l199 ▸ Fr.app N167 N199q
        obtain ⟨cq200, kq200, q200a, q200b, q200c⟩ := isOf hZ e199 t167_1
        obtain ⟨_, _, ⟨T200, L200, k200, n200⟩, -, X200, ⟨Lc200, hQ200, l200, y200, z200⟩, st200⟩ := X199.virtualBack hx (y := (⟨"com/example/alviso/alviso/protocol/ResponseHeader", "flexible", "()Z"⟩ : MethodName)) (z := (⟨"com/example/alviso/alviso/protocol/ResponseHeader", "flexible", "()Z"⟩ : MethodName)) hown (mvT hZ (hw _ (List.mem_of_getElem? (i := 101) rfl))) (mvT hZ (hw _ (List.mem_of_getElem? (i := 102) rfl))) (notFace_of_selects (args := #[]) (mvT hZ (hw _ (List.mem_of_getElem? (i := 104) rfl)))) (mvT hZ (hw _ (List.mem_of_getElem? (i := 104) rfl))) (mvT hZ (hw _ (List.mem_of_getElem? (i := 103) rfl))) (by decide) (backOf (W := 0) (rm17 l Z a0 hw [] r_167 (nar .boolean (own_flex (r_1 = w_API_VERSIONS) (nar .short (nar .short (p2.toInt16.toInt32))) (own_ff ((p1 &&& (2147483647 : Int32)) % (21 : Int32))))) T167.heap n0 (Nat.le_trans Z0 K167.1) t167_3) hZ (hw _ (List.mem_of_getElem? (i := 105) rfl)) (hw _ (List.mem_of_getElem? (i := 57) rfl)) (by decide) (by decide)) q200a q200c (g := (mkF m 218 #[.val (.int p1), .val (.int p2), .val (.int p3), .val (.int p4), .val (.int ((p1 &&& (2147483647 : Int32)) % (21 : Int32))), .val (.int (p2.toInt16.toInt32)), .val (.ref r_1), .val (.ref r_3), .val (.ref b26), .val (.ref b137), .val (.ref r_167), .val (.int (1 : Int32))] [(.ref r_167)])) rfl (by rw [hml]; rfl) (Steps.refl _) (argsL := []) (rest := []) (lenOf pd__28_29Z rfl) rfl (by show 2 * 0 + _ ≤ _; exact Nat.le_of_eq rfl) (hb hby at_218) (fun _ _ => ⟨rfl, e199, (by decide : 5 + 0 ≤ _), (by decide : 32 + 0 ≤ _)⟩)
        dsimp only [Pt.U, Pt.locs, Pt.cells, Pt.slots] at y200 z200 st200 hQ200
        change Stand p l e _ s m _ below meth c T200 L200 k200 n200 at X200
        change L200 = _ ++ Lc200 at l200
        subst y200 z200
        obtain ⟨rfl, N200q, e200⟩ := hQ200
        have N200 : Fr n0 L200 := l200 ▸ Fr.app N199 N200q
        obtain ⟨fs, hr, hrun, hended, hW, hsame⟩ := X200.leave (v := some (.int (1 : Int32))) (fun h => by rw [Bd.returns] at h; cases h)
        refine ⟨_, _, pre196 _ ?_, hrun, hended, _, _, rfl, ?_, ⟨_, rfl⟩, hW, hsame.mono (by decide) (by decide)⟩
        · show Steps p.tables e below (T167.setTop (mkF m 192 #[.val (.int p1), .val (.int p2), .val (.int p3), .val (.int p4), .val (.int ((p1 &&& (2147483647 : Int32)) % (21 : Int32))), .val (.int (p2.toInt16.toInt32)), .val (.ref r_1), .val (.ref r_3), .val (.ref b26), .val (.ref b137), .val (.ref r_167), .unset] [(.int (own_ff ((p1 &&& (2147483647 : Int32)) % (21 : Int32)))), (.int (p2.toInt16.toInt32))])) _
          refine XS.icmpNo X167.here hx rfl (hb hby at_192) rfl (flt hV).1 ?_
          show Steps p.tables e below (T167.setTop (mkF m 195 #[.val (.int p1), .val (.int p2), .val (.int p3), .val (.int p4), .val (.int ((p1 &&& (2147483647 : Int32)) % (21 : Int32))), .val (.int (p2.toInt16.toInt32)), .val (.ref r_1), .val (.ref r_3), .val (.ref b26), .val (.ref b137), .val (.ref r_167), .unset] [])) _
          refine XS.iconst X167.here hx rfl (hb hby at_195) ?_
          show Steps p.tables e below (T167.setTop (mkF m 196 #[.val (.int p1), .val (.int p2), .val (.int p3), .val (.int p4), .val (.int ((p1 &&& (2147483647 : Int32)) % (21 : Int32))), .val (.int (p2.toInt16.toInt32)), .val (.ref r_1), .val (.ref r_3), .val (.ref b26), .val (.ref b137), .val (.ref r_167), .unset] [(.int (1 : Int32))])) _
          refine XS.goto X167.here hx rfl (pc0 := 196) (pc' := 200) rfl (hb hby at_196) (by decide) (by decide) ?_
          show Steps p.tables e below (T167.setTop (mkF m 200 #[.val (.int p1), .val (.int p2), .val (.int p3), .val (.int p4), .val (.int ((p1 &&& (2147483647 : Int32)) % (21 : Int32))), .val (.int (p2.toInt16.toInt32)), .val (.ref r_1), .val (.ref r_3), .val (.ref b26), .val (.ref b137), .val (.ref r_167), .unset] [(.int (1 : Int32))])) _
          refine XS.istore X167.here hx rfl (hb hby at_200) rfl (l' := #[.val (.int p1), .val (.int p2), .val (.int p3), .val (.int p4), .val (.int ((p1 &&& (2147483647 : Int32)) % (21 : Int32))), .val (.int (p2.toInt16.toInt32)), .val (.ref r_1), .val (.ref r_3), .val (.ref b26), .val (.ref b137), .val (.ref r_167), .val (.int (1 : Int32))]) rfl ?_
          show Steps p.tables e below (T167.setTop (mkF m 202 #[.val (.int p1), .val (.int p2), .val (.int p3), .val (.int p4), .val (.int ((p1 &&& (2147483647 : Int32)) % (21 : Int32))), .val (.int (p2.toInt16.toInt32)), .val (.ref r_1), .val (.ref r_3), .val (.ref b26), .val (.ref b137), .val (.ref r_167), .val (.int (1 : Int32))] [])) _
          refine XS.aload X167.here hx rfl (hb hby at_202) rfl rfl ?_
          show Steps p.tables e below (T167.setTop (mkF m 204 #[.val (.int p1), .val (.int p2), .val (.int p3), .val (.int p4), .val (.int ((p1 &&& (2147483647 : Int32)) % (21 : Int32))), .val (.int (p2.toInt16.toInt32)), .val (.ref r_1), .val (.ref r_3), .val (.ref b26), .val (.ref b137), .val (.ref r_167), .val (.int (1 : Int32))] [(.ref r_167)])) _
          refine XS.ifnullNo X167.here hx rfl (hb hby at_204) rfl ?_
          show Steps p.tables e below (T167.setTop (mkF m 207 #[.val (.int p1), .val (.int p2), .val (.int p3), .val (.int p4), .val (.int ((p1 &&& (2147483647 : Int32)) % (21 : Int32))), .val (.int (p2.toInt16.toInt32)), .val (.ref r_1), .val (.ref r_3), .val (.ref b26), .val (.ref b137), .val (.ref r_167), .val (.int (1 : Int32))] [])) _
          refine XS.aload X167.here hx rfl (hb hby at_207) rfl rfl ?_
          show Steps p.tables e below (T167.setTop (mkF m 209 #[.val (.int p1), .val (.int p2), .val (.int p3), .val (.int p4), .val (.int ((p1 &&& (2147483647 : Int32)) % (21 : Int32))), .val (.int (p2.toInt16.toInt32)), .val (.ref r_1), .val (.ref r_3), .val (.ref b26), .val (.ref b137), .val (.ref r_167), .val (.int (1 : Int32))] [(.ref r_167)])) _
          refine st199.trans ?_
          show Steps p.tables e below (T199.setTop (mkF m 212 #[.val (.int p1), .val (.int p2), .val (.int p3), .val (.int p4), .val (.int ((p1 &&& (2147483647 : Int32)) % (21 : Int32))), .val (.int (p2.toInt16.toInt32)), .val (.ref r_1), .val (.ref r_3), .val (.ref b26), .val (.ref b137), .val (.ref r_167), .val (.int (1 : Int32))] [(.int p3)])) _
          refine XS.iloadN X199.here hx rfl (hb hby at_212) rfl ?_
          show Steps p.tables e below (T199.setTop (mkF m 213 #[.val (.int p1), .val (.int p2), .val (.int p3), .val (.int p4), .val (.int ((p1 &&& (2147483647 : Int32)) % (21 : Int32))), .val (.int (p2.toInt16.toInt32)), .val (.ref r_1), .val (.ref r_3), .val (.ref b26), .val (.ref b137), .val (.ref r_167), .val (.int (1 : Int32))] [(.int p3), (.int p3)])) _
          refine XS.icmpNo X199.here hx rfl (hb hby at_213) rfl (teq rfl).2 ?_
          show Steps p.tables e below (T199.setTop (mkF m 216 #[.val (.int p1), .val (.int p2), .val (.int p3), .val (.int p4), .val (.int ((p1 &&& (2147483647 : Int32)) % (21 : Int32))), .val (.int (p2.toInt16.toInt32)), .val (.ref r_1), .val (.ref r_3), .val (.ref b26), .val (.ref b137), .val (.ref r_167), .val (.int (1 : Int32))] [])) _
          refine XS.aload X199.here hx rfl (hb hby at_216) rfl rfl ?_
          show Steps p.tables e below (T199.setTop (mkF m 218 #[.val (.int p1), .val (.int p2), .val (.int p3), .val (.int p4), .val (.int ((p1 &&& (2147483647 : Int32)) % (21 : Int32))), .val (.int (p2.toInt16.toInt32)), .val (.ref r_1), .val (.ref r_3), .val (.ref b26), .val (.ref b137), .val (.ref r_167), .val (.int (1 : Int32))] [(.ref r_167)])) _
          refine st200.trans ?_
          show Steps p.tables e below (T200.setTop (mkF m 221 #[.val (.int p1), .val (.int p2), .val (.int p3), .val (.int p4), .val (.int ((p1 &&& (2147483647 : Int32)) % (21 : Int32))), .val (.int (p2.toInt16.toInt32)), .val (.ref r_1), .val (.ref r_3), .val (.ref b26), .val (.ref b137), .val (.ref r_167), .val (.int (1 : Int32))] [(.int (nar .boolean (nar .boolean (own_flex (r_1 = w_API_VERSIONS) (nar .short (nar .short (p2.toInt16.toInt32))) (own_ff ((p1 &&& (2147483647 : Int32)) % (21 : Int32)))))))])) _
          refine XS.iload X200.here hx rfl (hb hby at_221) rfl ?_
          show Steps p.tables e below (T200.setTop (mkF m 223 #[.val (.int p1), .val (.int p2), .val (.int p3), .val (.int p4), .val (.int ((p1 &&& (2147483647 : Int32)) % (21 : Int32))), .val (.int (p2.toInt16.toInt32)), .val (.ref r_1), .val (.ref r_3), .val (.ref b26), .val (.ref b137), .val (.ref r_167), .val (.int (1 : Int32))] [(.int (1 : Int32)), (.int (nar .boolean (nar .boolean (own_flex (r_1 = w_API_VERSIONS) (nar .short (nar .short (p2.toInt16.toInt32))) (own_ff ((p1 &&& (2147483647 : Int32)) % (21 : Int32)))))))])) _
          refine XS.icmpNo X200.here hx rfl (hb hby at_223) rfl (teq (own_fin3 (fun q => h11 (t1_2.mp q)) hV : (nar .boolean (nar .boolean (own_flex (r_1 = w_API_VERSIONS) (nar .short (nar .short (p2.toInt16.toInt32))) (own_ff ((p1 &&& (2147483647 : Int32)) % (21 : Int32)))))) = (1 : Int32))).2 ?_
          show Steps p.tables e below (T200.setTop (mkF m 226 #[.val (.int p1), .val (.int p2), .val (.int p3), .val (.int p4), .val (.int ((p1 &&& (2147483647 : Int32)) % (21 : Int32))), .val (.int (p2.toInt16.toInt32)), .val (.ref r_1), .val (.ref r_3), .val (.ref b26), .val (.ref b137), .val (.ref r_167), .val (.int (1 : Int32))] [])) _
          refine XS.iconst X200.here hx rfl (hb hby at_226) ?_
          show Steps p.tables e below (T200.setTop (mkF m 227 #[.val (.int p1), .val (.int p2), .val (.int p3), .val (.int p4), .val (.int ((p1 &&& (2147483647 : Int32)) % (21 : Int32))), .val (.int (p2.toInt16.toInt32)), .val (.ref r_1), .val (.ref r_3), .val (.ref b26), .val (.ref b137), .val (.ref r_167), .val (.int (1 : Int32))] [(.int (1 : Int32))])) _
          refine XS.goto X200.here hx rfl (pc0 := 227) (pc' := 231) rfl (hb hby at_227) (by decide) (by decide) ?_
          show Steps p.tables e below (T200.setTop (mkF m 231 #[.val (.int p1), .val (.int p2), .val (.int p3), .val (.int p4), .val (.int ((p1 &&& (2147483647 : Int32)) % (21 : Int32))), .val (.int (p2.toInt16.toInt32)), .val (.ref r_1), .val (.ref r_3), .val (.ref b26), .val (.ref b137), .val (.ref r_167), .val (.int (1 : Int32))] [(.int (1 : Int32))])) _
          exact retN X200 hx (t := .boolean) Bd.returns (by simp) (hb hby at_231) hr
        · show Q_rm0 Z p1 p2 p3 p4 w_PRODUCE w_FETCH w_LIST_OFFSETS w_METADATA w_OFFSET_COMMIT w_OFFSET_FETCH w_FIND_COORDINATOR w_JOIN_GROUP w_HEARTBEAT w_LEAVE_GROUP w_SYNC_GROUP w_API_VERSIONS w_CREATE_TOPICS w_INIT_PRODUCER_ID w_OFFSET_FOR_LEADER_EPOCH w_DESCRIBE_CONFIGS w_ELECT_LEADERS w_ALTER_PARTITION w_BROKER_REGISTRATION w_BROKER_HEARTBEAT w_ALLOCATE_PRODUCER_IDS cs h0 n0 _ T200.heap _
          rw [e200]
          exact ⟨rfl, N200⟩
  · obtain ⟨T201, h201, k201, X201, e201, E201, A201, st201⟩ := newP X1 hx hZ (hw _ (List.mem_of_getElem? (i := 34) rfl)) e1 (g := (mkF m 45 #[.val (.int p1), .val (.int p2), .val (.int p3), .val (.int p4), .val (.int ((p1 &&& (2147483647 : Int32)) % (21 : Int32))), .val (.int (p2.toInt16.toInt32)), .val (.ref r_1), .val .null, .unset, .unset, .unset, .unset] [(.int (21 : Int32))])) rfl (hb hby at_45) rfl (by decide) (cap := 21) (by decide) (by decide) (by decide) (by decide)
    obtain ⟨b201, g201⟩ : ∃ z, z = h0.size := ⟨_, rfl⟩
    rw [← g201] at A201 st201
    have ne_r_1_b201 : r_1 ≠ b201 := Nat.ne_of_lt (Nat.lt_of_lt_of_le t1_0.lt (Nat.le_of_eq g201.symm))
    have ne_w_ALLOCATE_PRODUCER_IDS_b201 : w_ALLOCATE_PRODUCER_IDS ≠ b201 := Nat.ne_of_lt (Nat.lt_of_lt_of_le E_w_ALLOCATE_PRODUCER_IDS.lt (Nat.le_of_eq g201.symm))
    have ne_w_ALTER_PARTITION_b201 : w_ALTER_PARTITION ≠ b201 := Nat.ne_of_lt (Nat.lt_of_lt_of_le E_w_ALTER_PARTITION.lt (Nat.le_of_eq g201.symm))
    have ne_w_API_VERSIONS_b201 : w_API_VERSIONS ≠ b201 := Nat.ne_of_lt (Nat.lt_of_lt_of_le E_w_API_VERSIONS.lt (Nat.le_of_eq g201.symm))
    have ne_w_BROKER_HEARTBEAT_b201 : w_BROKER_HEARTBEAT ≠ b201 := Nat.ne_of_lt (Nat.lt_of_lt_of_le E_w_BROKER_HEARTBEAT.lt (Nat.le_of_eq g201.symm))
    have ne_w_BROKER_REGISTRATION_b201 : w_BROKER_REGISTRATION ≠ b201 := Nat.ne_of_lt (Nat.lt_of_lt_of_le E_w_BROKER_REGISTRATION.lt (Nat.le_of_eq g201.symm))
    have ne_w_CREATE_TOPICS_b201 : w_CREATE_TOPICS ≠ b201 := Nat.ne_of_lt (Nat.lt_of_lt_of_le E_w_CREATE_TOPICS.lt (Nat.le_of_eq g201.symm))
    have ne_w_DESCRIBE_CONFIGS_b201 : w_DESCRIBE_CONFIGS ≠ b201 := Nat.ne_of_lt (Nat.lt_of_lt_of_le E_w_DESCRIBE_CONFIGS.lt (Nat.le_of_eq g201.symm))
    have ne_w_ELECT_LEADERS_b201 : w_ELECT_LEADERS ≠ b201 := Nat.ne_of_lt (Nat.lt_of_lt_of_le E_w_ELECT_LEADERS.lt (Nat.le_of_eq g201.symm))
    have ne_w_FETCH_b201 : w_FETCH ≠ b201 := Nat.ne_of_lt (Nat.lt_of_lt_of_le E_w_FETCH.lt (Nat.le_of_eq g201.symm))
    have ne_w_FIND_COORDINATOR_b201 : w_FIND_COORDINATOR ≠ b201 := Nat.ne_of_lt (Nat.lt_of_lt_of_le E_w_FIND_COORDINATOR.lt (Nat.le_of_eq g201.symm))
    have ne_w_HEARTBEAT_b201 : w_HEARTBEAT ≠ b201 := Nat.ne_of_lt (Nat.lt_of_lt_of_le E_w_HEARTBEAT.lt (Nat.le_of_eq g201.symm))
    have ne_w_INIT_PRODUCER_ID_b201 : w_INIT_PRODUCER_ID ≠ b201 := Nat.ne_of_lt (Nat.lt_of_lt_of_le E_w_INIT_PRODUCER_ID.lt (Nat.le_of_eq g201.symm))
    have ne_w_JOIN_GROUP_b201 : w_JOIN_GROUP ≠ b201 := Nat.ne_of_lt (Nat.lt_of_lt_of_le E_w_JOIN_GROUP.lt (Nat.le_of_eq g201.symm))
    have ne_w_LEAVE_GROUP_b201 : w_LEAVE_GROUP ≠ b201 := Nat.ne_of_lt (Nat.lt_of_lt_of_le E_w_LEAVE_GROUP.lt (Nat.le_of_eq g201.symm))
    have ne_w_LIST_OFFSETS_b201 : w_LIST_OFFSETS ≠ b201 := Nat.ne_of_lt (Nat.lt_of_lt_of_le E_w_LIST_OFFSETS.lt (Nat.le_of_eq g201.symm))
    have ne_w_METADATA_b201 : w_METADATA ≠ b201 := Nat.ne_of_lt (Nat.lt_of_lt_of_le E_w_METADATA.lt (Nat.le_of_eq g201.symm))
    have ne_w_OFFSET_COMMIT_b201 : w_OFFSET_COMMIT ≠ b201 := Nat.ne_of_lt (Nat.lt_of_lt_of_le E_w_OFFSET_COMMIT.lt (Nat.le_of_eq g201.symm))
    have ne_w_OFFSET_FETCH_b201 : w_OFFSET_FETCH ≠ b201 := Nat.ne_of_lt (Nat.lt_of_lt_of_le E_w_OFFSET_FETCH.lt (Nat.le_of_eq g201.symm))
    have ne_w_OFFSET_FOR_LEADER_EPOCH_b201 : w_OFFSET_FOR_LEADER_EPOCH ≠ b201 := Nat.ne_of_lt (Nat.lt_of_lt_of_le E_w_OFFSET_FOR_LEADER_EPOCH.lt (Nat.le_of_eq g201.symm))
    have ne_w_PRODUCE_b201 : w_PRODUCE ≠ b201 := Nat.ne_of_lt (Nat.lt_of_lt_of_le E_w_PRODUCE.lt (Nat.le_of_eq g201.symm))
    have ne_w_SYNC_GROUP_b201 : w_SYNC_GROUP ≠ b201 := Nat.ne_of_lt (Nat.lt_of_lt_of_le E_w_SYNC_GROUP.lt (Nat.le_of_eq g201.symm))
    have g_b201 : n0 ≤ b201 := Nat.le_trans Z0 (Nat.le_of_eq g201.symm)
    have sz_b201 : h0.size ≤ b201 := Nat.le_trans (Keep.refl h0 []).1 (Nat.le_of_eq g201.symm)
    have K202 : Keep h0 h201 [] := (Keep.refl h0 []).ext E201
    have V_b201 : Arv Z h201 b201 k201 .int (21 : Int32) [(.int (0 : Int32)), (.int (0 : Int32)), (.int (0 : Int32)), (.int (0 : Int32)), (.int (0 : Int32)), (.int (0 : Int32)), (.int (0 : Int32)), (.int (0 : Int32)), (.int (0 : Int32)), (.int (0 : Int32)), (.int (0 : Int32)), (.int (0 : Int32)), (.int (0 : Int32)), (.int (0 : Int32)), (.int (0 : Int32)), (.int (0 : Int32)), (.int (0 : Int32)), (.int (0 : Int32)), (.int (0 : Int32)), (.int (0 : Int32)), (.int (0 : Int32))] (.int (0 : Int32)) := (Arv.new A201 (by decide)).pad (pad_rep [] (.int (0 : Int32)) 21)
    obtain ⟨c203, Ac203, qc203, Sc203, Nc203, Hc203, Gc203⟩ := id V_b201
    obtain ⟨T204, h204, X204, e204, W204, st204⟩ := stI X201 hx hZ e201 Ac203 (j := (0 : Int32)) (inb_of Sc203 ⟨by decide, by decide⟩) (g := (mkF m 51 #[.val (.int p1), .val (.int p2), .val (.int p3), .val (.int p4), .val (.int ((p1 &&& (2147483647 : Int32)) % (21 : Int32))), .val (.int (p2.toInt16.toInt32)), .val (.ref r_1), .val .null, .unset, .unset, .unset, .unset] [(.int (9 : Int32)), (.int (0 : Int32)), (.ref b201), (.ref b201)])) rfl rfl (hb hby at_51)
    have K205 : Keep h0 h204 [] := K202.wr W204 (Or.inr sz_b201)
    have N206 := Fr.snoc X204 N1 g_b201
    have Vw204 := Arv.set Ac203 qc203 Sc203 Nc203 Hc203 Gc203 rfl W204 0 rfl (Nat.le_of_ble_eq_true rfl)
    change Arv Z h204 b201 k201 .int (21 : Int32) [(.int (9 : Int32)), (.int (0 : Int32)), (.int (0 : Int32)), (.int (0 : Int32)), (.int (0 : Int32)), (.int (0 : Int32)), (.int (0 : Int32)), (.int (0 : Int32)), (.int (0 : Int32)), (.int (0 : Int32)), (.int (0 : Int32)), (.int (0 : Int32)), (.int (0 : Int32)), (.int (0 : Int32)), (.int (0 : Int32)), (.int (0 : Int32)), (.int (0 : Int32)), (.int (0 : Int32)), (.int (0 : Int32)), (.int (0 : Int32)), (.int (0 : Int32))] (.int (0 : Int32)) at Vw204
    obtain ⟨c207, Ac207, qc207, Sc207, Nc207, Hc207, Gc207⟩ := id Vw204
    obtain ⟨T208, h208, X208, e208, W208, st208⟩ := stI X204 hx hZ e204 Ac207 (j := (1 : Int32)) (inb_of Sc207 ⟨by decide, by decide⟩) (g := (mkF m 56 #[.val (.int p1), .val (.int p2), .val (.int p3), .val (.int p4), .val (.int ((p1 &&& (2147483647 : Int32)) % (21 : Int32))), .val (.int (p2.toInt16.toInt32)), .val (.ref r_1), .val .null, .unset, .unset, .unset, .unset] [(.int (12 : Int32)), (.int (1 : Int32)), (.ref b201), (.ref b201)])) rfl rfl (hb hby at_56)
    have K209 : Keep h0 h208 [] := K205.wr W208 (Or.inr sz_b201)
    have N210 := Fr.snoc X208 N206 g_b201
    have Vw208 := Arv.set Ac207 qc207 Sc207 Nc207 Hc207 Gc207 rfl W208 1 rfl (Nat.le_of_ble_eq_true rfl)
    change Arv Z h208 b201 k201 .int (21 : Int32) [(.int (9 : Int32)), (.int (12 : Int32)), (.int (0 : Int32)), (.int (0 : Int32)), (.int (0 : Int32)), (.int (0 : Int32)), (.int (0 : Int32)), (.int (0 : Int32)), (.int (0 : Int32)), (.int (0 : Int32)), (.int (0 : Int32)), (.int (0 : Int32)), (.int (0 : Int32)), (.int (0 : Int32)), (.int (0 : Int32)), (.int (0 : Int32)), (.int (0 : Int32)), (.int (0 : Int32)), (.int (0 : Int32)), (.int (0 : Int32)), (.int (0 : Int32))] (.int (0 : Int32)) at Vw208
    obtain ⟨c211, Ac211, qc211, Sc211, Nc211, Hc211, Gc211⟩ := id Vw208
    obtain ⟨T212, h212, X212, e212, W212, st212⟩ := stI X208 hx hZ e208 Ac211 (j := (2 : Int32)) (inb_of Sc211 ⟨by decide, by decide⟩) (g := (mkF m 61 #[.val (.int p1), .val (.int p2), .val (.int p3), .val (.int p4), .val (.int ((p1 &&& (2147483647 : Int32)) % (21 : Int32))), .val (.int (p2.toInt16.toInt32)), .val (.ref r_1), .val .null, .unset, .unset, .unset, .unset] [(.int (6 : Int32)), (.int (2 : Int32)), (.ref b201), (.ref b201)])) rfl rfl (hb hby at_61)
    have K213 : Keep h0 h212 [] := K209.wr W212 (Or.inr sz_b201)
    have N214 := Fr.snoc X212 N210 g_b201
    have Vw212 := Arv.set Ac211 qc211 Sc211 Nc211 Hc211 Gc211 rfl W212 2 rfl (Nat.le_of_ble_eq_true rfl)
    change Arv Z h212 b201 k201 .int (21 : Int32) [(.int (9 : Int32)), (.int (12 : Int32)), (.int (6 : Int32)), (.int (0 : Int32)), (.int (0 : Int32)), (.int (0 : Int32)), (.int (0 : Int32)), (.int (0 : Int32)), (.int (0 : Int32)), (.int (0 : Int32)), (.int (0 : Int32)), (.int (0 : Int32)), (.int (0 : Int32)), (.int (0 : Int32)), (.int (0 : Int32)), (.int (0 : Int32)), (.int (0 : Int32)), (.int (0 : Int32)), (.int (0 : Int32)), (.int (0 : Int32)), (.int (0 : Int32))] (.int (0 : Int32)) at Vw212
    obtain ⟨c215, Ac215, qc215, Sc215, Nc215, Hc215, Gc215⟩ := id Vw212
    obtain ⟨T216, h216, X216, e216, W216, st216⟩ := stI X212 hx hZ e212 Ac215 (j := (3 : Int32)) (inb_of Sc215 ⟨by decide, by decide⟩) (g := (mkF m 66 #[.val (.int p1), .val (.int p2), .val (.int p3), .val (.int p4), .val (.int ((p1 &&& (2147483647 : Int32)) % (21 : Int32))), .val (.int (p2.toInt16.toInt32)), .val (.ref r_1), .val .null, .unset, .unset, .unset, .unset] [(.int (9 : Int32)), (.int (3 : Int32)), (.ref b201), (.ref b201)])) rfl rfl (hb hby at_66)
    have K217 : Keep h0 h216 [] := K213.wr W216 (Or.inr sz_b201)
    have N218 := Fr.snoc X216 N214 g_b201
    have Vw216 := Arv.set Ac215 qc215 Sc215 Nc215 Hc215 Gc215 rfl W216 3 rfl (Nat.le_of_ble_eq_true rfl)
    change Arv Z h216 b201 k201 .int (21 : Int32) [(.int (9 : Int32)), (.int (12 : Int32)), (.int (6 : Int32)), (.int (9 : Int32)), (.int (0 : Int32)), (.int (0 : Int32)), (.int (0 : Int32)), (.int (0 : Int32)), (.int (0 : Int32)), (.int (0 : Int32)), (.int (0 : Int32)), (.int (0 : Int32)), (.int (0 : Int32)), (.int (0 : Int32)), (.int (0 : Int32)), (.int (0 : Int32)), (.int (0 : Int32)), (.int (0 : Int32)), (.int (0 : Int32)), (.int (0 : Int32)), (.int (0 : Int32))] (.int (0 : Int32)) at Vw216
    obtain ⟨c219, Ac219, qc219, Sc219, Nc219, Hc219, Gc219⟩ := id Vw216
    obtain ⟨T220, h220, X220, e220, W220, st220⟩ := stI X216 hx hZ e216 Ac219 (j := (4 : Int32)) (inb_of Sc219 ⟨by decide, by decide⟩) (g := (mkF m 71 #[.val (.int p1), .val (.int p2), .val (.int p3), .val (.int p4), .val (.int ((p1 &&& (2147483647 : Int32)) % (21 : Int32))), .val (.int (p2.toInt16.toInt32)), .val (.ref r_1), .val .null, .unset, .unset, .unset, .unset] [(.int (8 : Int32)), (.int (4 : Int32)), (.ref b201), (.ref b201)])) rfl rfl (hb hby at_71)
    have K221 : Keep h0 h220 [] := K217.wr W220 (Or.inr sz_b201)
    have N222 := Fr.snoc X220 N218 g_b201
    have Vw220 := Arv.set Ac219 qc219 Sc219 Nc219 Hc219 Gc219 rfl W220 4 rfl (Nat.le_of_ble_eq_true rfl)
    change Arv Z h220 b201 k201 .int (21 : Int32) [(.int (9 : Int32)), (.int (12 : Int32)), (.int (6 : Int32)), (.int (9 : Int32)), (.int (8 : Int32)), (.int (0 : Int32)), (.int (0 : Int32)), (.int (0 : Int32)), (.int (0 : Int32)), (.int (0 : Int32)), (.int (0 : Int32)), (.int (0 : Int32)), (.int (0 : Int32)), (.int (0 : Int32)), (.int (0 : Int32)), (.int (0 : Int32)), (.int (0 : Int32)), (.int (0 : Int32)), (.int (0 : Int32)), (.int (0 : Int32)), (.int (0 : Int32))] (.int (0 : Int32)) at Vw220
    obtain ⟨c223, Ac223, qc223, Sc223, Nc223, Hc223, Gc223⟩ := id Vw220
    obtain ⟨T224, h224, X224, e224, W224, st224⟩ := stI X220 hx hZ e220 Ac223 (j := (5 : Int32)) (inb_of Sc223 ⟨by decide, by decide⟩) (g := (mkF m 76 #[.val (.int p1), .val (.int p2), .val (.int p3), .val (.int p4), .val (.int ((p1 &&& (2147483647 : Int32)) % (21 : Int32))), .val (.int (p2.toInt16.toInt32)), .val (.ref r_1), .val .null, .unset, .unset, .unset, .unset] [(.int (6 : Int32)), (.int (5 : Int32)), (.ref b201), (.ref b201)])) rfl rfl (hb hby at_76)
    have K225 : Keep h0 h224 [] := K221.wr W224 (Or.inr sz_b201)
    have N226 := Fr.snoc X224 N222 g_b201
    have Vw224 := Arv.set Ac223 qc223 Sc223 Nc223 Hc223 Gc223 rfl W224 5 rfl (Nat.le_of_ble_eq_true rfl)
    change Arv Z h224 b201 k201 .int (21 : Int32) [(.int (9 : Int32)), (.int (12 : Int32)), (.int (6 : Int32)), (.int (9 : Int32)), (.int (8 : Int32)), (.int (6 : Int32)), (.int (0 : Int32)), (.int (0 : Int32)), (.int (0 : Int32)), (.int (0 : Int32)), (.int (0 : Int32)), (.int (0 : Int32)), (.int (0 : Int32)), (.int (0 : Int32)), (.int (0 : Int32)), (.int (0 : Int32)), (.int (0 : Int32)), (.int (0 : Int32)), (.int (0 : Int32)), (.int (0 : Int32)), (.int (0 : Int32))] (.int (0 : Int32)) at Vw224
    obtain ⟨c227, Ac227, qc227, Sc227, Nc227, Hc227, Gc227⟩ := id Vw224
    obtain ⟨T228, h228, X228, e228, W228, st228⟩ := stI X224 hx hZ e224 Ac227 (j := (6 : Int32)) (inb_of Sc227 ⟨by decide, by decide⟩) (g := (mkF m 81 #[.val (.int p1), .val (.int p2), .val (.int p3), .val (.int p4), .val (.int ((p1 &&& (2147483647 : Int32)) % (21 : Int32))), .val (.int (p2.toInt16.toInt32)), .val (.ref r_1), .val .null, .unset, .unset, .unset, .unset] [(.int (3 : Int32)), (.int (6 : Int32)), (.ref b201), (.ref b201)])) rfl rfl (hb hby at_81)
    have K229 : Keep h0 h228 [] := K225.wr W228 (Or.inr sz_b201)
    have N230 := Fr.snoc X228 N226 g_b201
    have Vw228 := Arv.set Ac227 qc227 Sc227 Nc227 Hc227 Gc227 rfl W228 6 rfl (Nat.le_of_ble_eq_true rfl)
    change Arv Z h228 b201 k201 .int (21 : Int32) [(.int (9 : Int32)), (.int (12 : Int32)), (.int (6 : Int32)), (.int (9 : Int32)), (.int (8 : Int32)), (.int (6 : Int32)), (.int (3 : Int32)), (.int (0 : Int32)), (.int (0 : Int32)), (.int (0 : Int32)), (.int (0 : Int32)), (.int (0 : Int32)), (.int (0 : Int32)), (.int (0 : Int32)), (.int (0 : Int32)), (.int (0 : Int32)), (.int (0 : Int32)), (.int (0 : Int32)), (.int (0 : Int32)), (.int (0 : Int32)), (.int (0 : Int32))] (.int (0 : Int32)) at Vw228
    have pre231 : ∀ t, Steps p.tables e below (T228.setTop (mkF m 85 #[.val (.int p1), .val (.int p2), .val (.int p3), .val (.int p4), .val (.int ((p1 &&& (2147483647 : Int32)) % (21 : Int32))), .val (.int (p2.toInt16.toInt32)), .val (.ref r_1), .val .null, .unset, .unset, .unset, .unset] [(.int (7 : Int32)), (.ref b201), (.ref b201)])) t → Steps p.tables e below (s₁.setTop (entryFrame m #[(.int p1), (.int p2), (.int p3), (.int p4)] maxLocals)) t := fun t kt => by
      refine pre2 t ?_
      show Steps p.tables e below (T1.setTop (mkF m 25 #[.val (.int p1), .val (.int p2), .val (.int p3), .val (.int p4), .val (.int ((p1 &&& (2147483647 : Int32)) % (21 : Int32))), .val (.int (p2.toInt16.toInt32)), .val (.ref r_1), .unset, .unset, .unset, .unset, .unset] [(.int (p4 &&& (256 : Int32)))])) _
      refine XS.ifNo X1.here hx rfl (hb hby at_25) rfl ((if0 _ _).trans (feq hC).1) ?_
      show Steps p.tables e below (T1.setTop (mkF m 28 #[.val (.int p1), .val (.int p2), .val (.int p3), .val (.int p4), .val (.int ((p1 &&& (2147483647 : Int32)) % (21 : Int32))), .val (.int (p2.toInt16.toInt32)), .val (.ref r_1), .unset, .unset, .unset, .unset, .unset] [])) _
      refine XS.aconstNull X1.here hx rfl (hb hby at_28) ?_
      show Steps p.tables e below (T1.setTop (mkF m 29 #[.val (.int p1), .val (.int p2), .val (.int p3), .val (.int p4), .val (.int ((p1 &&& (2147483647 : Int32)) % (21 : Int32))), .val (.int (p2.toInt16.toInt32)), .val (.ref r_1), .unset, .unset, .unset, .unset, .unset] [.null])) _
      refine XS.goto X1.here hx rfl (pc0 := 29) (pc' := 41) rfl (hb hby at_29) (by decide) (by decide) ?_
      show Steps p.tables e below (T1.setTop (mkF m 41 #[.val (.int p1), .val (.int p2), .val (.int p3), .val (.int p4), .val (.int ((p1 &&& (2147483647 : Int32)) % (21 : Int32))), .val (.int (p2.toInt16.toInt32)), .val (.ref r_1), .unset, .unset, .unset, .unset, .unset] [.null])) _
      refine XS.astore X1.here hx rfl (hb hby at_41) rfl rfl (l' := #[.val (.int p1), .val (.int p2), .val (.int p3), .val (.int p4), .val (.int ((p1 &&& (2147483647 : Int32)) % (21 : Int32))), .val (.int (p2.toInt16.toInt32)), .val (.ref r_1), .val .null, .unset, .unset, .unset, .unset]) rfl ?_
      show Steps p.tables e below (T1.setTop (mkF m 43 #[.val (.int p1), .val (.int p2), .val (.int p3), .val (.int p4), .val (.int ((p1 &&& (2147483647 : Int32)) % (21 : Int32))), .val (.int (p2.toInt16.toInt32)), .val (.ref r_1), .val .null, .unset, .unset, .unset, .unset] [])) _
      refine XS.bipush X1.here hx rfl (hb hby at_43) ?_
      show Steps p.tables e below (T1.setTop (mkF m 45 #[.val (.int p1), .val (.int p2), .val (.int p3), .val (.int p4), .val (.int ((p1 &&& (2147483647 : Int32)) % (21 : Int32))), .val (.int (p2.toInt16.toInt32)), .val (.ref r_1), .val .null, .unset, .unset, .unset, .unset] [(.int (21 : Int32))])) _
      refine st201 _ ?_
      show Steps p.tables e below (T201.setTop (mkF m 47 #[.val (.int p1), .val (.int p2), .val (.int p3), .val (.int p4), .val (.int ((p1 &&& (2147483647 : Int32)) % (21 : Int32))), .val (.int (p2.toInt16.toInt32)), .val (.ref r_1), .val .null, .unset, .unset, .unset, .unset] [(.ref b201)])) _
      refine XS.dup X201.here hx rfl (hb hby at_47) rfl rfl ?_
      show Steps p.tables e below (T201.setTop (mkF m 48 #[.val (.int p1), .val (.int p2), .val (.int p3), .val (.int p4), .val (.int ((p1 &&& (2147483647 : Int32)) % (21 : Int32))), .val (.int (p2.toInt16.toInt32)), .val (.ref r_1), .val .null, .unset, .unset, .unset, .unset] [(.ref b201), (.ref b201)])) _
      refine XS.iconst X201.here hx rfl (hb hby at_48) ?_
      show Steps p.tables e below (T201.setTop (mkF m 49 #[.val (.int p1), .val (.int p2), .val (.int p3), .val (.int p4), .val (.int ((p1 &&& (2147483647 : Int32)) % (21 : Int32))), .val (.int (p2.toInt16.toInt32)), .val (.ref r_1), .val .null, .unset, .unset, .unset, .unset] [(.int (0 : Int32)), (.ref b201), (.ref b201)])) _
      refine XS.bipush X201.here hx rfl (hb hby at_49) ?_
      show Steps p.tables e below (T201.setTop (mkF m 51 #[.val (.int p1), .val (.int p2), .val (.int p3), .val (.int p4), .val (.int ((p1 &&& (2147483647 : Int32)) % (21 : Int32))), .val (.int (p2.toInt16.toInt32)), .val (.ref r_1), .val .null, .unset, .unset, .unset, .unset] [(.int (9 : Int32)), (.int (0 : Int32)), (.ref b201), (.ref b201)])) _
      refine st204 _ ?_
      show Steps p.tables e below (T204.setTop (mkF m 52 #[.val (.int p1), .val (.int p2), .val (.int p3), .val (.int p4), .val (.int ((p1 &&& (2147483647 : Int32)) % (21 : Int32))), .val (.int (p2.toInt16.toInt32)), .val (.ref r_1), .val .null, .unset, .unset, .unset, .unset] [(.ref b201)])) _
      refine XS.dup X204.here hx rfl (hb hby at_52) rfl rfl ?_
      show Steps p.tables e below (T204.setTop (mkF m 53 #[.val (.int p1), .val (.int p2), .val (.int p3), .val (.int p4), .val (.int ((p1 &&& (2147483647 : Int32)) % (21 : Int32))), .val (.int (p2.toInt16.toInt32)), .val (.ref r_1), .val .null, .unset, .unset, .unset, .unset] [(.ref b201), (.ref b201)])) _
      refine XS.iconst X204.here hx rfl (hb hby at_53) ?_
      show Steps p.tables e below (T204.setTop (mkF m 54 #[.val (.int p1), .val (.int p2), .val (.int p3), .val (.int p4), .val (.int ((p1 &&& (2147483647 : Int32)) % (21 : Int32))), .val (.int (p2.toInt16.toInt32)), .val (.ref r_1), .val .null, .unset, .unset, .unset, .unset] [(.int (1 : Int32)), (.ref b201), (.ref b201)])) _
      refine XS.bipush X204.here hx rfl (hb hby at_54) ?_
      show Steps p.tables e below (T204.setTop (mkF m 56 #[.val (.int p1), .val (.int p2), .val (.int p3), .val (.int p4), .val (.int ((p1 &&& (2147483647 : Int32)) % (21 : Int32))), .val (.int (p2.toInt16.toInt32)), .val (.ref r_1), .val .null, .unset, .unset, .unset, .unset] [(.int (12 : Int32)), (.int (1 : Int32)), (.ref b201), (.ref b201)])) _
      refine st208 _ ?_
      show Steps p.tables e below (T208.setTop (mkF m 57 #[.val (.int p1), .val (.int p2), .val (.int p3), .val (.int p4), .val (.int ((p1 &&& (2147483647 : Int32)) % (21 : Int32))), .val (.int (p2.toInt16.toInt32)), .val (.ref r_1), .val .null, .unset, .unset, .unset, .unset] [(.ref b201)])) _
      refine XS.dup X208.here hx rfl (hb hby at_57) rfl rfl ?_
      show Steps p.tables e below (T208.setTop (mkF m 58 #[.val (.int p1), .val (.int p2), .val (.int p3), .val (.int p4), .val (.int ((p1 &&& (2147483647 : Int32)) % (21 : Int32))), .val (.int (p2.toInt16.toInt32)), .val (.ref r_1), .val .null, .unset, .unset, .unset, .unset] [(.ref b201), (.ref b201)])) _
      refine XS.iconst X208.here hx rfl (hb hby at_58) ?_
      show Steps p.tables e below (T208.setTop (mkF m 59 #[.val (.int p1), .val (.int p2), .val (.int p3), .val (.int p4), .val (.int ((p1 &&& (2147483647 : Int32)) % (21 : Int32))), .val (.int (p2.toInt16.toInt32)), .val (.ref r_1), .val .null, .unset, .unset, .unset, .unset] [(.int (2 : Int32)), (.ref b201), (.ref b201)])) _
      refine XS.bipush X208.here hx rfl (hb hby at_59) ?_
      show Steps p.tables e below (T208.setTop (mkF m 61 #[.val (.int p1), .val (.int p2), .val (.int p3), .val (.int p4), .val (.int ((p1 &&& (2147483647 : Int32)) % (21 : Int32))), .val (.int (p2.toInt16.toInt32)), .val (.ref r_1), .val .null, .unset, .unset, .unset, .unset] [(.int (6 : Int32)), (.int (2 : Int32)), (.ref b201), (.ref b201)])) _
      refine st212 _ ?_
      show Steps p.tables e below (T212.setTop (mkF m 62 #[.val (.int p1), .val (.int p2), .val (.int p3), .val (.int p4), .val (.int ((p1 &&& (2147483647 : Int32)) % (21 : Int32))), .val (.int (p2.toInt16.toInt32)), .val (.ref r_1), .val .null, .unset, .unset, .unset, .unset] [(.ref b201)])) _
      refine XS.dup X212.here hx rfl (hb hby at_62) rfl rfl ?_
      show Steps p.tables e below (T212.setTop (mkF m 63 #[.val (.int p1), .val (.int p2), .val (.int p3), .val (.int p4), .val (.int ((p1 &&& (2147483647 : Int32)) % (21 : Int32))), .val (.int (p2.toInt16.toInt32)), .val (.ref r_1), .val .null, .unset, .unset, .unset, .unset] [(.ref b201), (.ref b201)])) _
      refine XS.iconst X212.here hx rfl (hb hby at_63) ?_
      show Steps p.tables e below (T212.setTop (mkF m 64 #[.val (.int p1), .val (.int p2), .val (.int p3), .val (.int p4), .val (.int ((p1 &&& (2147483647 : Int32)) % (21 : Int32))), .val (.int (p2.toInt16.toInt32)), .val (.ref r_1), .val .null, .unset, .unset, .unset, .unset] [(.int (3 : Int32)), (.ref b201), (.ref b201)])) _
      refine XS.bipush X212.here hx rfl (hb hby at_64) ?_
      show Steps p.tables e below (T212.setTop (mkF m 66 #[.val (.int p1), .val (.int p2), .val (.int p3), .val (.int p4), .val (.int ((p1 &&& (2147483647 : Int32)) % (21 : Int32))), .val (.int (p2.toInt16.toInt32)), .val (.ref r_1), .val .null, .unset, .unset, .unset, .unset] [(.int (9 : Int32)), (.int (3 : Int32)), (.ref b201), (.ref b201)])) _
      refine st216 _ ?_
      show Steps p.tables e below (T216.setTop (mkF m 67 #[.val (.int p1), .val (.int p2), .val (.int p3), .val (.int p4), .val (.int ((p1 &&& (2147483647 : Int32)) % (21 : Int32))), .val (.int (p2.toInt16.toInt32)), .val (.ref r_1), .val .null, .unset, .unset, .unset, .unset] [(.ref b201)])) _
      refine XS.dup X216.here hx rfl (hb hby at_67) rfl rfl ?_
      show Steps p.tables e below (T216.setTop (mkF m 68 #[.val (.int p1), .val (.int p2), .val (.int p3), .val (.int p4), .val (.int ((p1 &&& (2147483647 : Int32)) % (21 : Int32))), .val (.int (p2.toInt16.toInt32)), .val (.ref r_1), .val .null, .unset, .unset, .unset, .unset] [(.ref b201), (.ref b201)])) _
      refine XS.iconst X216.here hx rfl (hb hby at_68) ?_
      show Steps p.tables e below (T216.setTop (mkF m 69 #[.val (.int p1), .val (.int p2), .val (.int p3), .val (.int p4), .val (.int ((p1 &&& (2147483647 : Int32)) % (21 : Int32))), .val (.int (p2.toInt16.toInt32)), .val (.ref r_1), .val .null, .unset, .unset, .unset, .unset] [(.int (4 : Int32)), (.ref b201), (.ref b201)])) _
      refine XS.bipush X216.here hx rfl (hb hby at_69) ?_
      show Steps p.tables e below (T216.setTop (mkF m 71 #[.val (.int p1), .val (.int p2), .val (.int p3), .val (.int p4), .val (.int ((p1 &&& (2147483647 : Int32)) % (21 : Int32))), .val (.int (p2.toInt16.toInt32)), .val (.ref r_1), .val .null, .unset, .unset, .unset, .unset] [(.int (8 : Int32)), (.int (4 : Int32)), (.ref b201), (.ref b201)])) _
      refine st220 _ ?_
      show Steps p.tables e below (T220.setTop (mkF m 72 #[.val (.int p1), .val (.int p2), .val (.int p3), .val (.int p4), .val (.int ((p1 &&& (2147483647 : Int32)) % (21 : Int32))), .val (.int (p2.toInt16.toInt32)), .val (.ref r_1), .val .null, .unset, .unset, .unset, .unset] [(.ref b201)])) _
      refine XS.dup X220.here hx rfl (hb hby at_72) rfl rfl ?_
      show Steps p.tables e below (T220.setTop (mkF m 73 #[.val (.int p1), .val (.int p2), .val (.int p3), .val (.int p4), .val (.int ((p1 &&& (2147483647 : Int32)) % (21 : Int32))), .val (.int (p2.toInt16.toInt32)), .val (.ref r_1), .val .null, .unset, .unset, .unset, .unset] [(.ref b201), (.ref b201)])) _
      refine XS.iconst X220.here hx rfl (hb hby at_73) ?_
      show Steps p.tables e below (T220.setTop (mkF m 74 #[.val (.int p1), .val (.int p2), .val (.int p3), .val (.int p4), .val (.int ((p1 &&& (2147483647 : Int32)) % (21 : Int32))), .val (.int (p2.toInt16.toInt32)), .val (.ref r_1), .val .null, .unset, .unset, .unset, .unset] [(.int (5 : Int32)), (.ref b201), (.ref b201)])) _
      refine XS.bipush X220.here hx rfl (hb hby at_74) ?_
      show Steps p.tables e below (T220.setTop (mkF m 76 #[.val (.int p1), .val (.int p2), .val (.int p3), .val (.int p4), .val (.int ((p1 &&& (2147483647 : Int32)) % (21 : Int32))), .val (.int (p2.toInt16.toInt32)), .val (.ref r_1), .val .null, .unset, .unset, .unset, .unset] [(.int (6 : Int32)), (.int (5 : Int32)), (.ref b201), (.ref b201)])) _
      refine st224 _ ?_
      show Steps p.tables e below (T224.setTop (mkF m 77 #[.val (.int p1), .val (.int p2), .val (.int p3), .val (.int p4), .val (.int ((p1 &&& (2147483647 : Int32)) % (21 : Int32))), .val (.int (p2.toInt16.toInt32)), .val (.ref r_1), .val .null, .unset, .unset, .unset, .unset] [(.ref b201)])) _
      refine XS.dup X224.here hx rfl (hb hby at_77) rfl rfl ?_
      show Steps p.tables e below (T224.setTop (mkF m 78 #[.val (.int p1), .val (.int p2), .val (.int p3), .val (.int p4), .val (.int ((p1 &&& (2147483647 : Int32)) % (21 : Int32))), .val (.int (p2.toInt16.toInt32)), .val (.ref r_1), .val .null, .unset, .unset, .unset, .unset] [(.ref b201), (.ref b201)])) _
      refine XS.bipush X224.here hx rfl (hb hby at_78) ?_
      show Steps p.tables e below (T224.setTop (mkF m 80 #[.val (.int p1), .val (.int p2), .val (.int p3), .val (.int p4), .val (.int ((p1 &&& (2147483647 : Int32)) % (21 : Int32))), .val (.int (p2.toInt16.toInt32)), .val (.ref r_1), .val .null, .unset, .unset, .unset, .unset] [(.int (6 : Int32)), (.ref b201), (.ref b201)])) _
      refine XS.iconst X224.here hx rfl (hb hby at_80) ?_
      show Steps p.tables e below (T224.setTop (mkF m 81 #[.val (.int p1), .val (.int p2), .val (.int p3), .val (.int p4), .val (.int ((p1 &&& (2147483647 : Int32)) % (21 : Int32))), .val (.int (p2.toInt16.toInt32)), .val (.ref r_1), .val .null, .unset, .unset, .unset, .unset] [(.int (3 : Int32)), (.int (6 : Int32)), (.ref b201), (.ref b201)])) _
      refine st228 _ ?_
      show Steps p.tables e below (T228.setTop (mkF m 82 #[.val (.int p1), .val (.int p2), .val (.int p3), .val (.int p4), .val (.int ((p1 &&& (2147483647 : Int32)) % (21 : Int32))), .val (.int (p2.toInt16.toInt32)), .val (.ref r_1), .val .null, .unset, .unset, .unset, .unset] [(.ref b201)])) _
      refine XS.dup X228.here hx rfl (hb hby at_82) rfl rfl ?_
      show Steps p.tables e below (T228.setTop (mkF m 83 #[.val (.int p1), .val (.int p2), .val (.int p3), .val (.int p4), .val (.int ((p1 &&& (2147483647 : Int32)) % (21 : Int32))), .val (.int (p2.toInt16.toInt32)), .val (.ref r_1), .val .null, .unset, .unset, .unset, .unset] [(.ref b201), (.ref b201)])) _
      refine XS.bipush X228.here hx rfl (hb hby at_83) ?_
      exact kt
    obtain ⟨c232, Ac232, qc232, Sc232, Nc232, Hc232, Gc232⟩ := id Vw228
    obtain ⟨T233, h233, X233, e233, W233, st233⟩ := stI X228 hx hZ e228 Ac232 (j := (7 : Int32)) (inb_of Sc232 ⟨by decide, by decide⟩) (g := (mkF m 87 #[.val (.int p1), .val (.int p2), .val (.int p3), .val (.int p4), .val (.int ((p1 &&& (2147483647 : Int32)) % (21 : Int32))), .val (.int (p2.toInt16.toInt32)), .val (.ref r_1), .val .null, .unset, .unset, .unset, .unset] [(.int (6 : Int32)), (.int (7 : Int32)), (.ref b201), (.ref b201)])) rfl rfl (hb hby at_87)
    have K234 : Keep h0 h233 [] := K229.wr W233 (Or.inr sz_b201)
    have N235 := Fr.snoc X233 N230 g_b201
    have Vw233 := Arv.set Ac232 qc232 Sc232 Nc232 Hc232 Gc232 rfl W233 7 rfl (Nat.le_of_ble_eq_true rfl)
    change Arv Z h233 b201 k201 .int (21 : Int32) [(.int (9 : Int32)), (.int (12 : Int32)), (.int (6 : Int32)), (.int (9 : Int32)), (.int (8 : Int32)), (.int (6 : Int32)), (.int (3 : Int32)), (.int (6 : Int32)), (.int (0 : Int32)), (.int (0 : Int32)), (.int (0 : Int32)), (.int (0 : Int32)), (.int (0 : Int32)), (.int (0 : Int32)), (.int (0 : Int32)), (.int (0 : Int32)), (.int (0 : Int32)), (.int (0 : Int32)), (.int (0 : Int32)), (.int (0 : Int32)), (.int (0 : Int32))] (.int (0 : Int32)) at Vw233
    obtain ⟨c236, Ac236, qc236, Sc236, Nc236, Hc236, Gc236⟩ := id Vw233
    obtain ⟨T237, h237, X237, e237, W237, st237⟩ := stI X233 hx hZ e233 Ac236 (j := (8 : Int32)) (inb_of Sc236 ⟨by decide, by decide⟩) (g := (mkF m 92 #[.val (.int p1), .val (.int p2), .val (.int p3), .val (.int p4), .val (.int ((p1 &&& (2147483647 : Int32)) % (21 : Int32))), .val (.int (p2.toInt16.toInt32)), .val (.ref r_1), .val .null, .unset, .unset, .unset, .unset] [(.int (4 : Int32)), (.int (8 : Int32)), (.ref b201), (.ref b201)])) rfl rfl (hb hby at_92)
    have K238 : Keep h0 h237 [] := K234.wr W237 (Or.inr sz_b201)
    have N239 := Fr.snoc X237 N235 g_b201
    have Vw237 := Arv.set Ac236 qc236 Sc236 Nc236 Hc236 Gc236 rfl W237 8 rfl (Nat.le_of_ble_eq_true rfl)
    change Arv Z h237 b201 k201 .int (21 : Int32) [(.int (9 : Int32)), (.int (12 : Int32)), (.int (6 : Int32)), (.int (9 : Int32)), (.int (8 : Int32)), (.int (6 : Int32)), (.int (3 : Int32)), (.int (6 : Int32)), (.int (4 : Int32)), (.int (0 : Int32)), (.int (0 : Int32)), (.int (0 : Int32)), (.int (0 : Int32)), (.int (0 : Int32)), (.int (0 : Int32)), (.int (0 : Int32)), (.int (0 : Int32)), (.int (0 : Int32)), (.int (0 : Int32)), (.int (0 : Int32)), (.int (0 : Int32))] (.int (0 : Int32)) at Vw237
    obtain ⟨c240, Ac240, qc240, Sc240, Nc240, Hc240, Gc240⟩ := id Vw237
    obtain ⟨T241, h241, X241, e241, W241, st241⟩ := stI X237 hx hZ e237 Ac240 (j := (9 : Int32)) (inb_of Sc240 ⟨by decide, by decide⟩) (g := (mkF m 97 #[.val (.int p1), .val (.int p2), .val (.int p3), .val (.int p4), .val (.int ((p1 &&& (2147483647 : Int32)) % (21 : Int32))), .val (.int (p2.toInt16.toInt32)), .val (.ref r_1), .val .null, .unset, .unset, .unset, .unset] [(.int (4 : Int32)), (.int (9 : Int32)), (.ref b201), (.ref b201)])) rfl rfl (hb hby at_97)
    have K242 : Keep h0 h241 [] := K238.wr W241 (Or.inr sz_b201)
    have N243 := Fr.snoc X241 N239 g_b201
    have Vw241 := Arv.set Ac240 qc240 Sc240 Nc240 Hc240 Gc240 rfl W241 9 rfl (Nat.le_of_ble_eq_true rfl)
    change Arv Z h241 b201 k201 .int (21 : Int32) [(.int (9 : Int32)), (.int (12 : Int32)), (.int (6 : Int32)), (.int (9 : Int32)), (.int (8 : Int32)), (.int (6 : Int32)), (.int (3 : Int32)), (.int (6 : Int32)), (.int (4 : Int32)), (.int (4 : Int32)), (.int (0 : Int32)), (.int (0 : Int32)), (.int (0 : Int32)), (.int (0 : Int32)), (.int (0 : Int32)), (.int (0 : Int32)), (.int (0 : Int32)), (.int (0 : Int32)), (.int (0 : Int32)), (.int (0 : Int32)), (.int (0 : Int32))] (.int (0 : Int32)) at Vw241
    obtain ⟨c244, Ac244, qc244, Sc244, Nc244, Hc244, Gc244⟩ := id Vw241
    obtain ⟨T245, h245, X245, e245, W245, st245⟩ := stI X241 hx hZ e241 Ac244 (j := (10 : Int32)) (inb_of Sc244 ⟨by decide, by decide⟩) (g := (mkF m 102 #[.val (.int p1), .val (.int p2), .val (.int p3), .val (.int p4), .val (.int ((p1 &&& (2147483647 : Int32)) % (21 : Int32))), .val (.int (p2.toInt16.toInt32)), .val (.ref r_1), .val .null, .unset, .unset, .unset, .unset] [(.int (4 : Int32)), (.int (10 : Int32)), (.ref b201), (.ref b201)])) rfl rfl (hb hby at_102)
    have K246 : Keep h0 h245 [] := K242.wr W245 (Or.inr sz_b201)
    have N247 := Fr.snoc X245 N243 g_b201
    have Vw245 := Arv.set Ac244 qc244 Sc244 Nc244 Hc244 Gc244 rfl W245 10 rfl (Nat.le_of_ble_eq_true rfl)
    change Arv Z h245 b201 k201 .int (21 : Int32) [(.int (9 : Int32)), (.int (12 : Int32)), (.int (6 : Int32)), (.int (9 : Int32)), (.int (8 : Int32)), (.int (6 : Int32)), (.int (3 : Int32)), (.int (6 : Int32)), (.int (4 : Int32)), (.int (4 : Int32)), (.int (4 : Int32)), (.int (0 : Int32)), (.int (0 : Int32)), (.int (0 : Int32)), (.int (0 : Int32)), (.int (0 : Int32)), (.int (0 : Int32)), (.int (0 : Int32)), (.int (0 : Int32)), (.int (0 : Int32)), (.int (0 : Int32))] (.int (0 : Int32)) at Vw245
    obtain ⟨c248, Ac248, qc248, Sc248, Nc248, Hc248, Gc248⟩ := id Vw245
    obtain ⟨T249, h249, X249, e249, W249, st249⟩ := stI X245 hx hZ e245 Ac248 (j := (11 : Int32)) (inb_of Sc248 ⟨by decide, by decide⟩) (g := (mkF m 107 #[.val (.int p1), .val (.int p2), .val (.int p3), .val (.int p4), .val (.int ((p1 &&& (2147483647 : Int32)) % (21 : Int32))), .val (.int (p2.toInt16.toInt32)), .val (.ref r_1), .val .null, .unset, .unset, .unset, .unset] [(.int (3 : Int32)), (.int (11 : Int32)), (.ref b201), (.ref b201)])) rfl rfl (hb hby at_107)
    have K250 : Keep h0 h249 [] := K246.wr W249 (Or.inr sz_b201)
    have N251 := Fr.snoc X249 N247 g_b201
    have Vw249 := Arv.set Ac248 qc248 Sc248 Nc248 Hc248 Gc248 rfl W249 11 rfl (Nat.le_of_ble_eq_true rfl)
    change Arv Z h249 b201 k201 .int (21 : Int32) [(.int (9 : Int32)), (.int (12 : Int32)), (.int (6 : Int32)), (.int (9 : Int32)), (.int (8 : Int32)), (.int (6 : Int32)), (.int (3 : Int32)), (.int (6 : Int32)), (.int (4 : Int32)), (.int (4 : Int32)), (.int (4 : Int32)), (.int (3 : Int32)), (.int (0 : Int32)), (.int (0 : Int32)), (.int (0 : Int32)), (.int (0 : Int32)), (.int (0 : Int32)), (.int (0 : Int32)), (.int (0 : Int32)), (.int (0 : Int32)), (.int (0 : Int32))] (.int (0 : Int32)) at Vw249
    obtain ⟨c252, Ac252, qc252, Sc252, Nc252, Hc252, Gc252⟩ := id Vw249
    obtain ⟨T253, h253, X253, e253, W253, st253⟩ := stI X249 hx hZ e249 Ac252 (j := (12 : Int32)) (inb_of Sc252 ⟨by decide, by decide⟩) (g := (mkF m 112 #[.val (.int p1), .val (.int p2), .val (.int p3), .val (.int p4), .val (.int ((p1 &&& (2147483647 : Int32)) % (21 : Int32))), .val (.int (p2.toInt16.toInt32)), .val (.ref r_1), .val .null, .unset, .unset, .unset, .unset] [(.int (5 : Int32)), (.int (12 : Int32)), (.ref b201), (.ref b201)])) rfl rfl (hb hby at_112)
    have K254 : Keep h0 h253 [] := K250.wr W253 (Or.inr sz_b201)
    have N255 := Fr.snoc X253 N251 g_b201
    have Vw253 := Arv.set Ac252 qc252 Sc252 Nc252 Hc252 Gc252 rfl W253 12 rfl (Nat.le_of_ble_eq_true rfl)
    change Arv Z h253 b201 k201 .int (21 : Int32) [(.int (9 : Int32)), (.int (12 : Int32)), (.int (6 : Int32)), (.int (9 : Int32)), (.int (8 : Int32)), (.int (6 : Int32)), (.int (3 : Int32)), (.int (6 : Int32)), (.int (4 : Int32)), (.int (4 : Int32)), (.int (4 : Int32)), (.int (3 : Int32)), (.int (5 : Int32)), (.int (0 : Int32)), (.int (0 : Int32)), (.int (0 : Int32)), (.int (0 : Int32)), (.int (0 : Int32)), (.int (0 : Int32)), (.int (0 : Int32)), (.int (0 : Int32))] (.int (0 : Int32)) at Vw253
    obtain ⟨c256, Ac256, qc256, Sc256, Nc256, Hc256, Gc256⟩ := id Vw253
    obtain ⟨T257, h257, X257, e257, W257, st257⟩ := stI X253 hx hZ e253 Ac256 (j := (13 : Int32)) (inb_of Sc256 ⟨by decide, by decide⟩) (g := (mkF m 117 #[.val (.int p1), .val (.int p2), .val (.int p3), .val (.int p4), .val (.int ((p1 &&& (2147483647 : Int32)) % (21 : Int32))), .val (.int (p2.toInt16.toInt32)), .val (.ref r_1), .val .null, .unset, .unset, .unset, .unset] [(.int (2 : Int32)), (.int (13 : Int32)), (.ref b201), (.ref b201)])) rfl rfl (hb hby at_117)
    have K258 : Keep h0 h257 [] := K254.wr W257 (Or.inr sz_b201)
    have N259 := Fr.snoc X257 N255 g_b201
    have Vw257 := Arv.set Ac256 qc256 Sc256 Nc256 Hc256 Gc256 rfl W257 13 rfl (Nat.le_of_ble_eq_true rfl)
    change Arv Z h257 b201 k201 .int (21 : Int32) [(.int (9 : Int32)), (.int (12 : Int32)), (.int (6 : Int32)), (.int (9 : Int32)), (.int (8 : Int32)), (.int (6 : Int32)), (.int (3 : Int32)), (.int (6 : Int32)), (.int (4 : Int32)), (.int (4 : Int32)), (.int (4 : Int32)), (.int (3 : Int32)), (.int (5 : Int32)), (.int (2 : Int32)), (.int (0 : Int32)), (.int (0 : Int32)), (.int (0 : Int32)), (.int (0 : Int32)), (.int (0 : Int32)), (.int (0 : Int32)), (.int (0 : Int32))] (.int (0 : Int32)) at Vw257
    obtain ⟨c260, Ac260, qc260, Sc260, Nc260, Hc260, Gc260⟩ := id Vw257
    obtain ⟨T261, h261, X261, e261, W261, st261⟩ := stI X257 hx hZ e257 Ac260 (j := (14 : Int32)) (inb_of Sc260 ⟨by decide, by decide⟩) (g := (mkF m 122 #[.val (.int p1), .val (.int p2), .val (.int p3), .val (.int p4), .val (.int ((p1 &&& (2147483647 : Int32)) % (21 : Int32))), .val (.int (p2.toInt16.toInt32)), .val (.ref r_1), .val .null, .unset, .unset, .unset, .unset] [(.int (4 : Int32)), (.int (14 : Int32)), (.ref b201), (.ref b201)])) rfl rfl (hb hby at_122)
    have K262 : Keep h0 h261 [] := K258.wr W261 (Or.inr sz_b201)
    have N263 := Fr.snoc X261 N259 g_b201
    have Vw261 := Arv.set Ac260 qc260 Sc260 Nc260 Hc260 Gc260 rfl W261 14 rfl (Nat.le_of_ble_eq_true rfl)
    change Arv Z h261 b201 k201 .int (21 : Int32) [(.int (9 : Int32)), (.int (12 : Int32)), (.int (6 : Int32)), (.int (9 : Int32)), (.int (8 : Int32)), (.int (6 : Int32)), (.int (3 : Int32)), (.int (6 : Int32)), (.int (4 : Int32)), (.int (4 : Int32)), (.int (4 : Int32)), (.int (3 : Int32)), (.int (5 : Int32)), (.int (2 : Int32)), (.int (4 : Int32)), (.int (0 : Int32)), (.int (0 : Int32)), (.int (0 : Int32)), (.int (0 : Int32)), (.int (0 : Int32)), (.int (0 : Int32))] (.int (0 : Int32)) at Vw261
    obtain ⟨c264, Ac264, qc264, Sc264, Nc264, Hc264, Gc264⟩ := id Vw261
    obtain ⟨T265, h265, X265, e265, W265, st265⟩ := stI X261 hx hZ e261 Ac264 (j := (15 : Int32)) (inb_of Sc264 ⟨by decide, by decide⟩) (g := (mkF m 127 #[.val (.int p1), .val (.int p2), .val (.int p3), .val (.int p4), .val (.int ((p1 &&& (2147483647 : Int32)) % (21 : Int32))), .val (.int (p2.toInt16.toInt32)), .val (.ref r_1), .val .null, .unset, .unset, .unset, .unset] [(.int (4 : Int32)), (.int (15 : Int32)), (.ref b201), (.ref b201)])) rfl rfl (hb hby at_127)
    have K266 : Keep h0 h265 [] := K262.wr W265 (Or.inr sz_b201)
    have N267 := Fr.snoc X265 N263 g_b201
    have Vw265 := Arv.set Ac264 qc264 Sc264 Nc264 Hc264 Gc264 rfl W265 15 rfl (Nat.le_of_ble_eq_true rfl)
    change Arv Z h265 b201 k201 .int (21 : Int32) [(.int (9 : Int32)), (.int (12 : Int32)), (.int (6 : Int32)), (.int (9 : Int32)), (.int (8 : Int32)), (.int (6 : Int32)), (.int (3 : Int32)), (.int (6 : Int32)), (.int (4 : Int32)), (.int (4 : Int32)), (.int (4 : Int32)), (.int (3 : Int32)), (.int (5 : Int32)), (.int (2 : Int32)), (.int (4 : Int32)), (.int (4 : Int32)), (.int (0 : Int32)), (.int (0 : Int32)), (.int (0 : Int32)), (.int (0 : Int32)), (.int (0 : Int32))] (.int (0 : Int32)) at Vw265
    have pre268 : ∀ t, Steps p.tables e below (T265.setTop (mkF m 131 #[.val (.int p1), .val (.int p2), .val (.int p3), .val (.int p4), .val (.int ((p1 &&& (2147483647 : Int32)) % (21 : Int32))), .val (.int (p2.toInt16.toInt32)), .val (.ref r_1), .val .null, .unset, .unset, .unset, .unset] [(.int (16 : Int32)), (.ref b201), (.ref b201)])) t → Steps p.tables e below (s₁.setTop (entryFrame m #[(.int p1), (.int p2), (.int p3), (.int p4)] maxLocals)) t := fun t kt => by
      refine pre231 t ?_
      show Steps p.tables e below (T228.setTop (mkF m 85 #[.val (.int p1), .val (.int p2), .val (.int p3), .val (.int p4), .val (.int ((p1 &&& (2147483647 : Int32)) % (21 : Int32))), .val (.int (p2.toInt16.toInt32)), .val (.ref r_1), .val .null, .unset, .unset, .unset, .unset] [(.int (7 : Int32)), (.ref b201), (.ref b201)])) _
      refine XS.bipush X228.here hx rfl (hb hby at_85) ?_
      show Steps p.tables e below (T228.setTop (mkF m 87 #[.val (.int p1), .val (.int p2), .val (.int p3), .val (.int p4), .val (.int ((p1 &&& (2147483647 : Int32)) % (21 : Int32))), .val (.int (p2.toInt16.toInt32)), .val (.ref r_1), .val .null, .unset, .unset, .unset, .unset] [(.int (6 : Int32)), (.int (7 : Int32)), (.ref b201), (.ref b201)])) _
      refine st233 _ ?_
      show Steps p.tables e below (T233.setTop (mkF m 88 #[.val (.int p1), .val (.int p2), .val (.int p3), .val (.int p4), .val (.int ((p1 &&& (2147483647 : Int32)) % (21 : Int32))), .val (.int (p2.toInt16.toInt32)), .val (.ref r_1), .val .null, .unset, .unset, .unset, .unset] [(.ref b201)])) _
      refine XS.dup X233.here hx rfl (hb hby at_88) rfl rfl ?_
      show Steps p.tables e below (T233.setTop (mkF m 89 #[.val (.int p1), .val (.int p2), .val (.int p3), .val (.int p4), .val (.int ((p1 &&& (2147483647 : Int32)) % (21 : Int32))), .val (.int (p2.toInt16.toInt32)), .val (.ref r_1), .val .null, .unset, .unset, .unset, .unset] [(.ref b201), (.ref b201)])) _
      refine XS.bipush X233.here hx rfl (hb hby at_89) ?_
      show Steps p.tables e below (T233.setTop (mkF m 91 #[.val (.int p1), .val (.int p2), .val (.int p3), .val (.int p4), .val (.int ((p1 &&& (2147483647 : Int32)) % (21 : Int32))), .val (.int (p2.toInt16.toInt32)), .val (.ref r_1), .val .null, .unset, .unset, .unset, .unset] [(.int (8 : Int32)), (.ref b201), (.ref b201)])) _
      refine XS.iconst X233.here hx rfl (hb hby at_91) ?_
      show Steps p.tables e below (T233.setTop (mkF m 92 #[.val (.int p1), .val (.int p2), .val (.int p3), .val (.int p4), .val (.int ((p1 &&& (2147483647 : Int32)) % (21 : Int32))), .val (.int (p2.toInt16.toInt32)), .val (.ref r_1), .val .null, .unset, .unset, .unset, .unset] [(.int (4 : Int32)), (.int (8 : Int32)), (.ref b201), (.ref b201)])) _
      refine st237 _ ?_
      show Steps p.tables e below (T237.setTop (mkF m 93 #[.val (.int p1), .val (.int p2), .val (.int p3), .val (.int p4), .val (.int ((p1 &&& (2147483647 : Int32)) % (21 : Int32))), .val (.int (p2.toInt16.toInt32)), .val (.ref r_1), .val .null, .unset, .unset, .unset, .unset] [(.ref b201)])) _
      refine XS.dup X237.here hx rfl (hb hby at_93) rfl rfl ?_
      show Steps p.tables e below (T237.setTop (mkF m 94 #[.val (.int p1), .val (.int p2), .val (.int p3), .val (.int p4), .val (.int ((p1 &&& (2147483647 : Int32)) % (21 : Int32))), .val (.int (p2.toInt16.toInt32)), .val (.ref r_1), .val .null, .unset, .unset, .unset, .unset] [(.ref b201), (.ref b201)])) _
      refine XS.bipush X237.here hx rfl (hb hby at_94) ?_
      show Steps p.tables e below (T237.setTop (mkF m 96 #[.val (.int p1), .val (.int p2), .val (.int p3), .val (.int p4), .val (.int ((p1 &&& (2147483647 : Int32)) % (21 : Int32))), .val (.int (p2.toInt16.toInt32)), .val (.ref r_1), .val .null, .unset, .unset, .unset, .unset] [(.int (9 : Int32)), (.ref b201), (.ref b201)])) _
      refine XS.iconst X237.here hx rfl (hb hby at_96) ?_
      show Steps p.tables e below (T237.setTop (mkF m 97 #[.val (.int p1), .val (.int p2), .val (.int p3), .val (.int p4), .val (.int ((p1 &&& (2147483647 : Int32)) % (21 : Int32))), .val (.int (p2.toInt16.toInt32)), .val (.ref r_1), .val .null, .unset, .unset, .unset, .unset] [(.int (4 : Int32)), (.int (9 : Int32)), (.ref b201), (.ref b201)])) _
      refine st241 _ ?_
      show Steps p.tables e below (T241.setTop (mkF m 98 #[.val (.int p1), .val (.int p2), .val (.int p3), .val (.int p4), .val (.int ((p1 &&& (2147483647 : Int32)) % (21 : Int32))), .val (.int (p2.toInt16.toInt32)), .val (.ref r_1), .val .null, .unset, .unset, .unset, .unset] [(.ref b201)])) _
      refine XS.dup X241.here hx rfl (hb hby at_98) rfl rfl ?_
      show Steps p.tables e below (T241.setTop (mkF m 99 #[.val (.int p1), .val (.int p2), .val (.int p3), .val (.int p4), .val (.int ((p1 &&& (2147483647 : Int32)) % (21 : Int32))), .val (.int (p2.toInt16.toInt32)), .val (.ref r_1), .val .null, .unset, .unset, .unset, .unset] [(.ref b201), (.ref b201)])) _
      refine XS.bipush X241.here hx rfl (hb hby at_99) ?_
      show Steps p.tables e below (T241.setTop (mkF m 101 #[.val (.int p1), .val (.int p2), .val (.int p3), .val (.int p4), .val (.int ((p1 &&& (2147483647 : Int32)) % (21 : Int32))), .val (.int (p2.toInt16.toInt32)), .val (.ref r_1), .val .null, .unset, .unset, .unset, .unset] [(.int (10 : Int32)), (.ref b201), (.ref b201)])) _
      refine XS.iconst X241.here hx rfl (hb hby at_101) ?_
      show Steps p.tables e below (T241.setTop (mkF m 102 #[.val (.int p1), .val (.int p2), .val (.int p3), .val (.int p4), .val (.int ((p1 &&& (2147483647 : Int32)) % (21 : Int32))), .val (.int (p2.toInt16.toInt32)), .val (.ref r_1), .val .null, .unset, .unset, .unset, .unset] [(.int (4 : Int32)), (.int (10 : Int32)), (.ref b201), (.ref b201)])) _
      refine st245 _ ?_
      show Steps p.tables e below (T245.setTop (mkF m 103 #[.val (.int p1), .val (.int p2), .val (.int p3), .val (.int p4), .val (.int ((p1 &&& (2147483647 : Int32)) % (21 : Int32))), .val (.int (p2.toInt16.toInt32)), .val (.ref r_1), .val .null, .unset, .unset, .unset, .unset] [(.ref b201)])) _
      refine XS.dup X245.here hx rfl (hb hby at_103) rfl rfl ?_
      show Steps p.tables e below (T245.setTop (mkF m 104 #[.val (.int p1), .val (.int p2), .val (.int p3), .val (.int p4), .val (.int ((p1 &&& (2147483647 : Int32)) % (21 : Int32))), .val (.int (p2.toInt16.toInt32)), .val (.ref r_1), .val .null, .unset, .unset, .unset, .unset] [(.ref b201), (.ref b201)])) _
      refine XS.bipush X245.here hx rfl (hb hby at_104) ?_
      show Steps p.tables e below (T245.setTop (mkF m 106 #[.val (.int p1), .val (.int p2), .val (.int p3), .val (.int p4), .val (.int ((p1 &&& (2147483647 : Int32)) % (21 : Int32))), .val (.int (p2.toInt16.toInt32)), .val (.ref r_1), .val .null, .unset, .unset, .unset, .unset] [(.int (11 : Int32)), (.ref b201), (.ref b201)])) _
      refine XS.iconst X245.here hx rfl (hb hby at_106) ?_
      show Steps p.tables e below (T245.setTop (mkF m 107 #[.val (.int p1), .val (.int p2), .val (.int p3), .val (.int p4), .val (.int ((p1 &&& (2147483647 : Int32)) % (21 : Int32))), .val (.int (p2.toInt16.toInt32)), .val (.ref r_1), .val .null, .unset, .unset, .unset, .unset] [(.int (3 : Int32)), (.int (11 : Int32)), (.ref b201), (.ref b201)])) _
      refine st249 _ ?_
      show Steps p.tables e below (T249.setTop (mkF m 108 #[.val (.int p1), .val (.int p2), .val (.int p3), .val (.int p4), .val (.int ((p1 &&& (2147483647 : Int32)) % (21 : Int32))), .val (.int (p2.toInt16.toInt32)), .val (.ref r_1), .val .null, .unset, .unset, .unset, .unset] [(.ref b201)])) _
      refine XS.dup X249.here hx rfl (hb hby at_108) rfl rfl ?_
      show Steps p.tables e below (T249.setTop (mkF m 109 #[.val (.int p1), .val (.int p2), .val (.int p3), .val (.int p4), .val (.int ((p1 &&& (2147483647 : Int32)) % (21 : Int32))), .val (.int (p2.toInt16.toInt32)), .val (.ref r_1), .val .null, .unset, .unset, .unset, .unset] [(.ref b201), (.ref b201)])) _
      refine XS.bipush X249.here hx rfl (hb hby at_109) ?_
      show Steps p.tables e below (T249.setTop (mkF m 111 #[.val (.int p1), .val (.int p2), .val (.int p3), .val (.int p4), .val (.int ((p1 &&& (2147483647 : Int32)) % (21 : Int32))), .val (.int (p2.toInt16.toInt32)), .val (.ref r_1), .val .null, .unset, .unset, .unset, .unset] [(.int (12 : Int32)), (.ref b201), (.ref b201)])) _
      refine XS.iconst X249.here hx rfl (hb hby at_111) ?_
      show Steps p.tables e below (T249.setTop (mkF m 112 #[.val (.int p1), .val (.int p2), .val (.int p3), .val (.int p4), .val (.int ((p1 &&& (2147483647 : Int32)) % (21 : Int32))), .val (.int (p2.toInt16.toInt32)), .val (.ref r_1), .val .null, .unset, .unset, .unset, .unset] [(.int (5 : Int32)), (.int (12 : Int32)), (.ref b201), (.ref b201)])) _
      refine st253 _ ?_
      show Steps p.tables e below (T253.setTop (mkF m 113 #[.val (.int p1), .val (.int p2), .val (.int p3), .val (.int p4), .val (.int ((p1 &&& (2147483647 : Int32)) % (21 : Int32))), .val (.int (p2.toInt16.toInt32)), .val (.ref r_1), .val .null, .unset, .unset, .unset, .unset] [(.ref b201)])) _
      refine XS.dup X253.here hx rfl (hb hby at_113) rfl rfl ?_
      show Steps p.tables e below (T253.setTop (mkF m 114 #[.val (.int p1), .val (.int p2), .val (.int p3), .val (.int p4), .val (.int ((p1 &&& (2147483647 : Int32)) % (21 : Int32))), .val (.int (p2.toInt16.toInt32)), .val (.ref r_1), .val .null, .unset, .unset, .unset, .unset] [(.ref b201), (.ref b201)])) _
      refine XS.bipush X253.here hx rfl (hb hby at_114) ?_
      show Steps p.tables e below (T253.setTop (mkF m 116 #[.val (.int p1), .val (.int p2), .val (.int p3), .val (.int p4), .val (.int ((p1 &&& (2147483647 : Int32)) % (21 : Int32))), .val (.int (p2.toInt16.toInt32)), .val (.ref r_1), .val .null, .unset, .unset, .unset, .unset] [(.int (13 : Int32)), (.ref b201), (.ref b201)])) _
      refine XS.iconst X253.here hx rfl (hb hby at_116) ?_
      show Steps p.tables e below (T253.setTop (mkF m 117 #[.val (.int p1), .val (.int p2), .val (.int p3), .val (.int p4), .val (.int ((p1 &&& (2147483647 : Int32)) % (21 : Int32))), .val (.int (p2.toInt16.toInt32)), .val (.ref r_1), .val .null, .unset, .unset, .unset, .unset] [(.int (2 : Int32)), (.int (13 : Int32)), (.ref b201), (.ref b201)])) _
      refine st257 _ ?_
      show Steps p.tables e below (T257.setTop (mkF m 118 #[.val (.int p1), .val (.int p2), .val (.int p3), .val (.int p4), .val (.int ((p1 &&& (2147483647 : Int32)) % (21 : Int32))), .val (.int (p2.toInt16.toInt32)), .val (.ref r_1), .val .null, .unset, .unset, .unset, .unset] [(.ref b201)])) _
      refine XS.dup X257.here hx rfl (hb hby at_118) rfl rfl ?_
      show Steps p.tables e below (T257.setTop (mkF m 119 #[.val (.int p1), .val (.int p2), .val (.int p3), .val (.int p4), .val (.int ((p1 &&& (2147483647 : Int32)) % (21 : Int32))), .val (.int (p2.toInt16.toInt32)), .val (.ref r_1), .val .null, .unset, .unset, .unset, .unset] [(.ref b201), (.ref b201)])) _
      refine XS.bipush X257.here hx rfl (hb hby at_119) ?_
      show Steps p.tables e below (T257.setTop (mkF m 121 #[.val (.int p1), .val (.int p2), .val (.int p3), .val (.int p4), .val (.int ((p1 &&& (2147483647 : Int32)) % (21 : Int32))), .val (.int (p2.toInt16.toInt32)), .val (.ref r_1), .val .null, .unset, .unset, .unset, .unset] [(.int (14 : Int32)), (.ref b201), (.ref b201)])) _
      refine XS.iconst X257.here hx rfl (hb hby at_121) ?_
      show Steps p.tables e below (T257.setTop (mkF m 122 #[.val (.int p1), .val (.int p2), .val (.int p3), .val (.int p4), .val (.int ((p1 &&& (2147483647 : Int32)) % (21 : Int32))), .val (.int (p2.toInt16.toInt32)), .val (.ref r_1), .val .null, .unset, .unset, .unset, .unset] [(.int (4 : Int32)), (.int (14 : Int32)), (.ref b201), (.ref b201)])) _
      refine st261 _ ?_
      show Steps p.tables e below (T261.setTop (mkF m 123 #[.val (.int p1), .val (.int p2), .val (.int p3), .val (.int p4), .val (.int ((p1 &&& (2147483647 : Int32)) % (21 : Int32))), .val (.int (p2.toInt16.toInt32)), .val (.ref r_1), .val .null, .unset, .unset, .unset, .unset] [(.ref b201)])) _
      refine XS.dup X261.here hx rfl (hb hby at_123) rfl rfl ?_
      show Steps p.tables e below (T261.setTop (mkF m 124 #[.val (.int p1), .val (.int p2), .val (.int p3), .val (.int p4), .val (.int ((p1 &&& (2147483647 : Int32)) % (21 : Int32))), .val (.int (p2.toInt16.toInt32)), .val (.ref r_1), .val .null, .unset, .unset, .unset, .unset] [(.ref b201), (.ref b201)])) _
      refine XS.bipush X261.here hx rfl (hb hby at_124) ?_
      show Steps p.tables e below (T261.setTop (mkF m 126 #[.val (.int p1), .val (.int p2), .val (.int p3), .val (.int p4), .val (.int ((p1 &&& (2147483647 : Int32)) % (21 : Int32))), .val (.int (p2.toInt16.toInt32)), .val (.ref r_1), .val .null, .unset, .unset, .unset, .unset] [(.int (15 : Int32)), (.ref b201), (.ref b201)])) _
      refine XS.iconst X261.here hx rfl (hb hby at_126) ?_
      show Steps p.tables e below (T261.setTop (mkF m 127 #[.val (.int p1), .val (.int p2), .val (.int p3), .val (.int p4), .val (.int ((p1 &&& (2147483647 : Int32)) % (21 : Int32))), .val (.int (p2.toInt16.toInt32)), .val (.ref r_1), .val .null, .unset, .unset, .unset, .unset] [(.int (4 : Int32)), (.int (15 : Int32)), (.ref b201), (.ref b201)])) _
      refine st265 _ ?_
      show Steps p.tables e below (T265.setTop (mkF m 128 #[.val (.int p1), .val (.int p2), .val (.int p3), .val (.int p4), .val (.int ((p1 &&& (2147483647 : Int32)) % (21 : Int32))), .val (.int (p2.toInt16.toInt32)), .val (.ref r_1), .val .null, .unset, .unset, .unset, .unset] [(.ref b201)])) _
      refine XS.dup X265.here hx rfl (hb hby at_128) rfl rfl ?_
      show Steps p.tables e below (T265.setTop (mkF m 129 #[.val (.int p1), .val (.int p2), .val (.int p3), .val (.int p4), .val (.int ((p1 &&& (2147483647 : Int32)) % (21 : Int32))), .val (.int (p2.toInt16.toInt32)), .val (.ref r_1), .val .null, .unset, .unset, .unset, .unset] [(.ref b201), (.ref b201)])) _
      refine XS.bipush X265.here hx rfl (hb hby at_129) ?_
      exact kt
    obtain ⟨c269, Ac269, qc269, Sc269, Nc269, Hc269, Gc269⟩ := id Vw265
    obtain ⟨T270, h270, X270, e270, W270, st270⟩ := stI X265 hx hZ e265 Ac269 (j := (16 : Int32)) (inb_of Sc269 ⟨by decide, by decide⟩) (g := (mkF m 132 #[.val (.int p1), .val (.int p2), .val (.int p3), .val (.int p4), .val (.int ((p1 &&& (2147483647 : Int32)) % (21 : Int32))), .val (.int (p2.toInt16.toInt32)), .val (.ref r_1), .val .null, .unset, .unset, .unset, .unset] [(.int (2 : Int32)), (.int (16 : Int32)), (.ref b201), (.ref b201)])) rfl rfl (hb hby at_132)
    have K271 : Keep h0 h270 [] := K266.wr W270 (Or.inr sz_b201)
    have N272 := Fr.snoc X270 N267 g_b201
    have Vw270 := Arv.set Ac269 qc269 Sc269 Nc269 Hc269 Gc269 rfl W270 16 rfl (Nat.le_of_ble_eq_true rfl)
    change Arv Z h270 b201 k201 .int (21 : Int32) [(.int (9 : Int32)), (.int (12 : Int32)), (.int (6 : Int32)), (.int (9 : Int32)), (.int (8 : Int32)), (.int (6 : Int32)), (.int (3 : Int32)), (.int (6 : Int32)), (.int (4 : Int32)), (.int (4 : Int32)), (.int (4 : Int32)), (.int (3 : Int32)), (.int (5 : Int32)), (.int (2 : Int32)), (.int (4 : Int32)), (.int (4 : Int32)), (.int (2 : Int32)), (.int (0 : Int32)), (.int (0 : Int32)), (.int (0 : Int32)), (.int (0 : Int32))] (.int (0 : Int32)) at Vw270
    obtain ⟨c273, Ac273, qc273, Sc273, Nc273, Hc273, Gc273⟩ := id Vw270
    obtain ⟨T274, h274, X274, e274, W274, st274⟩ := stI X270 hx hZ e270 Ac273 (j := (17 : Int32)) (inb_of Sc273 ⟨by decide, by decide⟩) (g := (mkF m 137 #[.val (.int p1), .val (.int p2), .val (.int p3), .val (.int p4), .val (.int ((p1 &&& (2147483647 : Int32)) % (21 : Int32))), .val (.int (p2.toInt16.toInt32)), .val (.ref r_1), .val .null, .unset, .unset, .unset, .unset] [(.int (0 : Int32)), (.int (17 : Int32)), (.ref b201), (.ref b201)])) rfl rfl (hb hby at_137)
    have K275 : Keep h0 h274 [] := K271.wr W274 (Or.inr sz_b201)
    have N276 := Fr.snoc X274 N272 g_b201
    have Vw274 := Arv.set Ac273 qc273 Sc273 Nc273 Hc273 Gc273 rfl W274 17 rfl (Nat.le_of_ble_eq_true rfl)
    change Arv Z h274 b201 k201 .int (21 : Int32) [(.int (9 : Int32)), (.int (12 : Int32)), (.int (6 : Int32)), (.int (9 : Int32)), (.int (8 : Int32)), (.int (6 : Int32)), (.int (3 : Int32)), (.int (6 : Int32)), (.int (4 : Int32)), (.int (4 : Int32)), (.int (4 : Int32)), (.int (3 : Int32)), (.int (5 : Int32)), (.int (2 : Int32)), (.int (4 : Int32)), (.int (4 : Int32)), (.int (2 : Int32)), (.int (0 : Int32)), (.int (0 : Int32)), (.int (0 : Int32)), (.int (0 : Int32))] (.int (0 : Int32)) at Vw274
    obtain ⟨c277, Ac277, qc277, Sc277, Nc277, Hc277, Gc277⟩ := id Vw274
    obtain ⟨T278, h278, X278, e278, W278, st278⟩ := stI X274 hx hZ e274 Ac277 (j := (18 : Int32)) (inb_of Sc277 ⟨by decide, by decide⟩) (g := (mkF m 142 #[.val (.int p1), .val (.int p2), .val (.int p3), .val (.int p4), .val (.int ((p1 &&& (2147483647 : Int32)) % (21 : Int32))), .val (.int (p2.toInt16.toInt32)), .val (.ref r_1), .val .null, .unset, .unset, .unset, .unset] [(.int (0 : Int32)), (.int (18 : Int32)), (.ref b201), (.ref b201)])) rfl rfl (hb hby at_142)
    have K279 : Keep h0 h278 [] := K275.wr W278 (Or.inr sz_b201)
    have N280 := Fr.snoc X278 N276 g_b201
    have Vw278 := Arv.set Ac277 qc277 Sc277 Nc277 Hc277 Gc277 rfl W278 18 rfl (Nat.le_of_ble_eq_true rfl)
    change Arv Z h278 b201 k201 .int (21 : Int32) [(.int (9 : Int32)), (.int (12 : Int32)), (.int (6 : Int32)), (.int (9 : Int32)), (.int (8 : Int32)), (.int (6 : Int32)), (.int (3 : Int32)), (.int (6 : Int32)), (.int (4 : Int32)), (.int (4 : Int32)), (.int (4 : Int32)), (.int (3 : Int32)), (.int (5 : Int32)), (.int (2 : Int32)), (.int (4 : Int32)), (.int (4 : Int32)), (.int (2 : Int32)), (.int (0 : Int32)), (.int (0 : Int32)), (.int (0 : Int32)), (.int (0 : Int32))] (.int (0 : Int32)) at Vw278
    obtain ⟨c281, Ac281, qc281, Sc281, Nc281, Hc281, Gc281⟩ := id Vw278
    obtain ⟨T282, h282, X282, e282, W282, st282⟩ := stI X278 hx hZ e278 Ac281 (j := (19 : Int32)) (inb_of Sc281 ⟨by decide, by decide⟩) (g := (mkF m 147 #[.val (.int p1), .val (.int p2), .val (.int p3), .val (.int p4), .val (.int ((p1 &&& (2147483647 : Int32)) % (21 : Int32))), .val (.int (p2.toInt16.toInt32)), .val (.ref r_1), .val .null, .unset, .unset, .unset, .unset] [(.int (0 : Int32)), (.int (19 : Int32)), (.ref b201), (.ref b201)])) rfl rfl (hb hby at_147)
    have K283 : Keep h0 h282 [] := K279.wr W282 (Or.inr sz_b201)
    have N284 := Fr.snoc X282 N280 g_b201
    have Vw282 := Arv.set Ac281 qc281 Sc281 Nc281 Hc281 Gc281 rfl W282 19 rfl (Nat.le_of_ble_eq_true rfl)
    change Arv Z h282 b201 k201 .int (21 : Int32) [(.int (9 : Int32)), (.int (12 : Int32)), (.int (6 : Int32)), (.int (9 : Int32)), (.int (8 : Int32)), (.int (6 : Int32)), (.int (3 : Int32)), (.int (6 : Int32)), (.int (4 : Int32)), (.int (4 : Int32)), (.int (4 : Int32)), (.int (3 : Int32)), (.int (5 : Int32)), (.int (2 : Int32)), (.int (4 : Int32)), (.int (4 : Int32)), (.int (2 : Int32)), (.int (0 : Int32)), (.int (0 : Int32)), (.int (0 : Int32)), (.int (0 : Int32))] (.int (0 : Int32)) at Vw282
    obtain ⟨c285, Ac285, qc285, Sc285, Nc285, Hc285, Gc285⟩ := id Vw282
    obtain ⟨T286, h286, X286, e286, W286, st286⟩ := stI X282 hx hZ e282 Ac285 (j := (20 : Int32)) (inb_of Sc285 ⟨by decide, by decide⟩) (g := (mkF m 152 #[.val (.int p1), .val (.int p2), .val (.int p3), .val (.int p4), .val (.int ((p1 &&& (2147483647 : Int32)) % (21 : Int32))), .val (.int (p2.toInt16.toInt32)), .val (.ref r_1), .val .null, .unset, .unset, .unset, .unset] [(.int (0 : Int32)), (.int (20 : Int32)), (.ref b201), (.ref b201)])) rfl rfl (hb hby at_152)
    have K287 : Keep h0 h286 [] := K283.wr W286 (Or.inr sz_b201)
    have N288 := Fr.snoc X286 N284 g_b201
    have Vw286 := Arv.set Ac285 qc285 Sc285 Nc285 Hc285 Gc285 rfl W286 20 rfl (Nat.le_of_ble_eq_true rfl)
    change Arv Z h286 b201 k201 .int (21 : Int32) [(.int (9 : Int32)), (.int (12 : Int32)), (.int (6 : Int32)), (.int (9 : Int32)), (.int (8 : Int32)), (.int (6 : Int32)), (.int (3 : Int32)), (.int (6 : Int32)), (.int (4 : Int32)), (.int (4 : Int32)), (.int (4 : Int32)), (.int (3 : Int32)), (.int (5 : Int32)), (.int (2 : Int32)), (.int (4 : Int32)), (.int (4 : Int32)), (.int (2 : Int32)), (.int (0 : Int32)), (.int (0 : Int32)), (.int (0 : Int32)), (.int (0 : Int32))] (.int (0 : Int32)) at Vw286
    have f289 : Exa Z h286 r_1 "com/example/alviso/alviso/protocol/ApiKey" := ((((((((((((((((((((((t1_0.ext E201).wr W204).wr W208).wr W212).wr W216).wr W220).wr W224).wr W228).wr W233).wr W237).wr W241).wr W245).wr W249).wr W253).wr W257).wr W261).wr W265).wr W270).wr W274).wr W278).wr W282).wr W286)
    have f290 : Exa Z h286 w_ALLOCATE_PRODUCER_IDS "com/example/alviso/alviso/protocol/ApiKey" := ((((((((((((((((((((((E_w_ALLOCATE_PRODUCER_IDS.ext E201).wr W204).wr W208).wr W212).wr W216).wr W220).wr W224).wr W228).wr W233).wr W237).wr W241).wr W245).wr W249).wr W253).wr W257).wr W261).wr W265).wr W270).wr W274).wr W278).wr W282).wr W286)
    have f291 : Exa Z h286 w_ALTER_PARTITION "com/example/alviso/alviso/protocol/ApiKey" := ((((((((((((((((((((((E_w_ALTER_PARTITION.ext E201).wr W204).wr W208).wr W212).wr W216).wr W220).wr W224).wr W228).wr W233).wr W237).wr W241).wr W245).wr W249).wr W253).wr W257).wr W261).wr W265).wr W270).wr W274).wr W278).wr W282).wr W286)
    have f292 : Exa Z h286 w_API_VERSIONS "com/example/alviso/alviso/protocol/ApiKey" := ((((((((((((((((((((((E_w_API_VERSIONS.ext E201).wr W204).wr W208).wr W212).wr W216).wr W220).wr W224).wr W228).wr W233).wr W237).wr W241).wr W245).wr W249).wr W253).wr W257).wr W261).wr W265).wr W270).wr W274).wr W278).wr W282).wr W286)
    have f293 : Exa Z h286 w_BROKER_HEARTBEAT "com/example/alviso/alviso/protocol/ApiKey" := ((((((((((((((((((((((E_w_BROKER_HEARTBEAT.ext E201).wr W204).wr W208).wr W212).wr W216).wr W220).wr W224).wr W228).wr W233).wr W237).wr W241).wr W245).wr W249).wr W253).wr W257).wr W261).wr W265).wr W270).wr W274).wr W278).wr W282).wr W286)
    have f294 : Exa Z h286 w_BROKER_REGISTRATION "com/example/alviso/alviso/protocol/ApiKey" := ((((((((((((((((((((((E_w_BROKER_REGISTRATION.ext E201).wr W204).wr W208).wr W212).wr W216).wr W220).wr W224).wr W228).wr W233).wr W237).wr W241).wr W245).wr W249).wr W253).wr W257).wr W261).wr W265).wr W270).wr W274).wr W278).wr W282).wr W286)
    have f295 : Exa Z h286 w_CREATE_TOPICS "com/example/alviso/alviso/protocol/ApiKey" := ((((((((((((((((((((((E_w_CREATE_TOPICS.ext E201).wr W204).wr W208).wr W212).wr W216).wr W220).wr W224).wr W228).wr W233).wr W237).wr W241).wr W245).wr W249).wr W253).wr W257).wr W261).wr W265).wr W270).wr W274).wr W278).wr W282).wr W286)
    have f296 : Exa Z h286 w_DESCRIBE_CONFIGS "com/example/alviso/alviso/protocol/ApiKey" := ((((((((((((((((((((((E_w_DESCRIBE_CONFIGS.ext E201).wr W204).wr W208).wr W212).wr W216).wr W220).wr W224).wr W228).wr W233).wr W237).wr W241).wr W245).wr W249).wr W253).wr W257).wr W261).wr W265).wr W270).wr W274).wr W278).wr W282).wr W286)
    have f297 : Exa Z h286 w_ELECT_LEADERS "com/example/alviso/alviso/protocol/ApiKey" := ((((((((((((((((((((((E_w_ELECT_LEADERS.ext E201).wr W204).wr W208).wr W212).wr W216).wr W220).wr W224).wr W228).wr W233).wr W237).wr W241).wr W245).wr W249).wr W253).wr W257).wr W261).wr W265).wr W270).wr W274).wr W278).wr W282).wr W286)
    have f298 : Exa Z h286 w_FETCH "com/example/alviso/alviso/protocol/ApiKey" := ((((((((((((((((((((((E_w_FETCH.ext E201).wr W204).wr W208).wr W212).wr W216).wr W220).wr W224).wr W228).wr W233).wr W237).wr W241).wr W245).wr W249).wr W253).wr W257).wr W261).wr W265).wr W270).wr W274).wr W278).wr W282).wr W286)
    have f299 : Exa Z h286 w_FIND_COORDINATOR "com/example/alviso/alviso/protocol/ApiKey" := ((((((((((((((((((((((E_w_FIND_COORDINATOR.ext E201).wr W204).wr W208).wr W212).wr W216).wr W220).wr W224).wr W228).wr W233).wr W237).wr W241).wr W245).wr W249).wr W253).wr W257).wr W261).wr W265).wr W270).wr W274).wr W278).wr W282).wr W286)
    have f300 : Exa Z h286 w_HEARTBEAT "com/example/alviso/alviso/protocol/ApiKey" := ((((((((((((((((((((((E_w_HEARTBEAT.ext E201).wr W204).wr W208).wr W212).wr W216).wr W220).wr W224).wr W228).wr W233).wr W237).wr W241).wr W245).wr W249).wr W253).wr W257).wr W261).wr W265).wr W270).wr W274).wr W278).wr W282).wr W286)
    have f301 : Exa Z h286 w_INIT_PRODUCER_ID "com/example/alviso/alviso/protocol/ApiKey" := ((((((((((((((((((((((E_w_INIT_PRODUCER_ID.ext E201).wr W204).wr W208).wr W212).wr W216).wr W220).wr W224).wr W228).wr W233).wr W237).wr W241).wr W245).wr W249).wr W253).wr W257).wr W261).wr W265).wr W270).wr W274).wr W278).wr W282).wr W286)
    have f302 : Exa Z h286 w_JOIN_GROUP "com/example/alviso/alviso/protocol/ApiKey" := ((((((((((((((((((((((E_w_JOIN_GROUP.ext E201).wr W204).wr W208).wr W212).wr W216).wr W220).wr W224).wr W228).wr W233).wr W237).wr W241).wr W245).wr W249).wr W253).wr W257).wr W261).wr W265).wr W270).wr W274).wr W278).wr W282).wr W286)
    have f303 : Exa Z h286 w_LEAVE_GROUP "com/example/alviso/alviso/protocol/ApiKey" := ((((((((((((((((((((((E_w_LEAVE_GROUP.ext E201).wr W204).wr W208).wr W212).wr W216).wr W220).wr W224).wr W228).wr W233).wr W237).wr W241).wr W245).wr W249).wr W253).wr W257).wr W261).wr W265).wr W270).wr W274).wr W278).wr W282).wr W286)
    have f304 : Exa Z h286 w_LIST_OFFSETS "com/example/alviso/alviso/protocol/ApiKey" := ((((((((((((((((((((((E_w_LIST_OFFSETS.ext E201).wr W204).wr W208).wr W212).wr W216).wr W220).wr W224).wr W228).wr W233).wr W237).wr W241).wr W245).wr W249).wr W253).wr W257).wr W261).wr W265).wr W270).wr W274).wr W278).wr W282).wr W286)
    have f305 : Exa Z h286 w_METADATA "com/example/alviso/alviso/protocol/ApiKey" := ((((((((((((((((((((((E_w_METADATA.ext E201).wr W204).wr W208).wr W212).wr W216).wr W220).wr W224).wr W228).wr W233).wr W237).wr W241).wr W245).wr W249).wr W253).wr W257).wr W261).wr W265).wr W270).wr W274).wr W278).wr W282).wr W286)
    have f306 : Exa Z h286 w_OFFSET_COMMIT "com/example/alviso/alviso/protocol/ApiKey" := ((((((((((((((((((((((E_w_OFFSET_COMMIT.ext E201).wr W204).wr W208).wr W212).wr W216).wr W220).wr W224).wr W228).wr W233).wr W237).wr W241).wr W245).wr W249).wr W253).wr W257).wr W261).wr W265).wr W270).wr W274).wr W278).wr W282).wr W286)
    have f307 : Exa Z h286 w_OFFSET_FETCH "com/example/alviso/alviso/protocol/ApiKey" := ((((((((((((((((((((((E_w_OFFSET_FETCH.ext E201).wr W204).wr W208).wr W212).wr W216).wr W220).wr W224).wr W228).wr W233).wr W237).wr W241).wr W245).wr W249).wr W253).wr W257).wr W261).wr W265).wr W270).wr W274).wr W278).wr W282).wr W286)
    have f308 : Exa Z h286 w_OFFSET_FOR_LEADER_EPOCH "com/example/alviso/alviso/protocol/ApiKey" := ((((((((((((((((((((((E_w_OFFSET_FOR_LEADER_EPOCH.ext E201).wr W204).wr W208).wr W212).wr W216).wr W220).wr W224).wr W228).wr W233).wr W237).wr W241).wr W245).wr W249).wr W253).wr W257).wr W261).wr W265).wr W270).wr W274).wr W278).wr W282).wr W286)
    have f309 : Exa Z h286 w_PRODUCE "com/example/alviso/alviso/protocol/ApiKey" := ((((((((((((((((((((((E_w_PRODUCE.ext E201).wr W204).wr W208).wr W212).wr W216).wr W220).wr W224).wr W228).wr W233).wr W237).wr W241).wr W245).wr W249).wr W253).wr W257).wr W261).wr W265).wr W270).wr W274).wr W278).wr W282).wr W286)
    have f310 : Exa Z h286 w_SYNC_GROUP "com/example/alviso/alviso/protocol/ApiKey" := ((((((((((((((((((((((E_w_SYNC_GROUP.ext E201).wr W204).wr W208).wr W212).wr W216).wr W220).wr W224).wr W228).wr W233).wr W237).wr W241).wr W245).wr W249).wr W253).wr W257).wr W261).wr W265).wr W270).wr W274).wr W278).wr W282).wr W286)
    obtain ⟨T311, h311, X311, e311, E311, A311, D311, -, st311⟩ := newO X286 hx hZ hown (hw _ (List.mem_of_getElem? (i := 35) rfl)) (hw _ (List.mem_of_getElem? (i := 36) rfl)) (hw _ (List.mem_of_getElem? (i := 37) rfl)) e286 (g := (mkF m 155 #[.val (.int p1), .val (.int p2), .val (.int p3), .val (.int p4), .val (.int ((p1 &&& (2147483647 : Int32)) % (21 : Int32))), .val (.int (p2.toInt16.toInt32)), .val (.ref r_1), .val .null, .val (.ref b201), .unset, .unset, .unset] [])) rfl (hb hby at_155) (by decide) (by decide)
    obtain ⟨b311, g311⟩ : ∃ z, z = h286.size := ⟨_, rfl⟩
    rw [← g311] at A311 D311 st311
    have ne_b201_b311 : b201 ≠ b311 := Nat.ne_of_lt (Nat.lt_of_lt_of_le Vw286.lt (Nat.le_of_eq g311.symm))
    have ne_r_1_b311 : r_1 ≠ b311 := Nat.ne_of_lt (Nat.lt_of_lt_of_le f289.lt (Nat.le_of_eq g311.symm))
    have ne_w_ALLOCATE_PRODUCER_IDS_b311 : w_ALLOCATE_PRODUCER_IDS ≠ b311 := Nat.ne_of_lt (Nat.lt_of_lt_of_le f290.lt (Nat.le_of_eq g311.symm))
    have ne_w_ALTER_PARTITION_b311 : w_ALTER_PARTITION ≠ b311 := Nat.ne_of_lt (Nat.lt_of_lt_of_le f291.lt (Nat.le_of_eq g311.symm))
    have ne_w_API_VERSIONS_b311 : w_API_VERSIONS ≠ b311 := Nat.ne_of_lt (Nat.lt_of_lt_of_le f292.lt (Nat.le_of_eq g311.symm))
    have ne_w_BROKER_HEARTBEAT_b311 : w_BROKER_HEARTBEAT ≠ b311 := Nat.ne_of_lt (Nat.lt_of_lt_of_le f293.lt (Nat.le_of_eq g311.symm))
    have ne_w_BROKER_REGISTRATION_b311 : w_BROKER_REGISTRATION ≠ b311 := Nat.ne_of_lt (Nat.lt_of_lt_of_le f294.lt (Nat.le_of_eq g311.symm))
    have ne_w_CREATE_TOPICS_b311 : w_CREATE_TOPICS ≠ b311 := Nat.ne_of_lt (Nat.lt_of_lt_of_le f295.lt (Nat.le_of_eq g311.symm))
    have ne_w_DESCRIBE_CONFIGS_b311 : w_DESCRIBE_CONFIGS ≠ b311 := Nat.ne_of_lt (Nat.lt_of_lt_of_le f296.lt (Nat.le_of_eq g311.symm))
    have ne_w_ELECT_LEADERS_b311 : w_ELECT_LEADERS ≠ b311 := Nat.ne_of_lt (Nat.lt_of_lt_of_le f297.lt (Nat.le_of_eq g311.symm))
    have ne_w_FETCH_b311 : w_FETCH ≠ b311 := Nat.ne_of_lt (Nat.lt_of_lt_of_le f298.lt (Nat.le_of_eq g311.symm))
    have ne_w_FIND_COORDINATOR_b311 : w_FIND_COORDINATOR ≠ b311 := Nat.ne_of_lt (Nat.lt_of_lt_of_le f299.lt (Nat.le_of_eq g311.symm))
    have ne_w_HEARTBEAT_b311 : w_HEARTBEAT ≠ b311 := Nat.ne_of_lt (Nat.lt_of_lt_of_le f300.lt (Nat.le_of_eq g311.symm))
    have ne_w_INIT_PRODUCER_ID_b311 : w_INIT_PRODUCER_ID ≠ b311 := Nat.ne_of_lt (Nat.lt_of_lt_of_le f301.lt (Nat.le_of_eq g311.symm))
    have ne_w_JOIN_GROUP_b311 : w_JOIN_GROUP ≠ b311 := Nat.ne_of_lt (Nat.lt_of_lt_of_le f302.lt (Nat.le_of_eq g311.symm))
    have ne_w_LEAVE_GROUP_b311 : w_LEAVE_GROUP ≠ b311 := Nat.ne_of_lt (Nat.lt_of_lt_of_le f303.lt (Nat.le_of_eq g311.symm))
    have ne_w_LIST_OFFSETS_b311 : w_LIST_OFFSETS ≠ b311 := Nat.ne_of_lt (Nat.lt_of_lt_of_le f304.lt (Nat.le_of_eq g311.symm))
    have ne_w_METADATA_b311 : w_METADATA ≠ b311 := Nat.ne_of_lt (Nat.lt_of_lt_of_le f305.lt (Nat.le_of_eq g311.symm))
    have ne_w_OFFSET_COMMIT_b311 : w_OFFSET_COMMIT ≠ b311 := Nat.ne_of_lt (Nat.lt_of_lt_of_le f306.lt (Nat.le_of_eq g311.symm))
    have ne_w_OFFSET_FETCH_b311 : w_OFFSET_FETCH ≠ b311 := Nat.ne_of_lt (Nat.lt_of_lt_of_le f307.lt (Nat.le_of_eq g311.symm))
    have ne_w_OFFSET_FOR_LEADER_EPOCH_b311 : w_OFFSET_FOR_LEADER_EPOCH ≠ b311 := Nat.ne_of_lt (Nat.lt_of_lt_of_le f308.lt (Nat.le_of_eq g311.symm))
    have ne_w_PRODUCE_b311 : w_PRODUCE ≠ b311 := Nat.ne_of_lt (Nat.lt_of_lt_of_le f309.lt (Nat.le_of_eq g311.symm))
    have ne_w_SYNC_GROUP_b311 : w_SYNC_GROUP ≠ b311 := Nat.ne_of_lt (Nat.lt_of_lt_of_le f310.lt (Nat.le_of_eq g311.symm))
    have g_b311 : n0 ≤ b311 := Nat.le_trans (Nat.le_trans Z0 K287.1) (Nat.le_of_eq g311.symm)
    have sz_b311 : h0.size ≤ b311 := Nat.le_trans K287.1 (Nat.le_of_eq g311.symm)
    have K312 : Keep h0 h311 [] := K287.ext E311
    have F_api_b311 : Fld Z h311 b311 "com/example/alviso/alviso/protocol/RequestHeader" "api" "Lcom/example/alviso/alviso/protocol/ApiKey;" .null := D311 (Or.inr (hw _ (List.mem_of_getElem? (i := 48) rfl))) (ty := (.object "com/example/alviso/alviso/protocol/ApiKey")) (by decide)
    have F_version_b311 : Fld Z h311 b311 "com/example/alviso/alviso/protocol/RequestHeader" "version" "S" (.int (0 : Int32)) := D311 (Or.inr (hw _ (List.mem_of_getElem? (i := 50) rfl))) (ty := .short) (by decide)
    have F_correlationId_b311 : Fld Z h311 b311 "com/example/alviso/alviso/protocol/RequestHeader" "correlationId" "I" (.int (0 : Int32)) := D311 (Or.inr (hw _ (List.mem_of_getElem? (i := 52) rfl))) (ty := .int) (by decide)
    have F_clientId_b311 : Fld Z h311 b311 "com/example/alviso/alviso/protocol/RequestHeader" "clientId" "Ljava/lang/String;" .null := D311 (Or.inr (hw _ (List.mem_of_getElem? (i := 54) rfl))) (ty := (.object "java/lang/String")) (by decide)
    have f314 : Arv Z h311 b201 k201 .int (21 : Int32) [(.int (9 : Int32)), (.int (12 : Int32)), (.int (6 : Int32)), (.int (9 : Int32)), (.int (8 : Int32)), (.int (6 : Int32)), (.int (3 : Int32)), (.int (6 : Int32)), (.int (4 : Int32)), (.int (4 : Int32)), (.int (4 : Int32)), (.int (3 : Int32)), (.int (5 : Int32)), (.int (2 : Int32)), (.int (4 : Int32)), (.int (4 : Int32)), (.int (2 : Int32)), (.int (0 : Int32)), (.int (0 : Int32)), (.int (0 : Int32)), (.int (0 : Int32))] (.int (0 : Int32)) := (Vw286.ext E311)
    have f315 : Exa Z h311 r_1 "com/example/alviso/alviso/protocol/ApiKey" := (f289.ext E311)
    have f316 : Exa Z h311 w_ALLOCATE_PRODUCER_IDS "com/example/alviso/alviso/protocol/ApiKey" := (f290.ext E311)
    have f317 : Exa Z h311 w_ALTER_PARTITION "com/example/alviso/alviso/protocol/ApiKey" := (f291.ext E311)
    have f318 : Exa Z h311 w_API_VERSIONS "com/example/alviso/alviso/protocol/ApiKey" := (f292.ext E311)
    have f319 : Exa Z h311 w_BROKER_HEARTBEAT "com/example/alviso/alviso/protocol/ApiKey" := (f293.ext E311)
    have f320 : Exa Z h311 w_BROKER_REGISTRATION "com/example/alviso/alviso/protocol/ApiKey" := (f294.ext E311)
    have f321 : Exa Z h311 w_CREATE_TOPICS "com/example/alviso/alviso/protocol/ApiKey" := (f295.ext E311)
    have f322 : Exa Z h311 w_DESCRIBE_CONFIGS "com/example/alviso/alviso/protocol/ApiKey" := (f296.ext E311)
    have f323 : Exa Z h311 w_ELECT_LEADERS "com/example/alviso/alviso/protocol/ApiKey" := (f297.ext E311)
    have f324 : Exa Z h311 w_FETCH "com/example/alviso/alviso/protocol/ApiKey" := (f298.ext E311)
    have f325 : Exa Z h311 w_FIND_COORDINATOR "com/example/alviso/alviso/protocol/ApiKey" := (f299.ext E311)
    have f326 : Exa Z h311 w_HEARTBEAT "com/example/alviso/alviso/protocol/ApiKey" := (f300.ext E311)
    have f327 : Exa Z h311 w_INIT_PRODUCER_ID "com/example/alviso/alviso/protocol/ApiKey" := (f301.ext E311)
    have f328 : Exa Z h311 w_JOIN_GROUP "com/example/alviso/alviso/protocol/ApiKey" := (f302.ext E311)
    have f329 : Exa Z h311 w_LEAVE_GROUP "com/example/alviso/alviso/protocol/ApiKey" := (f303.ext E311)
    have f330 : Exa Z h311 w_LIST_OFFSETS "com/example/alviso/alviso/protocol/ApiKey" := (f304.ext E311)
    have f331 : Exa Z h311 w_METADATA "com/example/alviso/alviso/protocol/ApiKey" := (f305.ext E311)
    have f332 : Exa Z h311 w_OFFSET_COMMIT "com/example/alviso/alviso/protocol/ApiKey" := (f306.ext E311)
    have f333 : Exa Z h311 w_OFFSET_FETCH "com/example/alviso/alviso/protocol/ApiKey" := (f307.ext E311)
    have f334 : Exa Z h311 w_OFFSET_FOR_LEADER_EPOCH "com/example/alviso/alviso/protocol/ApiKey" := (f308.ext E311)
    have f335 : Exa Z h311 w_PRODUCE "com/example/alviso/alviso/protocol/ApiKey" := (f309.ext E311)
    have f336 : Exa Z h311 w_SYNC_GROUP "com/example/alviso/alviso/protocol/ApiKey" := (f310.ext E311)
    obtain ⟨_, _, ⟨T313, L313, k313, n313⟩, -, X313, ⟨Lc313, hQ313, l313, y313, z313⟩, st313⟩ := X311.specialBack hx (y := (⟨"com/example/alviso/alviso/protocol/RequestHeader", "<init>", "(Lcom/example/alviso/alviso/protocol/ApiKey;SILjava/lang/String;)V"⟩ : MethodName)) rfl hown (mvT hZ (hw _ (List.mem_of_getElem? (i := 38) rfl))) (mvT hZ (hw _ (List.mem_of_getElem? (i := 39) rfl))) (mvT hZ (hw _ (List.mem_of_getElem? (i := 40) rfl))) (by decide) (backOf (W := 1) (rmRq1 l Z a0 hw [] b311 r_1 (p2.toInt16.toInt32) p3 .null (.int (0 : Int32)) (.int (0 : Int32)) .null h311 n0 (Nat.le_trans Z0 K312.1) A311 F_api_b311 F_version_b311 F_correlationId_b311 F_clientId_b311 g_b311) hZ (hw _ (List.mem_of_getElem? (i := 40) rfl)) (hw _ (List.mem_of_getElem? (i := 37) rfl)) (by decide) (by decide)) (g := (mkF m 166 #[.val (.int p1), .val (.int p2), .val (.int p3), .val (.int p4), .val (.int ((p1 &&& (2147483647 : Int32)) % (21 : Int32))), .val (.int (p2.toInt16.toInt32)), .val (.ref r_1), .val .null, .val (.ref b201), .unset, .unset, .unset] [.null, (.int p3), (.int (p2.toInt16.toInt32)), (.ref r_1), (.ref b311), (.ref b311)])) rfl (by rw [hml]; rfl) (Steps.refl _) (a := b311) (argsL := [(.ref r_1), (.int (p2.toInt16.toInt32)), (.int p3), .null]) (rest := [(.ref b311)]) (lenOf pd__28Lcom_2fexample_2falviso_2falviso_2fprotocol_2fApiKey_3bSILjava_2flang_2fString_3b_29V rfl) rfl (by show 2 * 0 + _ ≤ _; exact Nat.le_of_eq rfl) (hb hby at_166) (fun _ _ => ⟨rfl, e311, (by decide : 2 + 0 ≤ _), (by decide : 25 + 0 ≤ _)⟩)
    dsimp only [Pt.U, Pt.locs, Pt.cells, Pt.slots] at y313 z313 st313 hQ313
    change Stand p l e _ s m _ below meth c T313 L313 k313 n313 at X313
    change L313 = _ ++ Lc313 at l313
    subst y313 z313
    obtain ⟨rfl, N313q, K313q, t313_0, t313_1, t313_2, t313_3⟩ := hQ313
    have N313 : Fr n0 L313 := l313 ▸ Fr.app N288 N313q
    have K313 : Keep h0 T313.heap [] := K312.trans K313q (allS (P := fun x => x ∈ [] ∨ h0.size ≤ x) (Or.inr sz_b311) all0)
    have f337 : Exa Z T313.heap r_1 "com/example/alviso/alviso/protocol/ApiKey" := (f315.keep K313q)
    have f338 : Fld Z T313.heap r_1 "com/example/alviso/alviso/protocol/ApiKey" "firstFlexibleVersion" "S" (.int (own_ff ((p1 &&& (2147483647 : Int32)) % (21 : Int32)))) := ((((((((((((((((((((((((t1_1.ext E201).other W204 (Or.inl ne_r_1_b201)).other W208 (Or.inl ne_r_1_b201)).other W212 (Or.inl ne_r_1_b201)).other W216 (Or.inl ne_r_1_b201)).other W220 (Or.inl ne_r_1_b201)).other W224 (Or.inl ne_r_1_b201)).other W228 (Or.inl ne_r_1_b201)).other W233 (Or.inl ne_r_1_b201)).other W237 (Or.inl ne_r_1_b201)).other W241 (Or.inl ne_r_1_b201)).other W245 (Or.inl ne_r_1_b201)).other W249 (Or.inl ne_r_1_b201)).other W253 (Or.inl ne_r_1_b201)).other W257 (Or.inl ne_r_1_b201)).other W261 (Or.inl ne_r_1_b201)).other W265 (Or.inl ne_r_1_b201)).other W270 (Or.inl ne_r_1_b201)).other W274 (Or.inl ne_r_1_b201)).other W278 (Or.inl ne_r_1_b201)).other W282 (Or.inl ne_r_1_b201)).other W286 (Or.inl ne_r_1_b201)).ext E311).keep K313q (ninS ne_r_1_b311 nin0))
    have f339 : Sta Z T313.heap "com/example/alviso/alviso/protocol/ApiKey" "API_VERSIONS" "Lcom/example/alviso/alviso/protocol/ApiKey;" (.ref w_API_VERSIONS) := (own_staKeep (((((((((((((((((((((((S_API_VERSIONS.ext E201).wr W204).wr W208).wr W212).wr W216).wr W220).wr W224).wr W228).wr W233).wr W237).wr W241).wr W245).wr W249).wr W253).wr W257).wr W261).wr W265).wr W270).wr W274).wr W278).wr W282).wr W286).ext E311) K313q (own_nsE A311 own_ns0))
    have f341 : Arv Z T313.heap b201 k201 .int (21 : Int32) [(.int (9 : Int32)), (.int (12 : Int32)), (.int (6 : Int32)), (.int (9 : Int32)), (.int (8 : Int32)), (.int (6 : Int32)), (.int (3 : Int32)), (.int (6 : Int32)), (.int (4 : Int32)), (.int (4 : Int32)), (.int (4 : Int32)), (.int (3 : Int32)), (.int (5 : Int32)), (.int (2 : Int32)), (.int (4 : Int32)), (.int (4 : Int32)), (.int (2 : Int32)), (.int (0 : Int32)), (.int (0 : Int32)), (.int (0 : Int32)), (.int (0 : Int32))] (.int (0 : Int32)) := (f314.keep K313q (ninS ne_b201_b311 nin0))
    have f342 : Exa Z T313.heap w_ALLOCATE_PRODUCER_IDS "com/example/alviso/alviso/protocol/ApiKey" := (f316.keep K313q)
    have f343 : Exa Z T313.heap w_ALTER_PARTITION "com/example/alviso/alviso/protocol/ApiKey" := (f317.keep K313q)
    have f344 : Exa Z T313.heap w_API_VERSIONS "com/example/alviso/alviso/protocol/ApiKey" := (f318.keep K313q)
    have f345 : Exa Z T313.heap w_BROKER_HEARTBEAT "com/example/alviso/alviso/protocol/ApiKey" := (f319.keep K313q)
    have f346 : Exa Z T313.heap w_BROKER_REGISTRATION "com/example/alviso/alviso/protocol/ApiKey" := (f320.keep K313q)
    have f347 : Exa Z T313.heap w_CREATE_TOPICS "com/example/alviso/alviso/protocol/ApiKey" := (f321.keep K313q)
    have f348 : Exa Z T313.heap w_DESCRIBE_CONFIGS "com/example/alviso/alviso/protocol/ApiKey" := (f322.keep K313q)
    have f349 : Exa Z T313.heap w_ELECT_LEADERS "com/example/alviso/alviso/protocol/ApiKey" := (f323.keep K313q)
    have f350 : Exa Z T313.heap w_FETCH "com/example/alviso/alviso/protocol/ApiKey" := (f324.keep K313q)
    have f351 : Exa Z T313.heap w_FIND_COORDINATOR "com/example/alviso/alviso/protocol/ApiKey" := (f325.keep K313q)
    have f352 : Exa Z T313.heap w_HEARTBEAT "com/example/alviso/alviso/protocol/ApiKey" := (f326.keep K313q)
    have f353 : Exa Z T313.heap w_INIT_PRODUCER_ID "com/example/alviso/alviso/protocol/ApiKey" := (f327.keep K313q)
    have f354 : Exa Z T313.heap w_JOIN_GROUP "com/example/alviso/alviso/protocol/ApiKey" := (f328.keep K313q)
    have f355 : Exa Z T313.heap w_LEAVE_GROUP "com/example/alviso/alviso/protocol/ApiKey" := (f329.keep K313q)
    have f356 : Exa Z T313.heap w_LIST_OFFSETS "com/example/alviso/alviso/protocol/ApiKey" := (f330.keep K313q)
    have f357 : Exa Z T313.heap w_METADATA "com/example/alviso/alviso/protocol/ApiKey" := (f331.keep K313q)
    have f358 : Exa Z T313.heap w_OFFSET_COMMIT "com/example/alviso/alviso/protocol/ApiKey" := (f332.keep K313q)
    have f359 : Exa Z T313.heap w_OFFSET_FETCH "com/example/alviso/alviso/protocol/ApiKey" := (f333.keep K313q)
    have f360 : Exa Z T313.heap w_OFFSET_FOR_LEADER_EPOCH "com/example/alviso/alviso/protocol/ApiKey" := (f334.keep K313q)
    have f361 : Exa Z T313.heap w_PRODUCE "com/example/alviso/alviso/protocol/ApiKey" := (f335.keep K313q)
    have f362 : Exa Z T313.heap w_SYNC_GROUP "com/example/alviso/alviso/protocol/ApiKey" := (f336.keep K313q)
    obtain ⟨_, _, ⟨T340, L340, k340, n340⟩, -, X340, ⟨Lc340, hQ340, l340, y340, z340⟩, st340⟩ := Jvm.LawKit.callS X313 hx (y := (⟨"com/example/alviso/alviso/protocol/ResponseHeader", "answering", "(Lcom/example/alviso/alviso/protocol/RequestHeader;)Lcom/example/alviso/alviso/protocol/ResponseHeader;"⟩ : MethodName)) hown (mvT hZ (hw _ (List.mem_of_getElem? (i := 55) rfl))) (mvT hZ (hw _ (List.mem_of_getElem? (i := 56) rfl))) (mvT hZ (hw _ (List.mem_of_getElem? (i := 57) rfl))) (mvT hZ (hw _ (List.mem_of_getElem? (i := 58) rfl))) (by decide) (backOf (W := 0) (rm9 l Z a0 hw [] b311 r_1 (nar .short (p2.toInt16.toInt32)) p3 (own_ff ((p1 &&& (2147483647 : Int32)) % (21 : Int32))) w_API_VERSIONS T313.heap n0 (Nat.le_trans Z0 K313.1) t313_0 t313_1 t313_2 t313_3 f337 f338 f339) hZ (hw _ (List.mem_of_getElem? (i := 58) rfl)) (hw _ (List.mem_of_getElem? (i := 57) rfl)) (by decide) (by decide)) (g := (mkF m 173 #[.val (.int p1), .val (.int p2), .val (.int p3), .val (.int p4), .val (.int ((p1 &&& (2147483647 : Int32)) % (21 : Int32))), .val (.int (p2.toInt16.toInt32)), .val (.ref r_1), .val .null, .val (.ref b201), .val (.ref b311), .unset, .unset] [(.ref b311)])) rfl (by rw [hml]; rfl) (argsL := [(.ref b311)]) (rest := []) (lenOf pd__28Lcom_2fexample_2falviso_2falviso_2fprotocol_2fRequestHeader_3b_29Lcom_2fexample_2falviso_2falviso_2fprotocol_2fResponseHeader_3b rfl) rfl (by show 2 * 0 + _ ≤ _; exact Nat.le_of_eq rfl) (hb hby at_173) (fun _ _ => ⟨rfl, rfl, (by decide : 2 + 1 ≤ _), (by decide : 25 + 2 ≤ _)⟩)
    dsimp only [Pt.U, Pt.locs, Pt.cells, Pt.slots] at y340 z340 st340 hQ340
    change Stand p l e _ s m _ below meth c T340 L340 k340 n340 at X340
    change L340 = _ ++ Lc340 at l340
    subst y340 z340
    obtain ⟨r_340, rfl, N340q, K340q, t340_0, t340_1, t340_2, t340_3⟩ := hQ340
    have N340 : Fr n0 L340 := l340 ▸ Fr.app N313 N340q
    have K340 : Keep h0 T340.heap [] := K313.trans K340q all0
    have ne_b201_r_340 : b201 ≠ r_340 := Nat.ne_of_lt (Nat.lt_of_lt_of_le f341.lt t340_0)
    have ne_b311_r_340 : b311 ≠ r_340 := Nat.ne_of_lt (Nat.lt_of_lt_of_le t313_0.lt t340_0)
    have ne_r_1_r_340 : r_1 ≠ r_340 := Nat.ne_of_lt (Nat.lt_of_lt_of_le f337.lt t340_0)
    have ne_w_ALLOCATE_PRODUCER_IDS_r_340 : w_ALLOCATE_PRODUCER_IDS ≠ r_340 := Nat.ne_of_lt (Nat.lt_of_lt_of_le f342.lt t340_0)
    have ne_w_ALTER_PARTITION_r_340 : w_ALTER_PARTITION ≠ r_340 := Nat.ne_of_lt (Nat.lt_of_lt_of_le f343.lt t340_0)
    have ne_w_API_VERSIONS_r_340 : w_API_VERSIONS ≠ r_340 := Nat.ne_of_lt (Nat.lt_of_lt_of_le f344.lt t340_0)
    have ne_w_BROKER_HEARTBEAT_r_340 : w_BROKER_HEARTBEAT ≠ r_340 := Nat.ne_of_lt (Nat.lt_of_lt_of_le f345.lt t340_0)
    have ne_w_BROKER_REGISTRATION_r_340 : w_BROKER_REGISTRATION ≠ r_340 := Nat.ne_of_lt (Nat.lt_of_lt_of_le f346.lt t340_0)
    have ne_w_CREATE_TOPICS_r_340 : w_CREATE_TOPICS ≠ r_340 := Nat.ne_of_lt (Nat.lt_of_lt_of_le f347.lt t340_0)
    have ne_w_DESCRIBE_CONFIGS_r_340 : w_DESCRIBE_CONFIGS ≠ r_340 := Nat.ne_of_lt (Nat.lt_of_lt_of_le f348.lt t340_0)
    have ne_w_ELECT_LEADERS_r_340 : w_ELECT_LEADERS ≠ r_340 := Nat.ne_of_lt (Nat.lt_of_lt_of_le f349.lt t340_0)
    have ne_w_FETCH_r_340 : w_FETCH ≠ r_340 := Nat.ne_of_lt (Nat.lt_of_lt_of_le f350.lt t340_0)
    have ne_w_FIND_COORDINATOR_r_340 : w_FIND_COORDINATOR ≠ r_340 := Nat.ne_of_lt (Nat.lt_of_lt_of_le f351.lt t340_0)
    have ne_w_HEARTBEAT_r_340 : w_HEARTBEAT ≠ r_340 := Nat.ne_of_lt (Nat.lt_of_lt_of_le f352.lt t340_0)
    have ne_w_INIT_PRODUCER_ID_r_340 : w_INIT_PRODUCER_ID ≠ r_340 := Nat.ne_of_lt (Nat.lt_of_lt_of_le f353.lt t340_0)
    have ne_w_JOIN_GROUP_r_340 : w_JOIN_GROUP ≠ r_340 := Nat.ne_of_lt (Nat.lt_of_lt_of_le f354.lt t340_0)
    have ne_w_LEAVE_GROUP_r_340 : w_LEAVE_GROUP ≠ r_340 := Nat.ne_of_lt (Nat.lt_of_lt_of_le f355.lt t340_0)
    have ne_w_LIST_OFFSETS_r_340 : w_LIST_OFFSETS ≠ r_340 := Nat.ne_of_lt (Nat.lt_of_lt_of_le f356.lt t340_0)
    have ne_w_METADATA_r_340 : w_METADATA ≠ r_340 := Nat.ne_of_lt (Nat.lt_of_lt_of_le f357.lt t340_0)
    have ne_w_OFFSET_COMMIT_r_340 : w_OFFSET_COMMIT ≠ r_340 := Nat.ne_of_lt (Nat.lt_of_lt_of_le f358.lt t340_0)
    have ne_w_OFFSET_FETCH_r_340 : w_OFFSET_FETCH ≠ r_340 := Nat.ne_of_lt (Nat.lt_of_lt_of_le f359.lt t340_0)
    have ne_w_OFFSET_FOR_LEADER_EPOCH_r_340 : w_OFFSET_FOR_LEADER_EPOCH ≠ r_340 := Nat.ne_of_lt (Nat.lt_of_lt_of_le f360.lt t340_0)
    have ne_w_PRODUCE_r_340 : w_PRODUCE ≠ r_340 := Nat.ne_of_lt (Nat.lt_of_lt_of_le f361.lt t340_0)
    have ne_w_SYNC_GROUP_r_340 : w_SYNC_GROUP ≠ r_340 := Nat.ne_of_lt (Nat.lt_of_lt_of_le f362.lt t340_0)
    have sz_r_340 : h0.size ≤ r_340 := Nat.le_trans K313.1 t340_0
    have pre363 : ∀ t, Steps p.tables e below (T340.setTop (mkF m 182 #[.val (.int p1), .val (.int p2), .val (.int p3), .val (.int p4), .val (.int ((p1 &&& (2147483647 : Int32)) % (21 : Int32))), .val (.int (p2.toInt16.toInt32)), .val (.ref r_1), .val .null, .val (.ref b201), .val (.ref b311), .val (.ref r_340), .unset] [(.int (11 : Int32)), (.int ((p1 &&& (2147483647 : Int32)) % (21 : Int32)))])) t → Steps p.tables e below (s₁.setTop (entryFrame m #[(.int p1), (.int p2), (.int p3), (.int p4)] maxLocals)) t := fun t kt => by
      refine pre268 t ?_
      show Steps p.tables e below (T265.setTop (mkF m 131 #[.val (.int p1), .val (.int p2), .val (.int p3), .val (.int p4), .val (.int ((p1 &&& (2147483647 : Int32)) % (21 : Int32))), .val (.int (p2.toInt16.toInt32)), .val (.ref r_1), .val .null, .unset, .unset, .unset, .unset] [(.int (16 : Int32)), (.ref b201), (.ref b201)])) _
      refine XS.iconst X265.here hx rfl (hb hby at_131) ?_
      show Steps p.tables e below (T265.setTop (mkF m 132 #[.val (.int p1), .val (.int p2), .val (.int p3), .val (.int p4), .val (.int ((p1 &&& (2147483647 : Int32)) % (21 : Int32))), .val (.int (p2.toInt16.toInt32)), .val (.ref r_1), .val .null, .unset, .unset, .unset, .unset] [(.int (2 : Int32)), (.int (16 : Int32)), (.ref b201), (.ref b201)])) _
      refine st270 _ ?_
      show Steps p.tables e below (T270.setTop (mkF m 133 #[.val (.int p1), .val (.int p2), .val (.int p3), .val (.int p4), .val (.int ((p1 &&& (2147483647 : Int32)) % (21 : Int32))), .val (.int (p2.toInt16.toInt32)), .val (.ref r_1), .val .null, .unset, .unset, .unset, .unset] [(.ref b201)])) _
      refine XS.dup X270.here hx rfl (hb hby at_133) rfl rfl ?_
      show Steps p.tables e below (T270.setTop (mkF m 134 #[.val (.int p1), .val (.int p2), .val (.int p3), .val (.int p4), .val (.int ((p1 &&& (2147483647 : Int32)) % (21 : Int32))), .val (.int (p2.toInt16.toInt32)), .val (.ref r_1), .val .null, .unset, .unset, .unset, .unset] [(.ref b201), (.ref b201)])) _
      refine XS.bipush X270.here hx rfl (hb hby at_134) ?_
      show Steps p.tables e below (T270.setTop (mkF m 136 #[.val (.int p1), .val (.int p2), .val (.int p3), .val (.int p4), .val (.int ((p1 &&& (2147483647 : Int32)) % (21 : Int32))), .val (.int (p2.toInt16.toInt32)), .val (.ref r_1), .val .null, .unset, .unset, .unset, .unset] [(.int (17 : Int32)), (.ref b201), (.ref b201)])) _
      refine XS.iconst X270.here hx rfl (hb hby at_136) ?_
      show Steps p.tables e below (T270.setTop (mkF m 137 #[.val (.int p1), .val (.int p2), .val (.int p3), .val (.int p4), .val (.int ((p1 &&& (2147483647 : Int32)) % (21 : Int32))), .val (.int (p2.toInt16.toInt32)), .val (.ref r_1), .val .null, .unset, .unset, .unset, .unset] [(.int (0 : Int32)), (.int (17 : Int32)), (.ref b201), (.ref b201)])) _
      refine st274 _ ?_
      show Steps p.tables e below (T274.setTop (mkF m 138 #[.val (.int p1), .val (.int p2), .val (.int p3), .val (.int p4), .val (.int ((p1 &&& (2147483647 : Int32)) % (21 : Int32))), .val (.int (p2.toInt16.toInt32)), .val (.ref r_1), .val .null, .unset, .unset, .unset, .unset] [(.ref b201)])) _
      refine XS.dup X274.here hx rfl (hb hby at_138) rfl rfl ?_
      show Steps p.tables e below (T274.setTop (mkF m 139 #[.val (.int p1), .val (.int p2), .val (.int p3), .val (.int p4), .val (.int ((p1 &&& (2147483647 : Int32)) % (21 : Int32))), .val (.int (p2.toInt16.toInt32)), .val (.ref r_1), .val .null, .unset, .unset, .unset, .unset] [(.ref b201), (.ref b201)])) _
      refine XS.bipush X274.here hx rfl (hb hby at_139) ?_
      show Steps p.tables e below (T274.setTop (mkF m 141 #[.val (.int p1), .val (.int p2), .val (.int p3), .val (.int p4), .val (.int ((p1 &&& (2147483647 : Int32)) % (21 : Int32))), .val (.int (p2.toInt16.toInt32)), .val (.ref r_1), .val .null, .unset, .unset, .unset, .unset] [(.int (18 : Int32)), (.ref b201), (.ref b201)])) _
      refine XS.iconst X274.here hx rfl (hb hby at_141) ?_
      show Steps p.tables e below (T274.setTop (mkF m 142 #[.val (.int p1), .val (.int p2), .val (.int p3), .val (.int p4), .val (.int ((p1 &&& (2147483647 : Int32)) % (21 : Int32))), .val (.int (p2.toInt16.toInt32)), .val (.ref r_1), .val .null, .unset, .unset, .unset, .unset] [(.int (0 : Int32)), (.int (18 : Int32)), (.ref b201), (.ref b201)])) _
      refine st278 _ ?_
      show Steps p.tables e below (T278.setTop (mkF m 143 #[.val (.int p1), .val (.int p2), .val (.int p3), .val (.int p4), .val (.int ((p1 &&& (2147483647 : Int32)) % (21 : Int32))), .val (.int (p2.toInt16.toInt32)), .val (.ref r_1), .val .null, .unset, .unset, .unset, .unset] [(.ref b201)])) _
      refine XS.dup X278.here hx rfl (hb hby at_143) rfl rfl ?_
      show Steps p.tables e below (T278.setTop (mkF m 144 #[.val (.int p1), .val (.int p2), .val (.int p3), .val (.int p4), .val (.int ((p1 &&& (2147483647 : Int32)) % (21 : Int32))), .val (.int (p2.toInt16.toInt32)), .val (.ref r_1), .val .null, .unset, .unset, .unset, .unset] [(.ref b201), (.ref b201)])) _
      refine XS.bipush X278.here hx rfl (hb hby at_144) ?_
      show Steps p.tables e below (T278.setTop (mkF m 146 #[.val (.int p1), .val (.int p2), .val (.int p3), .val (.int p4), .val (.int ((p1 &&& (2147483647 : Int32)) % (21 : Int32))), .val (.int (p2.toInt16.toInt32)), .val (.ref r_1), .val .null, .unset, .unset, .unset, .unset] [(.int (19 : Int32)), (.ref b201), (.ref b201)])) _
      refine XS.iconst X278.here hx rfl (hb hby at_146) ?_
      show Steps p.tables e below (T278.setTop (mkF m 147 #[.val (.int p1), .val (.int p2), .val (.int p3), .val (.int p4), .val (.int ((p1 &&& (2147483647 : Int32)) % (21 : Int32))), .val (.int (p2.toInt16.toInt32)), .val (.ref r_1), .val .null, .unset, .unset, .unset, .unset] [(.int (0 : Int32)), (.int (19 : Int32)), (.ref b201), (.ref b201)])) _
      refine st282 _ ?_
      show Steps p.tables e below (T282.setTop (mkF m 148 #[.val (.int p1), .val (.int p2), .val (.int p3), .val (.int p4), .val (.int ((p1 &&& (2147483647 : Int32)) % (21 : Int32))), .val (.int (p2.toInt16.toInt32)), .val (.ref r_1), .val .null, .unset, .unset, .unset, .unset] [(.ref b201)])) _
      refine XS.dup X282.here hx rfl (hb hby at_148) rfl rfl ?_
      show Steps p.tables e below (T282.setTop (mkF m 149 #[.val (.int p1), .val (.int p2), .val (.int p3), .val (.int p4), .val (.int ((p1 &&& (2147483647 : Int32)) % (21 : Int32))), .val (.int (p2.toInt16.toInt32)), .val (.ref r_1), .val .null, .unset, .unset, .unset, .unset] [(.ref b201), (.ref b201)])) _
      refine XS.bipush X282.here hx rfl (hb hby at_149) ?_
      show Steps p.tables e below (T282.setTop (mkF m 151 #[.val (.int p1), .val (.int p2), .val (.int p3), .val (.int p4), .val (.int ((p1 &&& (2147483647 : Int32)) % (21 : Int32))), .val (.int (p2.toInt16.toInt32)), .val (.ref r_1), .val .null, .unset, .unset, .unset, .unset] [(.int (20 : Int32)), (.ref b201), (.ref b201)])) _
      refine XS.iconst X282.here hx rfl (hb hby at_151) ?_
      show Steps p.tables e below (T282.setTop (mkF m 152 #[.val (.int p1), .val (.int p2), .val (.int p3), .val (.int p4), .val (.int ((p1 &&& (2147483647 : Int32)) % (21 : Int32))), .val (.int (p2.toInt16.toInt32)), .val (.ref r_1), .val .null, .unset, .unset, .unset, .unset] [(.int (0 : Int32)), (.int (20 : Int32)), (.ref b201), (.ref b201)])) _
      refine st286 _ ?_
      show Steps p.tables e below (T286.setTop (mkF m 153 #[.val (.int p1), .val (.int p2), .val (.int p3), .val (.int p4), .val (.int ((p1 &&& (2147483647 : Int32)) % (21 : Int32))), .val (.int (p2.toInt16.toInt32)), .val (.ref r_1), .val .null, .unset, .unset, .unset, .unset] [(.ref b201)])) _
      refine XS.astore X286.here hx rfl (hb hby at_153) rfl rfl (l' := #[.val (.int p1), .val (.int p2), .val (.int p3), .val (.int p4), .val (.int ((p1 &&& (2147483647 : Int32)) % (21 : Int32))), .val (.int (p2.toInt16.toInt32)), .val (.ref r_1), .val .null, .val (.ref b201), .unset, .unset, .unset]) rfl ?_
      show Steps p.tables e below (T286.setTop (mkF m 155 #[.val (.int p1), .val (.int p2), .val (.int p3), .val (.int p4), .val (.int ((p1 &&& (2147483647 : Int32)) % (21 : Int32))), .val (.int (p2.toInt16.toInt32)), .val (.ref r_1), .val .null, .val (.ref b201), .unset, .unset, .unset] [])) _
      refine st311 _ ?_
      show Steps p.tables e below (T311.setTop (mkF m 158 #[.val (.int p1), .val (.int p2), .val (.int p3), .val (.int p4), .val (.int ((p1 &&& (2147483647 : Int32)) % (21 : Int32))), .val (.int (p2.toInt16.toInt32)), .val (.ref r_1), .val .null, .val (.ref b201), .unset, .unset, .unset] [(.ref b311)])) _
      refine XS.dup X311.here hx rfl (hb hby at_158) rfl rfl ?_
      show Steps p.tables e below (T311.setTop (mkF m 159 #[.val (.int p1), .val (.int p2), .val (.int p3), .val (.int p4), .val (.int ((p1 &&& (2147483647 : Int32)) % (21 : Int32))), .val (.int (p2.toInt16.toInt32)), .val (.ref r_1), .val .null, .val (.ref b201), .unset, .unset, .unset] [(.ref b311), (.ref b311)])) _
      refine XS.aload X311.here hx rfl (hb hby at_159) rfl rfl ?_
      show Steps p.tables e below (T311.setTop (mkF m 161 #[.val (.int p1), .val (.int p2), .val (.int p3), .val (.int p4), .val (.int ((p1 &&& (2147483647 : Int32)) % (21 : Int32))), .val (.int (p2.toInt16.toInt32)), .val (.ref r_1), .val .null, .val (.ref b201), .unset, .unset, .unset] [(.ref r_1), (.ref b311), (.ref b311)])) _
      refine XS.iload X311.here hx rfl (hb hby at_161) rfl ?_
      show Steps p.tables e below (T311.setTop (mkF m 163 #[.val (.int p1), .val (.int p2), .val (.int p3), .val (.int p4), .val (.int ((p1 &&& (2147483647 : Int32)) % (21 : Int32))), .val (.int (p2.toInt16.toInt32)), .val (.ref r_1), .val .null, .val (.ref b201), .unset, .unset, .unset] [(.int (p2.toInt16.toInt32)), (.ref r_1), (.ref b311), (.ref b311)])) _
      refine XS.iloadN X311.here hx rfl (hb hby at_163) rfl ?_
      show Steps p.tables e below (T311.setTop (mkF m 164 #[.val (.int p1), .val (.int p2), .val (.int p3), .val (.int p4), .val (.int ((p1 &&& (2147483647 : Int32)) % (21 : Int32))), .val (.int (p2.toInt16.toInt32)), .val (.ref r_1), .val .null, .val (.ref b201), .unset, .unset, .unset] [(.int p3), (.int (p2.toInt16.toInt32)), (.ref r_1), (.ref b311), (.ref b311)])) _
      refine XS.aload X311.here hx rfl (hb hby at_164) rfl rfl ?_
      show Steps p.tables e below (T311.setTop (mkF m 166 #[.val (.int p1), .val (.int p2), .val (.int p3), .val (.int p4), .val (.int ((p1 &&& (2147483647 : Int32)) % (21 : Int32))), .val (.int (p2.toInt16.toInt32)), .val (.ref r_1), .val .null, .val (.ref b201), .unset, .unset, .unset] [.null, (.int p3), (.int (p2.toInt16.toInt32)), (.ref r_1), (.ref b311), (.ref b311)])) _
      refine st313.trans ?_
      show Steps p.tables e below (T313.setTop (mkF m 169 #[.val (.int p1), .val (.int p2), .val (.int p3), .val (.int p4), .val (.int ((p1 &&& (2147483647 : Int32)) % (21 : Int32))), .val (.int (p2.toInt16.toInt32)), .val (.ref r_1), .val .null, .val (.ref b201), .unset, .unset, .unset] [(.ref b311)])) _
      refine XS.astore X313.here hx rfl (hb hby at_169) rfl rfl (l' := #[.val (.int p1), .val (.int p2), .val (.int p3), .val (.int p4), .val (.int ((p1 &&& (2147483647 : Int32)) % (21 : Int32))), .val (.int (p2.toInt16.toInt32)), .val (.ref r_1), .val .null, .val (.ref b201), .val (.ref b311), .unset, .unset]) rfl ?_
      show Steps p.tables e below (T313.setTop (mkF m 171 #[.val (.int p1), .val (.int p2), .val (.int p3), .val (.int p4), .val (.int ((p1 &&& (2147483647 : Int32)) % (21 : Int32))), .val (.int (p2.toInt16.toInt32)), .val (.ref r_1), .val .null, .val (.ref b201), .val (.ref b311), .unset, .unset] [])) _
      refine XS.aload X313.here hx rfl (hb hby at_171) rfl rfl ?_
      show Steps p.tables e below (T313.setTop (mkF m 173 #[.val (.int p1), .val (.int p2), .val (.int p3), .val (.int p4), .val (.int ((p1 &&& (2147483647 : Int32)) % (21 : Int32))), .val (.int (p2.toInt16.toInt32)), .val (.ref r_1), .val .null, .val (.ref b201), .val (.ref b311), .unset, .unset] [(.ref b311)])) _
      refine st340 _ ?_
      show Steps p.tables e below (T340.setTop (mkF m 176 #[.val (.int p1), .val (.int p2), .val (.int p3), .val (.int p4), .val (.int ((p1 &&& (2147483647 : Int32)) % (21 : Int32))), .val (.int (p2.toInt16.toInt32)), .val (.ref r_1), .val .null, .val (.ref b201), .val (.ref b311), .unset, .unset] [(.ref r_340)])) _
      refine XS.astore X340.here hx rfl (hb hby at_176) rfl rfl (l' := #[.val (.int p1), .val (.int p2), .val (.int p3), .val (.int p4), .val (.int ((p1 &&& (2147483647 : Int32)) % (21 : Int32))), .val (.int (p2.toInt16.toInt32)), .val (.ref r_1), .val .null, .val (.ref b201), .val (.ref b311), .val (.ref r_340), .unset]) rfl ?_
      show Steps p.tables e below (T340.setTop (mkF m 178 #[.val (.int p1), .val (.int p2), .val (.int p3), .val (.int p4), .val (.int ((p1 &&& (2147483647 : Int32)) % (21 : Int32))), .val (.int (p2.toInt16.toInt32)), .val (.ref r_1), .val .null, .val (.ref b201), .val (.ref b311), .val (.ref r_340), .unset] [])) _
      refine XS.iload X340.here hx rfl (hb hby at_178) rfl ?_
      show Steps p.tables e below (T340.setTop (mkF m 180 #[.val (.int p1), .val (.int p2), .val (.int p3), .val (.int p4), .val (.int ((p1 &&& (2147483647 : Int32)) % (21 : Int32))), .val (.int (p2.toInt16.toInt32)), .val (.ref r_1), .val .null, .val (.ref b201), .val (.ref b311), .val (.ref r_340), .unset] [(.int ((p1 &&& (2147483647 : Int32)) % (21 : Int32)))])) _
      refine XS.bipush X340.here hx rfl (hb hby at_180) ?_
      exact kt
    by_cases h11 : ((p1 &&& (2147483647 : Int32)) % (21 : Int32)) = (11 : Int32)
    · obtain ⟨cq364, kq364, q364a, q364b, q364c⟩ := isOf hZ rfl t340_1
      obtain ⟨_, _, ⟨T364, L364, k364, n364⟩, -, X364, ⟨Lc364, hQ364, l364, y364, z364⟩, st364⟩ := X340.virtualBack hx (y := (⟨"com/example/alviso/alviso/protocol/ResponseHeader", "correlationId", "()I"⟩ : MethodName)) (z := (⟨"com/example/alviso/alviso/protocol/ResponseHeader", "correlationId", "()I"⟩ : MethodName)) hown (mvT hZ (hw _ (List.mem_of_getElem? (i := 96) rfl))) (mvT hZ (hw _ (List.mem_of_getElem? (i := 97) rfl))) (notFace_of_selects (args := #[]) (mvT hZ (hw _ (List.mem_of_getElem? (i := 99) rfl)))) (mvT hZ (hw _ (List.mem_of_getElem? (i := 99) rfl))) (mvT hZ (hw _ (List.mem_of_getElem? (i := 98) rfl))) (by decide) (backOf (W := 0) (rm16 l Z a0 hw [] r_340 p3 T340.heap n0 (Nat.le_trans Z0 K340.1) t340_2) hZ (hw _ (List.mem_of_getElem? (i := 100) rfl)) (hw _ (List.mem_of_getElem? (i := 57) rfl)) (by decide) (by decide)) q364a q364c (g := (mkF m 209 #[.val (.int p1), .val (.int p2), .val (.int p3), .val (.int p4), .val (.int ((p1 &&& (2147483647 : Int32)) % (21 : Int32))), .val (.int (p2.toInt16.toInt32)), .val (.ref r_1), .val .null, .val (.ref b201), .val (.ref b311), .val (.ref r_340), .val (.int (0 : Int32))] [(.ref r_340)])) rfl (by rw [hml]; rfl) (Steps.refl _) (argsL := []) (rest := []) (lenOf pd__28_29I rfl) rfl (by show 2 * 0 + _ ≤ _; exact Nat.le_of_eq rfl) (hb hby at_209) (fun _ _ => ⟨rfl, rfl, (by decide : 3 + 0 ≤ _), (by decide : 27 + 0 ≤ _)⟩)
      dsimp only [Pt.U, Pt.locs, Pt.cells, Pt.slots] at y364 z364 st364 hQ364
      change Stand p l e _ s m _ below meth c T364 L364 k364 n364 at X364
      change L364 = _ ++ Lc364 at l364
      subst y364 z364
      obtain ⟨rfl, N364q, e364⟩ := hQ364
      have N364 : Fr n0 L364 := l364 ▸ Fr.app N340 N364q
      obtain ⟨cq365, kq365, q365a, q365b, q365c⟩ := isOf hZ e364 t340_1
      obtain ⟨_, _, ⟨T365, L365, k365, n365⟩, -, X365, ⟨Lc365, hQ365, l365, y365, z365⟩, st365⟩ := X364.virtualBack hx (y := (⟨"com/example/alviso/alviso/protocol/ResponseHeader", "flexible", "()Z"⟩ : MethodName)) (z := (⟨"com/example/alviso/alviso/protocol/ResponseHeader", "flexible", "()Z"⟩ : MethodName)) hown (mvT hZ (hw _ (List.mem_of_getElem? (i := 101) rfl))) (mvT hZ (hw _ (List.mem_of_getElem? (i := 102) rfl))) (notFace_of_selects (args := #[]) (mvT hZ (hw _ (List.mem_of_getElem? (i := 104) rfl)))) (mvT hZ (hw _ (List.mem_of_getElem? (i := 104) rfl))) (mvT hZ (hw _ (List.mem_of_getElem? (i := 103) rfl))) (by decide) (backOf (W := 0) (rm17 l Z a0 hw [] r_340 (nar .boolean (own_flex (r_1 = w_API_VERSIONS) (nar .short (nar .short (p2.toInt16.toInt32))) (own_ff ((p1 &&& (2147483647 : Int32)) % (21 : Int32))))) T340.heap n0 (Nat.le_trans Z0 K340.1) t340_3) hZ (hw _ (List.mem_of_getElem? (i := 105) rfl)) (hw _ (List.mem_of_getElem? (i := 57) rfl)) (by decide) (by decide)) q365a q365c (g := (mkF m 218 #[.val (.int p1), .val (.int p2), .val (.int p3), .val (.int p4), .val (.int ((p1 &&& (2147483647 : Int32)) % (21 : Int32))), .val (.int (p2.toInt16.toInt32)), .val (.ref r_1), .val .null, .val (.ref b201), .val (.ref b311), .val (.ref r_340), .val (.int (0 : Int32))] [(.ref r_340)])) rfl (by rw [hml]; rfl) (Steps.refl _) (argsL := []) (rest := []) (lenOf pd__28_29Z rfl) rfl (by show 2 * 0 + _ ≤ _; exact Nat.le_of_eq rfl) (hb hby at_218) (fun _ _ => ⟨rfl, e364, (by decide : 3 + 0 ≤ _), (by decide : 27 + 0 ≤ _)⟩)
      dsimp only [Pt.U, Pt.locs, Pt.cells, Pt.slots] at y365 z365 st365 hQ365
      change Stand p l e _ s m _ below meth c T365 L365 k365 n365 at X365
      change L365 = _ ++ Lc365 at l365
      subst y365 z365
      obtain ⟨rfl, N365q, e365⟩ := hQ365
      have N365 : Fr n0 L365 := l365 ▸ Fr.app N364 N365q
      obtain ⟨fs, hr, hrun, hended, hW, hsame⟩ := X365.leave (v := some (.int (1 : Int32))) (fun h => by rw [Bd.returns] at h; cases h)
      refine ⟨_, _, pre363 _ ?_, hrun, hended, _, _, rfl, ?_, ⟨_, rfl⟩, hW, hsame.mono (by decide) (by decide)⟩
      · show Steps p.tables e below (T340.setTop (mkF m 182 #[.val (.int p1), .val (.int p2), .val (.int p3), .val (.int p4), .val (.int ((p1 &&& (2147483647 : Int32)) % (21 : Int32))), .val (.int (p2.toInt16.toInt32)), .val (.ref r_1), .val .null, .val (.ref b201), .val (.ref b311), .val (.ref r_340), .unset] [(.int (11 : Int32)), (.int ((p1 &&& (2147483647 : Int32)) % (21 : Int32)))])) _
        refine XS.icmpYes X340.here hx rfl (pc0 := 182) (pc' := 199) rfl (hb hby at_182) rfl (teq h11).1 (by decide) (by decide) ?_
        show Steps p.tables e below (T340.setTop (mkF m 199 #[.val (.int p1), .val (.int p2), .val (.int p3), .val (.int p4), .val (.int ((p1 &&& (2147483647 : Int32)) % (21 : Int32))), .val (.int (p2.toInt16.toInt32)), .val (.ref r_1), .val .null, .val (.ref b201), .val (.ref b311), .val (.ref r_340), .unset] [])) _
        refine XS.iconst X340.here hx rfl (hb hby at_199) ?_
        show Steps p.tables e below (T340.setTop (mkF m 200 #[.val (.int p1), .val (.int p2), .val (.int p3), .val (.int p4), .val (.int ((p1 &&& (2147483647 : Int32)) % (21 : Int32))), .val (.int (p2.toInt16.toInt32)), .val (.ref r_1), .val .null, .val (.ref b201), .val (.ref b311), .val (.ref r_340), .unset] [(.int (0 : Int32))])) _
        refine XS.istore X340.here hx rfl (hb hby at_200) rfl (l' := #[.val (.int p1), .val (.int p2), .val (.int p3), .val (.int p4), .val (.int ((p1 &&& (2147483647 : Int32)) % (21 : Int32))), .val (.int (p2.toInt16.toInt32)), .val (.ref r_1), .val .null, .val (.ref b201), .val (.ref b311), .val (.ref r_340), .val (.int (0 : Int32))]) rfl ?_
        show Steps p.tables e below (T340.setTop (mkF m 202 #[.val (.int p1), .val (.int p2), .val (.int p3), .val (.int p4), .val (.int ((p1 &&& (2147483647 : Int32)) % (21 : Int32))), .val (.int (p2.toInt16.toInt32)), .val (.ref r_1), .val .null, .val (.ref b201), .val (.ref b311), .val (.ref r_340), .val (.int (0 : Int32))] [])) _
        refine XS.aload X340.here hx rfl (hb hby at_202) rfl rfl ?_
        show Steps p.tables e below (T340.setTop (mkF m 204 #[.val (.int p1), .val (.int p2), .val (.int p3), .val (.int p4), .val (.int ((p1 &&& (2147483647 : Int32)) % (21 : Int32))), .val (.int (p2.toInt16.toInt32)), .val (.ref r_1), .val .null, .val (.ref b201), .val (.ref b311), .val (.ref r_340), .val (.int (0 : Int32))] [(.ref r_340)])) _
        refine XS.ifnullNo X340.here hx rfl (hb hby at_204) rfl ?_
        show Steps p.tables e below (T340.setTop (mkF m 207 #[.val (.int p1), .val (.int p2), .val (.int p3), .val (.int p4), .val (.int ((p1 &&& (2147483647 : Int32)) % (21 : Int32))), .val (.int (p2.toInt16.toInt32)), .val (.ref r_1), .val .null, .val (.ref b201), .val (.ref b311), .val (.ref r_340), .val (.int (0 : Int32))] [])) _
        refine XS.aload X340.here hx rfl (hb hby at_207) rfl rfl ?_
        show Steps p.tables e below (T340.setTop (mkF m 209 #[.val (.int p1), .val (.int p2), .val (.int p3), .val (.int p4), .val (.int ((p1 &&& (2147483647 : Int32)) % (21 : Int32))), .val (.int (p2.toInt16.toInt32)), .val (.ref r_1), .val .null, .val (.ref b201), .val (.ref b311), .val (.ref r_340), .val (.int (0 : Int32))] [(.ref r_340)])) _
        refine st364.trans ?_
        show Steps p.tables e below (T364.setTop (mkF m 212 #[.val (.int p1), .val (.int p2), .val (.int p3), .val (.int p4), .val (.int ((p1 &&& (2147483647 : Int32)) % (21 : Int32))), .val (.int (p2.toInt16.toInt32)), .val (.ref r_1), .val .null, .val (.ref b201), .val (.ref b311), .val (.ref r_340), .val (.int (0 : Int32))] [(.int p3)])) _
        refine XS.iloadN X364.here hx rfl (hb hby at_212) rfl ?_
        show Steps p.tables e below (T364.setTop (mkF m 213 #[.val (.int p1), .val (.int p2), .val (.int p3), .val (.int p4), .val (.int ((p1 &&& (2147483647 : Int32)) % (21 : Int32))), .val (.int (p2.toInt16.toInt32)), .val (.ref r_1), .val .null, .val (.ref b201), .val (.ref b311), .val (.ref r_340), .val (.int (0 : Int32))] [(.int p3), (.int p3)])) _
        refine XS.icmpNo X364.here hx rfl (hb hby at_213) rfl (teq rfl).2 ?_
        show Steps p.tables e below (T364.setTop (mkF m 216 #[.val (.int p1), .val (.int p2), .val (.int p3), .val (.int p4), .val (.int ((p1 &&& (2147483647 : Int32)) % (21 : Int32))), .val (.int (p2.toInt16.toInt32)), .val (.ref r_1), .val .null, .val (.ref b201), .val (.ref b311), .val (.ref r_340), .val (.int (0 : Int32))] [])) _
        refine XS.aload X364.here hx rfl (hb hby at_216) rfl rfl ?_
        show Steps p.tables e below (T364.setTop (mkF m 218 #[.val (.int p1), .val (.int p2), .val (.int p3), .val (.int p4), .val (.int ((p1 &&& (2147483647 : Int32)) % (21 : Int32))), .val (.int (p2.toInt16.toInt32)), .val (.ref r_1), .val .null, .val (.ref b201), .val (.ref b311), .val (.ref r_340), .val (.int (0 : Int32))] [(.ref r_340)])) _
        refine st365.trans ?_
        show Steps p.tables e below (T365.setTop (mkF m 221 #[.val (.int p1), .val (.int p2), .val (.int p3), .val (.int p4), .val (.int ((p1 &&& (2147483647 : Int32)) % (21 : Int32))), .val (.int (p2.toInt16.toInt32)), .val (.ref r_1), .val .null, .val (.ref b201), .val (.ref b311), .val (.ref r_340), .val (.int (0 : Int32))] [(.int (nar .boolean (nar .boolean (own_flex (r_1 = w_API_VERSIONS) (nar .short (nar .short (p2.toInt16.toInt32))) (own_ff ((p1 &&& (2147483647 : Int32)) % (21 : Int32)))))))])) _
        refine XS.iload X365.here hx rfl (hb hby at_221) rfl ?_
        show Steps p.tables e below (T365.setTop (mkF m 223 #[.val (.int p1), .val (.int p2), .val (.int p3), .val (.int p4), .val (.int ((p1 &&& (2147483647 : Int32)) % (21 : Int32))), .val (.int (p2.toInt16.toInt32)), .val (.ref r_1), .val .null, .val (.ref b201), .val (.ref b311), .val (.ref r_340), .val (.int (0 : Int32))] [(.int (0 : Int32)), (.int (nar .boolean (nar .boolean (own_flex (r_1 = w_API_VERSIONS) (nar .short (nar .short (p2.toInt16.toInt32))) (own_ff ((p1 &&& (2147483647 : Int32)) % (21 : Int32)))))))])) _
        refine XS.icmpNo X365.here hx rfl (hb hby at_223) rfl (teq (own_fin1 (t1_2.mpr h11) : (nar .boolean (nar .boolean (own_flex (r_1 = w_API_VERSIONS) (nar .short (nar .short (p2.toInt16.toInt32))) (own_ff ((p1 &&& (2147483647 : Int32)) % (21 : Int32)))))) = (0 : Int32))).2 ?_
        show Steps p.tables e below (T365.setTop (mkF m 226 #[.val (.int p1), .val (.int p2), .val (.int p3), .val (.int p4), .val (.int ((p1 &&& (2147483647 : Int32)) % (21 : Int32))), .val (.int (p2.toInt16.toInt32)), .val (.ref r_1), .val .null, .val (.ref b201), .val (.ref b311), .val (.ref r_340), .val (.int (0 : Int32))] [])) _
        refine XS.iconst X365.here hx rfl (hb hby at_226) ?_
        show Steps p.tables e below (T365.setTop (mkF m 227 #[.val (.int p1), .val (.int p2), .val (.int p3), .val (.int p4), .val (.int ((p1 &&& (2147483647 : Int32)) % (21 : Int32))), .val (.int (p2.toInt16.toInt32)), .val (.ref r_1), .val .null, .val (.ref b201), .val (.ref b311), .val (.ref r_340), .val (.int (0 : Int32))] [(.int (1 : Int32))])) _
        refine XS.goto X365.here hx rfl (pc0 := 227) (pc' := 231) rfl (hb hby at_227) (by decide) (by decide) ?_
        show Steps p.tables e below (T365.setTop (mkF m 231 #[.val (.int p1), .val (.int p2), .val (.int p3), .val (.int p4), .val (.int ((p1 &&& (2147483647 : Int32)) % (21 : Int32))), .val (.int (p2.toInt16.toInt32)), .val (.ref r_1), .val .null, .val (.ref b201), .val (.ref b311), .val (.ref r_340), .val (.int (0 : Int32))] [(.int (1 : Int32))])) _
        exact retN X365 hx (t := .boolean) Bd.returns (by simp) (hb hby at_231) hr
      · show Q_rm0 Z p1 p2 p3 p4 w_PRODUCE w_FETCH w_LIST_OFFSETS w_METADATA w_OFFSET_COMMIT w_OFFSET_FETCH w_FIND_COORDINATOR w_JOIN_GROUP w_HEARTBEAT w_LEAVE_GROUP w_SYNC_GROUP w_API_VERSIONS w_CREATE_TOPICS w_INIT_PRODUCER_ID w_OFFSET_FOR_LEADER_EPOCH w_DESCRIBE_CONFIGS w_ELECT_LEADERS w_ALTER_PARTITION w_BROKER_REGISTRATION w_BROKER_HEARTBEAT w_ALLOCATE_PRODUCER_IDS cs h0 n0 _ T365.heap _
        rw [e365]
        exact ⟨rfl, N365⟩
    · have f366 : Arv Z T340.heap b201 k201 .int (21 : Int32) [(.int (9 : Int32)), (.int (12 : Int32)), (.int (6 : Int32)), (.int (9 : Int32)), (.int (8 : Int32)), (.int (6 : Int32)), (.int (3 : Int32)), (.int (6 : Int32)), (.int (4 : Int32)), (.int (4 : Int32)), (.int (4 : Int32)), (.int (3 : Int32)), (.int (5 : Int32)), (.int (2 : Int32)), (.int (4 : Int32)), (.int (4 : Int32)), (.int (2 : Int32)), (.int (0 : Int32)), (.int (0 : Int32)), (.int (0 : Int32)), (.int (0 : Int32))] (.int (0 : Int32)) := (f341.keep K340q nin0)
      obtain ⟨c367, Ac367, qc367, Sc367, Nc367, Hc367, Gc367⟩ := id f366
      have hinc367 := inb_of Sc367 (j := ((p1 &&& (2147483647 : Int32)) % (21 : Int32))) (own_in (own_m p1))
      have pre368 : ∀ t, Steps p.tables e below (T340.setTop (mkF m 192 #[.val (.int p1), .val (.int p2), .val (.int p3), .val (.int p4), .val (.int ((p1 &&& (2147483647 : Int32)) % (21 : Int32))), .val (.int (p2.toInt16.toInt32)), .val (.ref r_1), .val .null, .val (.ref b201), .val (.ref b311), .val (.ref r_340), .unset] [(.int (own_ff ((p1 &&& (2147483647 : Int32)) % (21 : Int32)))), (.int (p2.toInt16.toInt32))])) t → Steps p.tables e below (s₁.setTop (entryFrame m #[(.int p1), (.int p2), (.int p3), (.int p4)] maxLocals)) t := fun t kt => by
        refine pre363 t ?_
        show Steps p.tables e below (T340.setTop (mkF m 182 #[.val (.int p1), .val (.int p2), .val (.int p3), .val (.int p4), .val (.int ((p1 &&& (2147483647 : Int32)) % (21 : Int32))), .val (.int (p2.toInt16.toInt32)), .val (.ref r_1), .val .null, .val (.ref b201), .val (.ref b311), .val (.ref r_340), .unset] [(.int (11 : Int32)), (.int ((p1 &&& (2147483647 : Int32)) % (21 : Int32)))])) _
        refine XS.icmpNo X340.here hx rfl (hb hby at_182) rfl (feq h11).1 ?_
        show Steps p.tables e below (T340.setTop (mkF m 185 #[.val (.int p1), .val (.int p2), .val (.int p3), .val (.int p4), .val (.int ((p1 &&& (2147483647 : Int32)) % (21 : Int32))), .val (.int (p2.toInt16.toInt32)), .val (.ref r_1), .val .null, .val (.ref b201), .val (.ref b311), .val (.ref r_340), .unset] [])) _
        refine XS.iload X340.here hx rfl (hb hby at_185) rfl ?_
        show Steps p.tables e below (T340.setTop (mkF m 187 #[.val (.int p1), .val (.int p2), .val (.int p3), .val (.int p4), .val (.int ((p1 &&& (2147483647 : Int32)) % (21 : Int32))), .val (.int (p2.toInt16.toInt32)), .val (.ref r_1), .val .null, .val (.ref b201), .val (.ref b311), .val (.ref r_340), .unset] [(.int (p2.toInt16.toInt32))])) _
        refine XS.aload X340.here hx rfl (hb hby at_187) rfl rfl ?_
        show Steps p.tables e below (T340.setTop (mkF m 189 #[.val (.int p1), .val (.int p2), .val (.int p3), .val (.int p4), .val (.int ((p1 &&& (2147483647 : Int32)) % (21 : Int32))), .val (.int (p2.toInt16.toInt32)), .val (.ref r_1), .val .null, .val (.ref b201), .val (.ref b311), .val (.ref r_340), .unset] [(.ref b201), (.int (p2.toInt16.toInt32))])) _
        refine XS.iload X340.here hx rfl (hb hby at_189) rfl ?_
        show Steps p.tables e below (T340.setTop (mkF m 191 #[.val (.int p1), .val (.int p2), .val (.int p3), .val (.int p4), .val (.int ((p1 &&& (2147483647 : Int32)) % (21 : Int32))), .val (.int (p2.toInt16.toInt32)), .val (.ref r_1), .val .null, .val (.ref b201), .val (.ref b311), .val (.ref r_340), .unset] [(.int ((p1 &&& (2147483647 : Int32)) % (21 : Int32))), (.ref b201), (.int (p2.toInt16.toInt32))])) _
        refine X340.iaload hx (j := ((p1 &&& (2147483647 : Int32)) % (21 : Int32))) (v := (.int (own_ff ((p1 &&& (2147483647 : Int32)) % (21 : Int32))))) Ac367.1 (State.isArrayOf_alike hZ.alike Ac367.2.1) Ac367.2.2 hinc367 (Has.at Hc367 hinc367 (own_tab (own_m p1))) (g := (mkF m 191 #[.val (.int p1), .val (.int p2), .val (.int p3), .val (.int p4), .val (.int ((p1 &&& (2147483647 : Int32)) % (21 : Int32))), .val (.int (p2.toInt16.toInt32)), .val (.ref r_1), .val .null, .val (.ref b201), .val (.ref b311), .val (.ref r_340), .unset] [(.int ((p1 &&& (2147483647 : Int32)) % (21 : Int32))), (.ref b201), (.int (p2.toInt16.toInt32))])) rfl rfl (hb hby at_191) _ ?_
        exact kt
      by_cases hV : (p2.toInt16.toInt32) < (own_ff ((p1 &&& (2147483647 : Int32)) % (21 : Int32)))
      · obtain ⟨cq369, kq369, q369a, q369b, q369c⟩ := isOf hZ rfl t340_1
        obtain ⟨_, _, ⟨T369, L369, k369, n369⟩, -, X369, ⟨Lc369, hQ369, l369, y369, z369⟩, st369⟩ := X340.virtualBack hx (y := (⟨"com/example/alviso/alviso/protocol/ResponseHeader", "correlationId", "()I"⟩ : MethodName)) (z := (⟨"com/example/alviso/alviso/protocol/ResponseHeader", "correlationId", "()I"⟩ : MethodName)) hown (mvT hZ (hw _ (List.mem_of_getElem? (i := 96) rfl))) (mvT hZ (hw _ (List.mem_of_getElem? (i := 97) rfl))) (notFace_of_selects (args := #[]) (mvT hZ (hw _ (List.mem_of_getElem? (i := 99) rfl)))) (mvT hZ (hw _ (List.mem_of_getElem? (i := 99) rfl))) (mvT hZ (hw _ (List.mem_of_getElem? (i := 98) rfl))) (by decide) (backOf (W := 0) (rm16 l Z a0 hw [] r_340 p3 T340.heap n0 (Nat.le_trans Z0 K340.1) t340_2) hZ (hw _ (List.mem_of_getElem? (i := 100) rfl)) (hw _ (List.mem_of_getElem? (i := 57) rfl)) (by decide) (by decide)) q369a q369c (g := (mkF m 209 #[.val (.int p1), .val (.int p2), .val (.int p3), .val (.int p4), .val (.int ((p1 &&& (2147483647 : Int32)) % (21 : Int32))), .val (.int (p2.toInt16.toInt32)), .val (.ref r_1), .val .null, .val (.ref b201), .val (.ref b311), .val (.ref r_340), .val (.int (0 : Int32))] [(.ref r_340)])) rfl (by rw [hml]; rfl) (Steps.refl _) (argsL := []) (rest := []) (lenOf pd__28_29I rfl) rfl (by show 2 * 0 + _ ≤ _; exact Nat.le_of_eq rfl) (hb hby at_209) (fun _ _ => ⟨rfl, rfl, (by decide : 3 + 0 ≤ _), (by decide : 27 + 0 ≤ _)⟩)
        dsimp only [Pt.U, Pt.locs, Pt.cells, Pt.slots] at y369 z369 st369 hQ369
        change Stand p l e _ s m _ below meth c T369 L369 k369 n369 at X369
        change L369 = _ ++ Lc369 at l369
        subst y369 z369
        obtain ⟨rfl, N369q, e369⟩ := hQ369
        have N369 : Fr n0 L369 := l369 ▸ Fr.app N340 N369q
        obtain ⟨cq370, kq370, q370a, q370b, q370c⟩ := isOf hZ e369 t340_1
        obtain ⟨_, _, ⟨T370, L370, k370, n370⟩, -, X370, ⟨Lc370, hQ370, l370, y370, z370⟩, st370⟩ := X369.virtualBack hx (y := (⟨"com/example/alviso/alviso/protocol/ResponseHeader", "flexible", "()Z"⟩ : MethodName)) (z := (⟨"com/example/alviso/alviso/protocol/ResponseHeader", "flexible", "()Z"⟩ : MethodName)) hown (mvT hZ (hw _ (List.mem_of_getElem? (i := 101) rfl))) (mvT hZ (hw _ (List.mem_of_getElem? (i := 102) rfl))) (notFace_of_selects (args := #[]) (mvT hZ (hw _ (List.mem_of_getElem? (i := 104) rfl)))) (mvT hZ (hw _ (List.mem_of_getElem? (i := 104) rfl))) (mvT hZ (hw _ (List.mem_of_getElem? (i := 103) rfl))) (by decide) (backOf (W := 0) (rm17 l Z a0 hw [] r_340 (nar .boolean (own_flex (r_1 = w_API_VERSIONS) (nar .short (nar .short (p2.toInt16.toInt32))) (own_ff ((p1 &&& (2147483647 : Int32)) % (21 : Int32))))) T340.heap n0 (Nat.le_trans Z0 K340.1) t340_3) hZ (hw _ (List.mem_of_getElem? (i := 105) rfl)) (hw _ (List.mem_of_getElem? (i := 57) rfl)) (by decide) (by decide)) q370a q370c (g := (mkF m 218 #[.val (.int p1), .val (.int p2), .val (.int p3), .val (.int p4), .val (.int ((p1 &&& (2147483647 : Int32)) % (21 : Int32))), .val (.int (p2.toInt16.toInt32)), .val (.ref r_1), .val .null, .val (.ref b201), .val (.ref b311), .val (.ref r_340), .val (.int (0 : Int32))] [(.ref r_340)])) rfl (by rw [hml]; rfl) (Steps.refl _) (argsL := []) (rest := []) (lenOf pd__28_29Z rfl) rfl (by show 2 * 0 + _ ≤ _; exact Nat.le_of_eq rfl) (hb hby at_218) (fun _ _ => ⟨rfl, e369, (by decide : 3 + 0 ≤ _), (by decide : 27 + 0 ≤ _)⟩)
        dsimp only [Pt.U, Pt.locs, Pt.cells, Pt.slots] at y370 z370 st370 hQ370
        change Stand p l e _ s m _ below meth c T370 L370 k370 n370 at X370
        change L370 = _ ++ Lc370 at l370
        subst y370 z370
        obtain ⟨rfl, N370q, e370⟩ := hQ370
        have N370 : Fr n0 L370 := l370 ▸ Fr.app N369 N370q
        obtain ⟨fs, hr, hrun, hended, hW, hsame⟩ := X370.leave (v := some (.int (1 : Int32))) (fun h => by rw [Bd.returns] at h; cases h)
        refine ⟨_, _, pre368 _ ?_, hrun, hended, _, _, rfl, ?_, ⟨_, rfl⟩, hW, hsame.mono (by decide) (by decide)⟩
        · show Steps p.tables e below (T340.setTop (mkF m 192 #[.val (.int p1), .val (.int p2), .val (.int p3), .val (.int p4), .val (.int ((p1 &&& (2147483647 : Int32)) % (21 : Int32))), .val (.int (p2.toInt16.toInt32)), .val (.ref r_1), .val .null, .val (.ref b201), .val (.ref b311), .val (.ref r_340), .unset] [(.int (own_ff ((p1 &&& (2147483647 : Int32)) % (21 : Int32)))), (.int (p2.toInt16.toInt32))])) _
          refine XS.icmpYes X340.here hx rfl (pc0 := 192) (pc' := 199) rfl (hb hby at_192) rfl (tlt hV).1 (by decide) (by decide) ?_
          show Steps p.tables e below (T340.setTop (mkF m 199 #[.val (.int p1), .val (.int p2), .val (.int p3), .val (.int p4), .val (.int ((p1 &&& (2147483647 : Int32)) % (21 : Int32))), .val (.int (p2.toInt16.toInt32)), .val (.ref r_1), .val .null, .val (.ref b201), .val (.ref b311), .val (.ref r_340), .unset] [])) _
          refine XS.iconst X340.here hx rfl (hb hby at_199) ?_
          show Steps p.tables e below (T340.setTop (mkF m 200 #[.val (.int p1), .val (.int p2), .val (.int p3), .val (.int p4), .val (.int ((p1 &&& (2147483647 : Int32)) % (21 : Int32))), .val (.int (p2.toInt16.toInt32)), .val (.ref r_1), .val .null, .val (.ref b201), .val (.ref b311), .val (.ref r_340), .unset] [(.int (0 : Int32))])) _
          refine XS.istore X340.here hx rfl (hb hby at_200) rfl (l' := #[.val (.int p1), .val (.int p2), .val (.int p3), .val (.int p4), .val (.int ((p1 &&& (2147483647 : Int32)) % (21 : Int32))), .val (.int (p2.toInt16.toInt32)), .val (.ref r_1), .val .null, .val (.ref b201), .val (.ref b311), .val (.ref r_340), .val (.int (0 : Int32))]) rfl ?_
          show Steps p.tables e below (T340.setTop (mkF m 202 #[.val (.int p1), .val (.int p2), .val (.int p3), .val (.int p4), .val (.int ((p1 &&& (2147483647 : Int32)) % (21 : Int32))), .val (.int (p2.toInt16.toInt32)), .val (.ref r_1), .val .null, .val (.ref b201), .val (.ref b311), .val (.ref r_340), .val (.int (0 : Int32))] [])) _
          refine XS.aload X340.here hx rfl (hb hby at_202) rfl rfl ?_
          show Steps p.tables e below (T340.setTop (mkF m 204 #[.val (.int p1), .val (.int p2), .val (.int p3), .val (.int p4), .val (.int ((p1 &&& (2147483647 : Int32)) % (21 : Int32))), .val (.int (p2.toInt16.toInt32)), .val (.ref r_1), .val .null, .val (.ref b201), .val (.ref b311), .val (.ref r_340), .val (.int (0 : Int32))] [(.ref r_340)])) _
          refine XS.ifnullNo X340.here hx rfl (hb hby at_204) rfl ?_
          show Steps p.tables e below (T340.setTop (mkF m 207 #[.val (.int p1), .val (.int p2), .val (.int p3), .val (.int p4), .val (.int ((p1 &&& (2147483647 : Int32)) % (21 : Int32))), .val (.int (p2.toInt16.toInt32)), .val (.ref r_1), .val .null, .val (.ref b201), .val (.ref b311), .val (.ref r_340), .val (.int (0 : Int32))] [])) _
          refine XS.aload X340.here hx rfl (hb hby at_207) rfl rfl ?_
          show Steps p.tables e below (T340.setTop (mkF m 209 #[.val (.int p1), .val (.int p2), .val (.int p3), .val (.int p4), .val (.int ((p1 &&& (2147483647 : Int32)) % (21 : Int32))), .val (.int (p2.toInt16.toInt32)), .val (.ref r_1), .val .null, .val (.ref b201), .val (.ref b311), .val (.ref r_340), .val (.int (0 : Int32))] [(.ref r_340)])) _
          refine st369.trans ?_
          show Steps p.tables e below (T369.setTop (mkF m 212 #[.val (.int p1), .val (.int p2), .val (.int p3), .val (.int p4), .val (.int ((p1 &&& (2147483647 : Int32)) % (21 : Int32))), .val (.int (p2.toInt16.toInt32)), .val (.ref r_1), .val .null, .val (.ref b201), .val (.ref b311), .val (.ref r_340), .val (.int (0 : Int32))] [(.int p3)])) _
          refine XS.iloadN X369.here hx rfl (hb hby at_212) rfl ?_
          show Steps p.tables e below (T369.setTop (mkF m 213 #[.val (.int p1), .val (.int p2), .val (.int p3), .val (.int p4), .val (.int ((p1 &&& (2147483647 : Int32)) % (21 : Int32))), .val (.int (p2.toInt16.toInt32)), .val (.ref r_1), .val .null, .val (.ref b201), .val (.ref b311), .val (.ref r_340), .val (.int (0 : Int32))] [(.int p3), (.int p3)])) _
          refine XS.icmpNo X369.here hx rfl (hb hby at_213) rfl (teq rfl).2 ?_
          show Steps p.tables e below (T369.setTop (mkF m 216 #[.val (.int p1), .val (.int p2), .val (.int p3), .val (.int p4), .val (.int ((p1 &&& (2147483647 : Int32)) % (21 : Int32))), .val (.int (p2.toInt16.toInt32)), .val (.ref r_1), .val .null, .val (.ref b201), .val (.ref b311), .val (.ref r_340), .val (.int (0 : Int32))] [])) _
          refine XS.aload X369.here hx rfl (hb hby at_216) rfl rfl ?_
          show Steps p.tables e below (T369.setTop (mkF m 218 #[.val (.int p1), .val (.int p2), .val (.int p3), .val (.int p4), .val (.int ((p1 &&& (2147483647 : Int32)) % (21 : Int32))), .val (.int (p2.toInt16.toInt32)), .val (.ref r_1), .val .null, .val (.ref b201), .val (.ref b311), .val (.ref r_340), .val (.int (0 : Int32))] [(.ref r_340)])) _
          refine st370.trans ?_
          show Steps p.tables e below (T370.setTop (mkF m 221 #[.val (.int p1), .val (.int p2), .val (.int p3), .val (.int p4), .val (.int ((p1 &&& (2147483647 : Int32)) % (21 : Int32))), .val (.int (p2.toInt16.toInt32)), .val (.ref r_1), .val .null, .val (.ref b201), .val (.ref b311), .val (.ref r_340), .val (.int (0 : Int32))] [(.int (nar .boolean (nar .boolean (own_flex (r_1 = w_API_VERSIONS) (nar .short (nar .short (p2.toInt16.toInt32))) (own_ff ((p1 &&& (2147483647 : Int32)) % (21 : Int32)))))))])) _
          refine XS.iload X370.here hx rfl (hb hby at_221) rfl ?_
          show Steps p.tables e below (T370.setTop (mkF m 223 #[.val (.int p1), .val (.int p2), .val (.int p3), .val (.int p4), .val (.int ((p1 &&& (2147483647 : Int32)) % (21 : Int32))), .val (.int (p2.toInt16.toInt32)), .val (.ref r_1), .val .null, .val (.ref b201), .val (.ref b311), .val (.ref r_340), .val (.int (0 : Int32))] [(.int (0 : Int32)), (.int (nar .boolean (nar .boolean (own_flex (r_1 = w_API_VERSIONS) (nar .short (nar .short (p2.toInt16.toInt32))) (own_ff ((p1 &&& (2147483647 : Int32)) % (21 : Int32)))))))])) _
          refine XS.icmpNo X370.here hx rfl (hb hby at_223) rfl (teq (own_fin2 (fun q => h11 (t1_2.mp q)) hV : (nar .boolean (nar .boolean (own_flex (r_1 = w_API_VERSIONS) (nar .short (nar .short (p2.toInt16.toInt32))) (own_ff ((p1 &&& (2147483647 : Int32)) % (21 : Int32)))))) = (0 : Int32))).2 ?_
          show Steps p.tables e below (T370.setTop (mkF m 226 #[.val (.int p1), .val (.int p2), .val (.int p3), .val (.int p4), .val (.int ((p1 &&& (2147483647 : Int32)) % (21 : Int32))), .val (.int (p2.toInt16.toInt32)), .val (.ref r_1), .val .null, .val (.ref b201), .val (.ref b311), .val (.ref r_340), .val (.int (0 : Int32))] [])) _
          refine XS.iconst X370.here hx rfl (hb hby at_226) ?_
          show Steps p.tables e below (T370.setTop (mkF m 227 #[.val (.int p1), .val (.int p2), .val (.int p3), .val (.int p4), .val (.int ((p1 &&& (2147483647 : Int32)) % (21 : Int32))), .val (.int (p2.toInt16.toInt32)), .val (.ref r_1), .val .null, .val (.ref b201), .val (.ref b311), .val (.ref r_340), .val (.int (0 : Int32))] [(.int (1 : Int32))])) _
          refine XS.goto X370.here hx rfl (pc0 := 227) (pc' := 231) rfl (hb hby at_227) (by decide) (by decide) ?_
          show Steps p.tables e below (T370.setTop (mkF m 231 #[.val (.int p1), .val (.int p2), .val (.int p3), .val (.int p4), .val (.int ((p1 &&& (2147483647 : Int32)) % (21 : Int32))), .val (.int (p2.toInt16.toInt32)), .val (.ref r_1), .val .null, .val (.ref b201), .val (.ref b311), .val (.ref r_340), .val (.int (0 : Int32))] [(.int (1 : Int32))])) _
          exact retN X370 hx (t := .boolean) Bd.returns (by simp) (hb hby at_231) hr
        · show Q_rm0 Z p1 p2 p3 p4 w_PRODUCE w_FETCH w_LIST_OFFSETS w_METADATA w_OFFSET_COMMIT w_OFFSET_FETCH w_FIND_COORDINATOR w_JOIN_GROUP w_HEARTBEAT w_LEAVE_GROUP w_SYNC_GROUP w_API_VERSIONS w_CREATE_TOPICS w_INIT_PRODUCER_ID w_OFFSET_FOR_LEADER_EPOCH w_DESCRIBE_CONFIGS w_ELECT_LEADERS w_ALTER_PARTITION w_BROKER_REGISTRATION w_BROKER_HEARTBEAT w_ALLOCATE_PRODUCER_IDS cs h0 n0 _ T370.heap _
          rw [e370]
          exact ⟨rfl, N370⟩
      · obtain ⟨cq371, kq371, q371a, q371b, q371c⟩ := isOf hZ rfl t340_1
        obtain ⟨_, _, ⟨T371, L371, k371, n371⟩, -, X371, ⟨Lc371, hQ371, l371, y371, z371⟩, st371⟩ := X340.virtualBack hx (y := (⟨"com/example/alviso/alviso/protocol/ResponseHeader", "correlationId", "()I"⟩ : MethodName)) (z := (⟨"com/example/alviso/alviso/protocol/ResponseHeader", "correlationId", "()I"⟩ : MethodName)) hown (mvT hZ (hw _ (List.mem_of_getElem? (i := 96) rfl))) (mvT hZ (hw _ (List.mem_of_getElem? (i := 97) rfl))) (notFace_of_selects (args := #[]) (mvT hZ (hw _ (List.mem_of_getElem? (i := 99) rfl)))) (mvT hZ (hw _ (List.mem_of_getElem? (i := 99) rfl))) (mvT hZ (hw _ (List.mem_of_getElem? (i := 98) rfl))) (by decide) (backOf (W := 0) (rm16 l Z a0 hw [] r_340 p3 T340.heap n0 (Nat.le_trans Z0 K340.1) t340_2) hZ (hw _ (List.mem_of_getElem? (i := 100) rfl)) (hw _ (List.mem_of_getElem? (i := 57) rfl)) (by decide) (by decide)) q371a q371c (g := (mkF m 209 #[.val (.int p1), .val (.int p2), .val (.int p3), .val (.int p4), .val (.int ((p1 &&& (2147483647 : Int32)) % (21 : Int32))), .val (.int (p2.toInt16.toInt32)), .val (.ref r_1), .val .null, .val (.ref b201), .val (.ref b311), .val (.ref r_340), .val (.int (1 : Int32))] [(.ref r_340)])) rfl (by rw [hml]; rfl) (Steps.refl _) (argsL := []) (rest := []) (lenOf pd__28_29I rfl) rfl (by show 2 * 0 + _ ≤ _; exact Nat.le_of_eq rfl) (hb hby at_209) (fun _ _ => ⟨rfl, rfl, (by decide : 3 + 0 ≤ _), (by decide : 27 + 0 ≤ _)⟩)
        dsimp only [Pt.U, Pt.locs, Pt.cells, Pt.slots] at y371 z371 st371 hQ371
        change Stand p l e _ s m _ below meth c T371 L371 k371 n371 at X371
        change L371 = _ ++ Lc371 at l371
        subst y371 z371
        obtain ⟨rfl, N371q, e371⟩ := hQ371
        have N371 : Fr n0 L371 := l371 ▸ Fr.app N340 N371q
        obtain ⟨cq372, kq372, q372a, q372b, q372c⟩ := isOf hZ e371 t340_1
        obtain ⟨_, _, ⟨T372, L372, k372, n372⟩, -, X372, ⟨Lc372, hQ372, l372, y372, z372⟩, st372⟩ := X371.virtualBack hx (y := (⟨"com/example/alviso/alviso/protocol/ResponseHeader", "flexible", "()Z"⟩ : MethodName)) (z := (⟨"com/example/alviso/alviso/protocol/ResponseHeader", "flexible", "()Z"⟩ : MethodName)) hown (mvT hZ (hw _ (List.mem_of_getElem? (i := 101) rfl))) (mvT hZ (hw _ (List.mem_of_getElem? (i := 102) rfl))) (notFace_of_selects (args := #[]) (mvT hZ (hw _ (List.mem_of_getElem? (i := 104) rfl)))) (mvT hZ (hw _ (List.mem_of_getElem? (i := 104) rfl))) (mvT hZ (hw _ (List.mem_of_getElem? (i := 103) rfl))) (by decide) (backOf (W := 0) (rm17 l Z a0 hw [] r_340 (nar .boolean (own_flex (r_1 = w_API_VERSIONS) (nar .short (nar .short (p2.toInt16.toInt32))) (own_ff ((p1 &&& (2147483647 : Int32)) % (21 : Int32))))) T340.heap n0 (Nat.le_trans Z0 K340.1) t340_3) hZ (hw _ (List.mem_of_getElem? (i := 105) rfl)) (hw _ (List.mem_of_getElem? (i := 57) rfl)) (by decide) (by decide)) q372a q372c (g := (mkF m 218 #[.val (.int p1), .val (.int p2), .val (.int p3), .val (.int p4), .val (.int ((p1 &&& (2147483647 : Int32)) % (21 : Int32))), .val (.int (p2.toInt16.toInt32)), .val (.ref r_1), .val .null, .val (.ref b201), .val (.ref b311), .val (.ref r_340), .val (.int (1 : Int32))] [(.ref r_340)])) rfl (by rw [hml]; rfl) (Steps.refl _) (argsL := []) (rest := []) (lenOf pd__28_29Z rfl) rfl (by show 2 * 0 + _ ≤ _; exact Nat.le_of_eq rfl) (hb hby at_218) (fun _ _ => ⟨rfl, e371, (by decide : 3 + 0 ≤ _), (by decide : 27 + 0 ≤ _)⟩)
        dsimp only [Pt.U, Pt.locs, Pt.cells, Pt.slots] at y372 z372 st372 hQ372
        change Stand p l e _ s m _ below meth c T372 L372 k372 n372 at X372
        change L372 = _ ++ Lc372 at l372
        subst y372 z372
        obtain ⟨rfl, N372q, e372⟩ := hQ372
        have N372 : Fr n0 L372 := l372 ▸ Fr.app N371 N372q
        obtain ⟨fs, hr, hrun, hended, hW, hsame⟩ := X372.leave (v := some (.int (1 : Int32))) (fun h => by rw [Bd.returns] at h; cases h)
        refine ⟨_, _, pre368 _ ?_, hrun, hended, _, _, rfl, ?_, ⟨_, rfl⟩, hW, hsame.mono (by decide) (by decide)⟩
        · show Steps p.tables e below (T340.setTop (mkF m 192 #[.val (.int p1), .val (.int p2), .val (.int p3), .val (.int p4), .val (.int ((p1 &&& (2147483647 : Int32)) % (21 : Int32))), .val (.int (p2.toInt16.toInt32)), .val (.ref r_1), .val .null, .val (.ref b201), .val (.ref b311), .val (.ref r_340), .unset] [(.int (own_ff ((p1 &&& (2147483647 : Int32)) % (21 : Int32)))), (.int (p2.toInt16.toInt32))])) _
          refine XS.icmpNo X340.here hx rfl (hb hby at_192) rfl (flt hV).1 ?_
          show Steps p.tables e below (T340.setTop (mkF m 195 #[.val (.int p1), .val (.int p2), .val (.int p3), .val (.int p4), .val (.int ((p1 &&& (2147483647 : Int32)) % (21 : Int32))), .val (.int (p2.toInt16.toInt32)), .val (.ref r_1), .val .null, .val (.ref b201), .val (.ref b311), .val (.ref r_340), .unset] [])) _
          refine XS.iconst X340.here hx rfl (hb hby at_195) ?_
          show Steps p.tables e below (T340.setTop (mkF m 196 #[.val (.int p1), .val (.int p2), .val (.int p3), .val (.int p4), .val (.int ((p1 &&& (2147483647 : Int32)) % (21 : Int32))), .val (.int (p2.toInt16.toInt32)), .val (.ref r_1), .val .null, .val (.ref b201), .val (.ref b311), .val (.ref r_340), .unset] [(.int (1 : Int32))])) _
          refine XS.goto X340.here hx rfl (pc0 := 196) (pc' := 200) rfl (hb hby at_196) (by decide) (by decide) ?_
          show Steps p.tables e below (T340.setTop (mkF m 200 #[.val (.int p1), .val (.int p2), .val (.int p3), .val (.int p4), .val (.int ((p1 &&& (2147483647 : Int32)) % (21 : Int32))), .val (.int (p2.toInt16.toInt32)), .val (.ref r_1), .val .null, .val (.ref b201), .val (.ref b311), .val (.ref r_340), .unset] [(.int (1 : Int32))])) _
          refine XS.istore X340.here hx rfl (hb hby at_200) rfl (l' := #[.val (.int p1), .val (.int p2), .val (.int p3), .val (.int p4), .val (.int ((p1 &&& (2147483647 : Int32)) % (21 : Int32))), .val (.int (p2.toInt16.toInt32)), .val (.ref r_1), .val .null, .val (.ref b201), .val (.ref b311), .val (.ref r_340), .val (.int (1 : Int32))]) rfl ?_
          show Steps p.tables e below (T340.setTop (mkF m 202 #[.val (.int p1), .val (.int p2), .val (.int p3), .val (.int p4), .val (.int ((p1 &&& (2147483647 : Int32)) % (21 : Int32))), .val (.int (p2.toInt16.toInt32)), .val (.ref r_1), .val .null, .val (.ref b201), .val (.ref b311), .val (.ref r_340), .val (.int (1 : Int32))] [])) _
          refine XS.aload X340.here hx rfl (hb hby at_202) rfl rfl ?_
          show Steps p.tables e below (T340.setTop (mkF m 204 #[.val (.int p1), .val (.int p2), .val (.int p3), .val (.int p4), .val (.int ((p1 &&& (2147483647 : Int32)) % (21 : Int32))), .val (.int (p2.toInt16.toInt32)), .val (.ref r_1), .val .null, .val (.ref b201), .val (.ref b311), .val (.ref r_340), .val (.int (1 : Int32))] [(.ref r_340)])) _
          refine XS.ifnullNo X340.here hx rfl (hb hby at_204) rfl ?_
          show Steps p.tables e below (T340.setTop (mkF m 207 #[.val (.int p1), .val (.int p2), .val (.int p3), .val (.int p4), .val (.int ((p1 &&& (2147483647 : Int32)) % (21 : Int32))), .val (.int (p2.toInt16.toInt32)), .val (.ref r_1), .val .null, .val (.ref b201), .val (.ref b311), .val (.ref r_340), .val (.int (1 : Int32))] [])) _
          refine XS.aload X340.here hx rfl (hb hby at_207) rfl rfl ?_
          show Steps p.tables e below (T340.setTop (mkF m 209 #[.val (.int p1), .val (.int p2), .val (.int p3), .val (.int p4), .val (.int ((p1 &&& (2147483647 : Int32)) % (21 : Int32))), .val (.int (p2.toInt16.toInt32)), .val (.ref r_1), .val .null, .val (.ref b201), .val (.ref b311), .val (.ref r_340), .val (.int (1 : Int32))] [(.ref r_340)])) _
          refine st371.trans ?_
          show Steps p.tables e below (T371.setTop (mkF m 212 #[.val (.int p1), .val (.int p2), .val (.int p3), .val (.int p4), .val (.int ((p1 &&& (2147483647 : Int32)) % (21 : Int32))), .val (.int (p2.toInt16.toInt32)), .val (.ref r_1), .val .null, .val (.ref b201), .val (.ref b311), .val (.ref r_340), .val (.int (1 : Int32))] [(.int p3)])) _
          refine XS.iloadN X371.here hx rfl (hb hby at_212) rfl ?_
          show Steps p.tables e below (T371.setTop (mkF m 213 #[.val (.int p1), .val (.int p2), .val (.int p3), .val (.int p4), .val (.int ((p1 &&& (2147483647 : Int32)) % (21 : Int32))), .val (.int (p2.toInt16.toInt32)), .val (.ref r_1), .val .null, .val (.ref b201), .val (.ref b311), .val (.ref r_340), .val (.int (1 : Int32))] [(.int p3), (.int p3)])) _
          refine XS.icmpNo X371.here hx rfl (hb hby at_213) rfl (teq rfl).2 ?_
          show Steps p.tables e below (T371.setTop (mkF m 216 #[.val (.int p1), .val (.int p2), .val (.int p3), .val (.int p4), .val (.int ((p1 &&& (2147483647 : Int32)) % (21 : Int32))), .val (.int (p2.toInt16.toInt32)), .val (.ref r_1), .val .null, .val (.ref b201), .val (.ref b311), .val (.ref r_340), .val (.int (1 : Int32))] [])) _
          refine XS.aload X371.here hx rfl (hb hby at_216) rfl rfl ?_
          show Steps p.tables e below (T371.setTop (mkF m 218 #[.val (.int p1), .val (.int p2), .val (.int p3), .val (.int p4), .val (.int ((p1 &&& (2147483647 : Int32)) % (21 : Int32))), .val (.int (p2.toInt16.toInt32)), .val (.ref r_1), .val .null, .val (.ref b201), .val (.ref b311), .val (.ref r_340), .val (.int (1 : Int32))] [(.ref r_340)])) _
          refine st372.trans ?_
          show Steps p.tables e below (T372.setTop (mkF m 221 #[.val (.int p1), .val (.int p2), .val (.int p3), .val (.int p4), .val (.int ((p1 &&& (2147483647 : Int32)) % (21 : Int32))), .val (.int (p2.toInt16.toInt32)), .val (.ref r_1), .val .null, .val (.ref b201), .val (.ref b311), .val (.ref r_340), .val (.int (1 : Int32))] [(.int (nar .boolean (nar .boolean (own_flex (r_1 = w_API_VERSIONS) (nar .short (nar .short (p2.toInt16.toInt32))) (own_ff ((p1 &&& (2147483647 : Int32)) % (21 : Int32)))))))])) _
          refine XS.iload X372.here hx rfl (hb hby at_221) rfl ?_
          show Steps p.tables e below (T372.setTop (mkF m 223 #[.val (.int p1), .val (.int p2), .val (.int p3), .val (.int p4), .val (.int ((p1 &&& (2147483647 : Int32)) % (21 : Int32))), .val (.int (p2.toInt16.toInt32)), .val (.ref r_1), .val .null, .val (.ref b201), .val (.ref b311), .val (.ref r_340), .val (.int (1 : Int32))] [(.int (1 : Int32)), (.int (nar .boolean (nar .boolean (own_flex (r_1 = w_API_VERSIONS) (nar .short (nar .short (p2.toInt16.toInt32))) (own_ff ((p1 &&& (2147483647 : Int32)) % (21 : Int32)))))))])) _
          refine XS.icmpNo X372.here hx rfl (hb hby at_223) rfl (teq (own_fin3 (fun q => h11 (t1_2.mp q)) hV : (nar .boolean (nar .boolean (own_flex (r_1 = w_API_VERSIONS) (nar .short (nar .short (p2.toInt16.toInt32))) (own_ff ((p1 &&& (2147483647 : Int32)) % (21 : Int32)))))) = (1 : Int32))).2 ?_
          show Steps p.tables e below (T372.setTop (mkF m 226 #[.val (.int p1), .val (.int p2), .val (.int p3), .val (.int p4), .val (.int ((p1 &&& (2147483647 : Int32)) % (21 : Int32))), .val (.int (p2.toInt16.toInt32)), .val (.ref r_1), .val .null, .val (.ref b201), .val (.ref b311), .val (.ref r_340), .val (.int (1 : Int32))] [])) _
          refine XS.iconst X372.here hx rfl (hb hby at_226) ?_
          show Steps p.tables e below (T372.setTop (mkF m 227 #[.val (.int p1), .val (.int p2), .val (.int p3), .val (.int p4), .val (.int ((p1 &&& (2147483647 : Int32)) % (21 : Int32))), .val (.int (p2.toInt16.toInt32)), .val (.ref r_1), .val .null, .val (.ref b201), .val (.ref b311), .val (.ref r_340), .val (.int (1 : Int32))] [(.int (1 : Int32))])) _
          refine XS.goto X372.here hx rfl (pc0 := 227) (pc' := 231) rfl (hb hby at_227) (by decide) (by decide) ?_
          show Steps p.tables e below (T372.setTop (mkF m 231 #[.val (.int p1), .val (.int p2), .val (.int p3), .val (.int p4), .val (.int ((p1 &&& (2147483647 : Int32)) % (21 : Int32))), .val (.int (p2.toInt16.toInt32)), .val (.ref r_1), .val .null, .val (.ref b201), .val (.ref b311), .val (.ref r_340), .val (.int (1 : Int32))] [(.int (1 : Int32))])) _
          exact retN X372 hx (t := .boolean) Bd.returns (by simp) (hb hby at_231) hr
        · show Q_rm0 Z p1 p2 p3 p4 w_PRODUCE w_FETCH w_LIST_OFFSETS w_METADATA w_OFFSET_COMMIT w_OFFSET_FETCH w_FIND_COORDINATOR w_JOIN_GROUP w_HEARTBEAT w_LEAVE_GROUP w_SYNC_GROUP w_API_VERSIONS w_CREATE_TOPICS w_INIT_PRODUCER_ID w_OFFSET_FOR_LEADER_EPOCH w_DESCRIBE_CONFIGS w_ELECT_LEADERS w_ALTER_PARTITION w_BROKER_REGISTRATION w_BROKER_HEARTBEAT w_ALLOCATE_PRODUCER_IDS cs h0 n0 _ T372.heap _
          rw [e372]
          exact ⟨rfl, N372⟩
set_option maxRecDepth 65536 in
set_option maxHeartbeats 40000000 in
theorem comes_1 {Post : Tables → Env → Array Value → State → Outcome → State → Prop} (hpost : ∀ tb e args s v u, (limb_1_1.after args s (.returned v) u = true ∧ limb_1_2.after args s (.returned v) u = true ∧ True) → FrameEnd s (.returned v) u (Jvm.fieldLocs frame_1_writes args s ++ Jvm.arrayLocs frame_1_arrays args s ++ Jvm.staticLocs frame_1_statics s) 24 128 → Post tb e args s (.returned v) u) :
    ArmFor flags0 classFile x code maxLocals ret World_1 tables_1 room_1 Calls_1 rest_1 Pre_1 Post := by
  intro l hfl _ _ p e ha hc hk s m args below hf hA hF happ hP
  obtain ⟨hcalls, hrest, hpre⟩ := hP
  obtain ⟨-, -, -, hnamed, -, -, -, hat⟩ := (Spec.applies_iff hf).mp happ
  obtain ⟨hg, hn⟩ := and_e (Cond.before_iff.mp (show (Jvm.Cond.and given_1 narrow_1).before args s = true from hpre))
  obtain ⟨gc, gr0⟩ := and_e hg
  obtain ⟨ga0, gr1⟩ := and_e gr0
  obtain ⟨ga1, gr2⟩ := and_e gr1
  obtain ⟨ga2, gr3⟩ := and_e gr2
  obtain ⟨w0, w1, w2, w3, rfl⟩ : ∃ w0 w1 w2 w3 : Value, args = #[w0, w1, w2, w3] := by
    have hs : args.size = 4 := by simpa [Cond.value, given_1] using gc
    obtain ⟨L⟩ := args
    match L, hs with
    | [w0, w1, w2, w3], _ => exact ⟨w0, w1, w2, w3, rfl⟩
  have hw := fun d (hd : d ∈ tables_1) => atoms_spec (ws := Jvm.Cond.code x code maxLocals ret :: tables_1) hat d (List.mem_cons_of_mem _ hd)
  have hfit : Fit s := fun {y c} hc i hi => by
    obtain ⟨ha, rfl⟩ := Array.getElem?_eq_some_iff.mp hc
    have q := List.all_eq_true.mp ((Array.all_eq_true_iff_forall_mem.mp hF) _ (Array.getElem_mem ha)) i (List.mem_range.mpr hi)
    simpa [Array.getElem?_eq_getElem hi] using q
  obtain ⟨hsets, hown0⟩ := atoms_of _ (rest_1_c_eq ▸ (show rest_1_c.before _ s = true from hrest))
  have hr0 := Cond.before_iff.mp hown0
  obtain ⟨i0, ei0⟩ := is_v ga0
  obtain rfl : w0 = (.int i0) := Option.some.inj ei0
  obtain ⟨i1, ei1⟩ := is_v ga1
  obtain rfl : w1 = (.int i1) := Option.some.inj ei1
  obtain ⟨i2, ei2⟩ := is_v ga2
  obtain rfl : w2 = (.int i2) := Option.some.inj ei2
  obtain ⟨i3, ei3⟩ := is_v gr3
  obtain rfl : w3 = (.int i3) := Option.some.inj ei3
  obtain ⟨c0, hn0⟩ := and_e hn
  obtain ⟨c1, hn1⟩ := and_e hn0
  obtain ⟨c2, hn2⟩ := and_e hn1
  obtain ⟨c3, hn3⟩ := and_e hn2
  obtain ⟨c4, hn4⟩ := and_e hn3
  obtain ⟨c5, hn5⟩ := and_e hn4
  obtain ⟨c6, hn6⟩ := and_e hn5
  obtain ⟨c7, hn7⟩ := and_e hn6
  obtain ⟨c8, hn8⟩ := and_e hn7
  obtain ⟨c9, hn9⟩ := and_e hn8
  obtain ⟨c10, hn10⟩ := and_e hn9
  obtain ⟨c11, hn11⟩ := and_e hn10
  obtain ⟨c12, hn12⟩ := and_e hn11
  obtain ⟨c13, hn13⟩ := and_e hn12
  obtain ⟨c14, hn14⟩ := and_e hn13
  obtain ⟨c15, hn15⟩ := and_e hn14
  obtain ⟨c16, hn16⟩ := and_e hn15
  obtain ⟨c17, hn17⟩ := and_e hn16
  obtain ⟨c18, hn18⟩ := and_e hn17
  obtain ⟨c19, hn19⟩ := and_e hn18
  obtain ⟨c20, hn20⟩ := and_e hn19
  obtain ⟨c21, hn21⟩ := and_e hn20
  obtain ⟨c22, hn22⟩ := and_e hn21
  obtain ⟨c23, hn23⟩ := and_e hn22
  obtain ⟨c24, hn24⟩ := and_e hn23
  obtain ⟨c25, hn25⟩ := and_e hn24
  obtain ⟨c26, hn26⟩ := and_e hn25
  obtain ⟨c27, hn27⟩ := and_e hn26
  obtain ⟨c28, hn28⟩ := and_e hn27
  obtain ⟨c29, hn29⟩ := and_e hn28
  obtain ⟨c30, hn30⟩ := and_e hn29
  obtain ⟨c31, hn31⟩ := and_e hn30
  obtain ⟨c32, hn32⟩ := and_e hn31
  obtain ⟨c33, hn33⟩ := and_e hn32
  obtain ⟨c34, hn34⟩ := and_e hn33
  obtain ⟨c35, hn35⟩ := and_e hn34
  obtain ⟨c36, hn36⟩ := and_e hn35
  obtain ⟨c37, hn37⟩ := and_e hn36
  obtain ⟨c38, hn38⟩ := and_e hn37
  obtain ⟨c39, hn39⟩ := and_e hn38
  obtain ⟨c40, hn40⟩ := and_e hn39
  obtain ⟨c41, hn41⟩ := and_e hn40
  obtain ⟨c42, hn42⟩ := and_e hn41
  obtain ⟨c43, hn43⟩ := and_e hn42
  obtain ⟨c44, hn44⟩ := and_e hn43
  obtain ⟨c45, hn45⟩ := and_e hn44
  obtain ⟨c46, hn46⟩ := and_e hn45
  obtain ⟨c47, hn47⟩ := and_e hn46
  obtain ⟨c48, hn48⟩ := and_e hn47
  obtain ⟨c49, hn49⟩ := and_e hn48
  obtain ⟨c50, hn50⟩ := and_e hn49
  obtain ⟨c51, hn51⟩ := and_e hn50
  obtain ⟨c52, hn52⟩ := and_e hn51
  obtain ⟨c53, hn53⟩ := and_e hn52
  obtain ⟨c54, hn54⟩ := and_e hn53
  obtain ⟨c55, hn55⟩ := and_e hn54
  obtain ⟨c56, hn56⟩ := and_e hn55
  obtain ⟨c57, hn57⟩ := and_e hn56
  obtain ⟨c58, hn58⟩ := and_e hn57
  obtain ⟨c59, hn59⟩ := and_e hn58
  obtain ⟨c60, hn60⟩ := and_e hn59
  obtain ⟨c61, hn61⟩ := and_e hn60
  have c62 := hn61
  obtain ⟨w_PRODUCE, ev_PRODUCE⟩ := exa_v c0
  have S_PRODUCE : Sta s s.heap "com/example/alviso/alviso/protocol/ApiKey" "PRODUCE" "Lcom/example/alviso/alviso/protocol/ApiKey;" (.ref w_PRODUCE) := Sta.start ev_PRODUCE (Or.inr ⟨(hw _ (List.mem_of_getElem? (i := 6) rfl)), (hw _ (List.mem_of_getElem? (i := 7) rfl))⟩)
  have E_PRODUCE : Exa s s.heap w_PRODUCE "com/example/alviso/alviso/protocol/ApiKey" := Exa.start ev_PRODUCE c0
  obtain ⟨w_API_VERSIONS, ev_API_VERSIONS⟩ := exa_v c1
  have S_API_VERSIONS : Sta s s.heap "com/example/alviso/alviso/protocol/ApiKey" "API_VERSIONS" "Lcom/example/alviso/alviso/protocol/ApiKey;" (.ref w_API_VERSIONS) := Sta.start ev_API_VERSIONS (Or.inr ⟨(hw _ (List.mem_of_getElem? (i := 6) rfl)), (hw _ (List.mem_of_getElem? (i := 75) rfl))⟩)
  have E_API_VERSIONS : Exa s s.heap w_API_VERSIONS "com/example/alviso/alviso/protocol/ApiKey" := Exa.start ev_API_VERSIONS c1
  obtain ⟨w_CREATE_TOPICS, ev_CREATE_TOPICS⟩ := exa_v c5
  have S_CREATE_TOPICS : Sta s s.heap "com/example/alviso/alviso/protocol/ApiKey" "CREATE_TOPICS" "Lcom/example/alviso/alviso/protocol/ApiKey;" (.ref w_CREATE_TOPICS) := Sta.start ev_CREATE_TOPICS (Or.inr ⟨(hw _ (List.mem_of_getElem? (i := 6) rfl)), (hw _ (List.mem_of_getElem? (i := 107) rfl))⟩)
  have E_CREATE_TOPICS : Exa s s.heap w_CREATE_TOPICS "com/example/alviso/alviso/protocol/ApiKey" := Exa.start ev_CREATE_TOPICS c5
  obtain ⟨w_ELECT_LEADERS, ev_ELECT_LEADERS⟩ := exa_v c8
  have S_ELECT_LEADERS : Sta s s.heap "com/example/alviso/alviso/protocol/ApiKey" "ELECT_LEADERS" "Lcom/example/alviso/alviso/protocol/ApiKey;" (.ref w_ELECT_LEADERS) := Sta.start ev_ELECT_LEADERS (Or.inr ⟨(hw _ (List.mem_of_getElem? (i := 6) rfl)), (hw _ (List.mem_of_getElem? (i := 109) rfl))⟩)
  have E_ELECT_LEADERS : Exa s s.heap w_ELECT_LEADERS "com/example/alviso/alviso/protocol/ApiKey" := Exa.start ev_ELECT_LEADERS c8
  obtain ⟨w_FETCH, ev_FETCH⟩ := exa_v c11
  have S_FETCH : Sta s s.heap "com/example/alviso/alviso/protocol/ApiKey" "FETCH" "Lcom/example/alviso/alviso/protocol/ApiKey;" (.ref w_FETCH) := Sta.start ev_FETCH (Or.inr ⟨(hw _ (List.mem_of_getElem? (i := 6) rfl)), (hw _ (List.mem_of_getElem? (i := 111) rfl))⟩)
  have E_FETCH : Exa s s.heap w_FETCH "com/example/alviso/alviso/protocol/ApiKey" := Exa.start ev_FETCH c11
  obtain ⟨w_METADATA, ev_METADATA⟩ := exa_v c14
  have S_METADATA : Sta s s.heap "com/example/alviso/alviso/protocol/ApiKey" "METADATA" "Lcom/example/alviso/alviso/protocol/ApiKey;" (.ref w_METADATA) := Sta.start ev_METADATA (Or.inr ⟨(hw _ (List.mem_of_getElem? (i := 6) rfl)), (hw _ (List.mem_of_getElem? (i := 113) rfl))⟩)
  have E_METADATA : Exa s s.heap w_METADATA "com/example/alviso/alviso/protocol/ApiKey" := Exa.start ev_METADATA c14
  obtain ⟨w_OFFSET_FOR_LEADER_EPOCH, ev_OFFSET_FOR_LEADER_EPOCH⟩ := exa_v c17
  have S_OFFSET_FOR_LEADER_EPOCH : Sta s s.heap "com/example/alviso/alviso/protocol/ApiKey" "OFFSET_FOR_LEADER_EPOCH" "Lcom/example/alviso/alviso/protocol/ApiKey;" (.ref w_OFFSET_FOR_LEADER_EPOCH) := Sta.start ev_OFFSET_FOR_LEADER_EPOCH (Or.inr ⟨(hw _ (List.mem_of_getElem? (i := 6) rfl)), (hw _ (List.mem_of_getElem? (i := 115) rfl))⟩)
  have E_OFFSET_FOR_LEADER_EPOCH : Exa s s.heap w_OFFSET_FOR_LEADER_EPOCH "com/example/alviso/alviso/protocol/ApiKey" := Exa.start ev_OFFSET_FOR_LEADER_EPOCH c17
  obtain ⟨w_HEARTBEAT, ev_HEARTBEAT⟩ := exa_v c20
  have S_HEARTBEAT : Sta s s.heap "com/example/alviso/alviso/protocol/ApiKey" "HEARTBEAT" "Lcom/example/alviso/alviso/protocol/ApiKey;" (.ref w_HEARTBEAT) := Sta.start ev_HEARTBEAT (Or.inr ⟨(hw _ (List.mem_of_getElem? (i := 6) rfl)), (hw _ (List.mem_of_getElem? (i := 117) rfl))⟩)
  have E_HEARTBEAT : Exa s s.heap w_HEARTBEAT "com/example/alviso/alviso/protocol/ApiKey" := Exa.start ev_HEARTBEAT c20
  obtain ⟨w_JOIN_GROUP, ev_JOIN_GROUP⟩ := exa_v c23
  have S_JOIN_GROUP : Sta s s.heap "com/example/alviso/alviso/protocol/ApiKey" "JOIN_GROUP" "Lcom/example/alviso/alviso/protocol/ApiKey;" (.ref w_JOIN_GROUP) := Sta.start ev_JOIN_GROUP (Or.inr ⟨(hw _ (List.mem_of_getElem? (i := 6) rfl)), (hw _ (List.mem_of_getElem? (i := 119) rfl))⟩)
  have E_JOIN_GROUP : Exa s s.heap w_JOIN_GROUP "com/example/alviso/alviso/protocol/ApiKey" := Exa.start ev_JOIN_GROUP c23
  obtain ⟨w_OFFSET_COMMIT, ev_OFFSET_COMMIT⟩ := exa_v c26
  have S_OFFSET_COMMIT : Sta s s.heap "com/example/alviso/alviso/protocol/ApiKey" "OFFSET_COMMIT" "Lcom/example/alviso/alviso/protocol/ApiKey;" (.ref w_OFFSET_COMMIT) := Sta.start ev_OFFSET_COMMIT (Or.inr ⟨(hw _ (List.mem_of_getElem? (i := 6) rfl)), (hw _ (List.mem_of_getElem? (i := 121) rfl))⟩)
  have E_OFFSET_COMMIT : Exa s s.heap w_OFFSET_COMMIT "com/example/alviso/alviso/protocol/ApiKey" := Exa.start ev_OFFSET_COMMIT c26
  obtain ⟨w_LIST_OFFSETS, ev_LIST_OFFSETS⟩ := exa_v c29
  have S_LIST_OFFSETS : Sta s s.heap "com/example/alviso/alviso/protocol/ApiKey" "LIST_OFFSETS" "Lcom/example/alviso/alviso/protocol/ApiKey;" (.ref w_LIST_OFFSETS) := Sta.start ev_LIST_OFFSETS (Or.inr ⟨(hw _ (List.mem_of_getElem? (i := 6) rfl)), (hw _ (List.mem_of_getElem? (i := 123) rfl))⟩)
  have E_LIST_OFFSETS : Exa s s.heap w_LIST_OFFSETS "com/example/alviso/alviso/protocol/ApiKey" := Exa.start ev_LIST_OFFSETS c29
  obtain ⟨w_INIT_PRODUCER_ID, ev_INIT_PRODUCER_ID⟩ := exa_v c32
  have S_INIT_PRODUCER_ID : Sta s s.heap "com/example/alviso/alviso/protocol/ApiKey" "INIT_PRODUCER_ID" "Lcom/example/alviso/alviso/protocol/ApiKey;" (.ref w_INIT_PRODUCER_ID) := Sta.start ev_INIT_PRODUCER_ID (Or.inr ⟨(hw _ (List.mem_of_getElem? (i := 6) rfl)), (hw _ (List.mem_of_getElem? (i := 125) rfl))⟩)
  have E_INIT_PRODUCER_ID : Exa s s.heap w_INIT_PRODUCER_ID "com/example/alviso/alviso/protocol/ApiKey" := Exa.start ev_INIT_PRODUCER_ID c32
  obtain ⟨w_BROKER_HEARTBEAT, ev_BROKER_HEARTBEAT⟩ := exa_v c35
  have S_BROKER_HEARTBEAT : Sta s s.heap "com/example/alviso/alviso/protocol/ApiKey" "BROKER_HEARTBEAT" "Lcom/example/alviso/alviso/protocol/ApiKey;" (.ref w_BROKER_HEARTBEAT) := Sta.start ev_BROKER_HEARTBEAT (Or.inr ⟨(hw _ (List.mem_of_getElem? (i := 6) rfl)), (hw _ (List.mem_of_getElem? (i := 127) rfl))⟩)
  have E_BROKER_HEARTBEAT : Exa s s.heap w_BROKER_HEARTBEAT "com/example/alviso/alviso/protocol/ApiKey" := Exa.start ev_BROKER_HEARTBEAT c35
  obtain ⟨w_SYNC_GROUP, ev_SYNC_GROUP⟩ := exa_v c38
  have S_SYNC_GROUP : Sta s s.heap "com/example/alviso/alviso/protocol/ApiKey" "SYNC_GROUP" "Lcom/example/alviso/alviso/protocol/ApiKey;" (.ref w_SYNC_GROUP) := Sta.start ev_SYNC_GROUP (Or.inr ⟨(hw _ (List.mem_of_getElem? (i := 6) rfl)), (hw _ (List.mem_of_getElem? (i := 129) rfl))⟩)
  have E_SYNC_GROUP : Exa s s.heap w_SYNC_GROUP "com/example/alviso/alviso/protocol/ApiKey" := Exa.start ev_SYNC_GROUP c38
  obtain ⟨w_LEAVE_GROUP, ev_LEAVE_GROUP⟩ := exa_v c41
  have S_LEAVE_GROUP : Sta s s.heap "com/example/alviso/alviso/protocol/ApiKey" "LEAVE_GROUP" "Lcom/example/alviso/alviso/protocol/ApiKey;" (.ref w_LEAVE_GROUP) := Sta.start ev_LEAVE_GROUP (Or.inr ⟨(hw _ (List.mem_of_getElem? (i := 6) rfl)), (hw _ (List.mem_of_getElem? (i := 131) rfl))⟩)
  have E_LEAVE_GROUP : Exa s s.heap w_LEAVE_GROUP "com/example/alviso/alviso/protocol/ApiKey" := Exa.start ev_LEAVE_GROUP c41
  obtain ⟨w_ALTER_PARTITION, ev_ALTER_PARTITION⟩ := exa_v c44
  have S_ALTER_PARTITION : Sta s s.heap "com/example/alviso/alviso/protocol/ApiKey" "ALTER_PARTITION" "Lcom/example/alviso/alviso/protocol/ApiKey;" (.ref w_ALTER_PARTITION) := Sta.start ev_ALTER_PARTITION (Or.inr ⟨(hw _ (List.mem_of_getElem? (i := 6) rfl)), (hw _ (List.mem_of_getElem? (i := 133) rfl))⟩)
  have E_ALTER_PARTITION : Exa s s.heap w_ALTER_PARTITION "com/example/alviso/alviso/protocol/ApiKey" := Exa.start ev_ALTER_PARTITION c44
  obtain ⟨w_OFFSET_FETCH, ev_OFFSET_FETCH⟩ := exa_v c47
  have S_OFFSET_FETCH : Sta s s.heap "com/example/alviso/alviso/protocol/ApiKey" "OFFSET_FETCH" "Lcom/example/alviso/alviso/protocol/ApiKey;" (.ref w_OFFSET_FETCH) := Sta.start ev_OFFSET_FETCH (Or.inr ⟨(hw _ (List.mem_of_getElem? (i := 6) rfl)), (hw _ (List.mem_of_getElem? (i := 135) rfl))⟩)
  have E_OFFSET_FETCH : Exa s s.heap w_OFFSET_FETCH "com/example/alviso/alviso/protocol/ApiKey" := Exa.start ev_OFFSET_FETCH c47
  obtain ⟨w_FIND_COORDINATOR, ev_FIND_COORDINATOR⟩ := exa_v c50
  have S_FIND_COORDINATOR : Sta s s.heap "com/example/alviso/alviso/protocol/ApiKey" "FIND_COORDINATOR" "Lcom/example/alviso/alviso/protocol/ApiKey;" (.ref w_FIND_COORDINATOR) := Sta.start ev_FIND_COORDINATOR (Or.inr ⟨(hw _ (List.mem_of_getElem? (i := 6) rfl)), (hw _ (List.mem_of_getElem? (i := 137) rfl))⟩)
  have E_FIND_COORDINATOR : Exa s s.heap w_FIND_COORDINATOR "com/example/alviso/alviso/protocol/ApiKey" := Exa.start ev_FIND_COORDINATOR c50
  obtain ⟨w_ALLOCATE_PRODUCER_IDS, ev_ALLOCATE_PRODUCER_IDS⟩ := exa_v c53
  have S_ALLOCATE_PRODUCER_IDS : Sta s s.heap "com/example/alviso/alviso/protocol/ApiKey" "ALLOCATE_PRODUCER_IDS" "Lcom/example/alviso/alviso/protocol/ApiKey;" (.ref w_ALLOCATE_PRODUCER_IDS) := Sta.start ev_ALLOCATE_PRODUCER_IDS (Or.inr ⟨(hw _ (List.mem_of_getElem? (i := 6) rfl)), (hw _ (List.mem_of_getElem? (i := 139) rfl))⟩)
  have E_ALLOCATE_PRODUCER_IDS : Exa s s.heap w_ALLOCATE_PRODUCER_IDS "com/example/alviso/alviso/protocol/ApiKey" := Exa.start ev_ALLOCATE_PRODUCER_IDS c53
  obtain ⟨w_DESCRIBE_CONFIGS, ev_DESCRIBE_CONFIGS⟩ := exa_v c56
  have S_DESCRIBE_CONFIGS : Sta s s.heap "com/example/alviso/alviso/protocol/ApiKey" "DESCRIBE_CONFIGS" "Lcom/example/alviso/alviso/protocol/ApiKey;" (.ref w_DESCRIBE_CONFIGS) := Sta.start ev_DESCRIBE_CONFIGS (Or.inr ⟨(hw _ (List.mem_of_getElem? (i := 6) rfl)), (hw _ (List.mem_of_getElem? (i := 141) rfl))⟩)
  have E_DESCRIBE_CONFIGS : Exa s s.heap w_DESCRIBE_CONFIGS "com/example/alviso/alviso/protocol/ApiKey" := Exa.start ev_DESCRIBE_CONFIGS c56
  obtain ⟨w_BROKER_REGISTRATION, ev_BROKER_REGISTRATION⟩ := exa_v c59
  have S_BROKER_REGISTRATION : Sta s s.heap "com/example/alviso/alviso/protocol/ApiKey" "BROKER_REGISTRATION" "Lcom/example/alviso/alviso/protocol/ApiKey;" (.ref w_BROKER_REGISTRATION) := Sta.start ev_BROKER_REGISTRATION (Or.inr ⟨(hw _ (List.mem_of_getElem? (i := 6) rfl)), (hw _ (List.mem_of_getElem? (i := 143) rfl))⟩)
  have E_BROKER_REGISTRATION : Exa s s.heap w_BROKER_REGISTRATION "com/example/alviso/alviso/protocol/ApiKey" := Exa.start ev_BROKER_REGISTRATION c59
  have F_ordinal_PRODUCE : Fld s s.heap w_PRODUCE "java/lang/Enum" "ordinal" "I" (.int (0 : Int32)) := own_fldI ev_PRODUCE c2
  have F_ordinal_API_VERSIONS : Fld s s.heap w_API_VERSIONS "java/lang/Enum" "ordinal" "I" (.int (11 : Int32)) := own_fldI ev_API_VERSIONS c3
  have F_firstFlexibleVersion_PRODUCE : Fld s s.heap w_PRODUCE "com/example/alviso/alviso/protocol/ApiKey" "firstFlexibleVersion" "S" (.int (9 : Int32)) := own_fldI ev_PRODUCE c4
  have F_ordinal_CREATE_TOPICS : Fld s s.heap w_CREATE_TOPICS "java/lang/Enum" "ordinal" "I" (.int (12 : Int32)) := own_fldI ev_CREATE_TOPICS c6
  have F_firstFlexibleVersion_CREATE_TOPICS : Fld s s.heap w_CREATE_TOPICS "com/example/alviso/alviso/protocol/ApiKey" "firstFlexibleVersion" "S" (.int (5 : Int32)) := own_fldI ev_CREATE_TOPICS c7
  have F_ordinal_ELECT_LEADERS : Fld s s.heap w_ELECT_LEADERS "java/lang/Enum" "ordinal" "I" (.int (16 : Int32)) := own_fldI ev_ELECT_LEADERS c9
  have F_firstFlexibleVersion_ELECT_LEADERS : Fld s s.heap w_ELECT_LEADERS "com/example/alviso/alviso/protocol/ApiKey" "firstFlexibleVersion" "S" (.int (2 : Int32)) := own_fldI ev_ELECT_LEADERS c10
  have F_ordinal_FETCH : Fld s s.heap w_FETCH "java/lang/Enum" "ordinal" "I" (.int (1 : Int32)) := own_fldI ev_FETCH c12
  have F_firstFlexibleVersion_FETCH : Fld s s.heap w_FETCH "com/example/alviso/alviso/protocol/ApiKey" "firstFlexibleVersion" "S" (.int (12 : Int32)) := own_fldI ev_FETCH c13
  have F_ordinal_METADATA : Fld s s.heap w_METADATA "java/lang/Enum" "ordinal" "I" (.int (3 : Int32)) := own_fldI ev_METADATA c15
  have F_firstFlexibleVersion_METADATA : Fld s s.heap w_METADATA "com/example/alviso/alviso/protocol/ApiKey" "firstFlexibleVersion" "S" (.int (9 : Int32)) := own_fldI ev_METADATA c16
  have F_ordinal_OFFSET_FOR_LEADER_EPOCH : Fld s s.heap w_OFFSET_FOR_LEADER_EPOCH "java/lang/Enum" "ordinal" "I" (.int (14 : Int32)) := own_fldI ev_OFFSET_FOR_LEADER_EPOCH c18
  have F_firstFlexibleVersion_OFFSET_FOR_LEADER_EPOCH : Fld s s.heap w_OFFSET_FOR_LEADER_EPOCH "com/example/alviso/alviso/protocol/ApiKey" "firstFlexibleVersion" "S" (.int (4 : Int32)) := own_fldI ev_OFFSET_FOR_LEADER_EPOCH c19
  have F_ordinal_HEARTBEAT : Fld s s.heap w_HEARTBEAT "java/lang/Enum" "ordinal" "I" (.int (8 : Int32)) := own_fldI ev_HEARTBEAT c21
  have F_firstFlexibleVersion_HEARTBEAT : Fld s s.heap w_HEARTBEAT "com/example/alviso/alviso/protocol/ApiKey" "firstFlexibleVersion" "S" (.int (4 : Int32)) := own_fldI ev_HEARTBEAT c22
  have F_ordinal_JOIN_GROUP : Fld s s.heap w_JOIN_GROUP "java/lang/Enum" "ordinal" "I" (.int (7 : Int32)) := own_fldI ev_JOIN_GROUP c24
  have F_firstFlexibleVersion_JOIN_GROUP : Fld s s.heap w_JOIN_GROUP "com/example/alviso/alviso/protocol/ApiKey" "firstFlexibleVersion" "S" (.int (6 : Int32)) := own_fldI ev_JOIN_GROUP c25
  have F_ordinal_OFFSET_COMMIT : Fld s s.heap w_OFFSET_COMMIT "java/lang/Enum" "ordinal" "I" (.int (4 : Int32)) := own_fldI ev_OFFSET_COMMIT c27
  have F_firstFlexibleVersion_OFFSET_COMMIT : Fld s s.heap w_OFFSET_COMMIT "com/example/alviso/alviso/protocol/ApiKey" "firstFlexibleVersion" "S" (.int (8 : Int32)) := own_fldI ev_OFFSET_COMMIT c28
  have F_ordinal_LIST_OFFSETS : Fld s s.heap w_LIST_OFFSETS "java/lang/Enum" "ordinal" "I" (.int (2 : Int32)) := own_fldI ev_LIST_OFFSETS c30
  have F_firstFlexibleVersion_LIST_OFFSETS : Fld s s.heap w_LIST_OFFSETS "com/example/alviso/alviso/protocol/ApiKey" "firstFlexibleVersion" "S" (.int (6 : Int32)) := own_fldI ev_LIST_OFFSETS c31
  have F_ordinal_INIT_PRODUCER_ID : Fld s s.heap w_INIT_PRODUCER_ID "java/lang/Enum" "ordinal" "I" (.int (13 : Int32)) := own_fldI ev_INIT_PRODUCER_ID c33
  have F_firstFlexibleVersion_INIT_PRODUCER_ID : Fld s s.heap w_INIT_PRODUCER_ID "com/example/alviso/alviso/protocol/ApiKey" "firstFlexibleVersion" "S" (.int (2 : Int32)) := own_fldI ev_INIT_PRODUCER_ID c34
  have F_ordinal_BROKER_HEARTBEAT : Fld s s.heap w_BROKER_HEARTBEAT "java/lang/Enum" "ordinal" "I" (.int (19 : Int32)) := own_fldI ev_BROKER_HEARTBEAT c36
  have F_firstFlexibleVersion_BROKER_HEARTBEAT : Fld s s.heap w_BROKER_HEARTBEAT "com/example/alviso/alviso/protocol/ApiKey" "firstFlexibleVersion" "S" (.int (0 : Int32)) := own_fldI ev_BROKER_HEARTBEAT c37
  have F_ordinal_SYNC_GROUP : Fld s s.heap w_SYNC_GROUP "java/lang/Enum" "ordinal" "I" (.int (10 : Int32)) := own_fldI ev_SYNC_GROUP c39
  have F_firstFlexibleVersion_SYNC_GROUP : Fld s s.heap w_SYNC_GROUP "com/example/alviso/alviso/protocol/ApiKey" "firstFlexibleVersion" "S" (.int (4 : Int32)) := own_fldI ev_SYNC_GROUP c40
  have F_ordinal_LEAVE_GROUP : Fld s s.heap w_LEAVE_GROUP "java/lang/Enum" "ordinal" "I" (.int (9 : Int32)) := own_fldI ev_LEAVE_GROUP c42
  have F_firstFlexibleVersion_LEAVE_GROUP : Fld s s.heap w_LEAVE_GROUP "com/example/alviso/alviso/protocol/ApiKey" "firstFlexibleVersion" "S" (.int (4 : Int32)) := own_fldI ev_LEAVE_GROUP c43
  have F_ordinal_ALTER_PARTITION : Fld s s.heap w_ALTER_PARTITION "java/lang/Enum" "ordinal" "I" (.int (17 : Int32)) := own_fldI ev_ALTER_PARTITION c45
  have F_firstFlexibleVersion_ALTER_PARTITION : Fld s s.heap w_ALTER_PARTITION "com/example/alviso/alviso/protocol/ApiKey" "firstFlexibleVersion" "S" (.int (0 : Int32)) := own_fldI ev_ALTER_PARTITION c46
  have F_ordinal_OFFSET_FETCH : Fld s s.heap w_OFFSET_FETCH "java/lang/Enum" "ordinal" "I" (.int (5 : Int32)) := own_fldI ev_OFFSET_FETCH c48
  have F_firstFlexibleVersion_OFFSET_FETCH : Fld s s.heap w_OFFSET_FETCH "com/example/alviso/alviso/protocol/ApiKey" "firstFlexibleVersion" "S" (.int (6 : Int32)) := own_fldI ev_OFFSET_FETCH c49
  have F_ordinal_FIND_COORDINATOR : Fld s s.heap w_FIND_COORDINATOR "java/lang/Enum" "ordinal" "I" (.int (6 : Int32)) := own_fldI ev_FIND_COORDINATOR c51
  have F_firstFlexibleVersion_FIND_COORDINATOR : Fld s s.heap w_FIND_COORDINATOR "com/example/alviso/alviso/protocol/ApiKey" "firstFlexibleVersion" "S" (.int (3 : Int32)) := own_fldI ev_FIND_COORDINATOR c52
  have F_ordinal_ALLOCATE_PRODUCER_IDS : Fld s s.heap w_ALLOCATE_PRODUCER_IDS "java/lang/Enum" "ordinal" "I" (.int (20 : Int32)) := own_fldI ev_ALLOCATE_PRODUCER_IDS c54
  have F_firstFlexibleVersion_ALLOCATE_PRODUCER_IDS : Fld s s.heap w_ALLOCATE_PRODUCER_IDS "com/example/alviso/alviso/protocol/ApiKey" "firstFlexibleVersion" "S" (.int (0 : Int32)) := own_fldI ev_ALLOCATE_PRODUCER_IDS c55
  have F_ordinal_DESCRIBE_CONFIGS : Fld s s.heap w_DESCRIBE_CONFIGS "java/lang/Enum" "ordinal" "I" (.int (15 : Int32)) := own_fldI ev_DESCRIBE_CONFIGS c57
  have F_firstFlexibleVersion_DESCRIBE_CONFIGS : Fld s s.heap w_DESCRIBE_CONFIGS "com/example/alviso/alviso/protocol/ApiKey" "firstFlexibleVersion" "S" (.int (4 : Int32)) := own_fldI ev_DESCRIBE_CONFIGS c58
  have F_ordinal_BROKER_REGISTRATION : Fld s s.heap w_BROKER_REGISTRATION "java/lang/Enum" "ordinal" "I" (.int (18 : Int32)) := own_fldI ev_BROKER_REGISTRATION c60
  have F_firstFlexibleVersion_BROKER_REGISTRATION : Fld s s.heap w_BROKER_REGISTRATION "com/example/alviso/alviso/protocol/ApiKey" "firstFlexibleVersion" "S" (.int (0 : Int32)) := own_fldI ev_BROKER_REGISTRATION c61
  have F_firstFlexibleVersion_API_VERSIONS : Fld s s.heap w_API_VERSIONS "com/example/alviso/alviso/protocol/ApiKey" "firstFlexibleVersion" "S" (.int (3 : Int32)) := own_fldI ev_API_VERSIONS c62
  obtain ⟨cs, ev_cs⟩ := is_v (Cond.before_iff.mp (hsets _ (List.mem_of_getElem? (i := 1) rfl)))
  have S_cs : Sta s s.heap "java/lang/String" "COMPACT_STRINGS" "Z" (.int cs) := Sta.start ev_cs (Or.inl (hsets _ (List.mem_of_getElem? (i := 0) rfl)))
  have hcs : ¬ (cs = (0 : Int32)) := gotF (Cond.eq_ints ev_cs (Term.int_eval 0)) (not_v (Cond.before_iff.mp (hsets _ (List.mem_of_getElem? (i := 2) rfl))))
  obtain ⟨n, o, h1, h2, h3, _, L, rfl, ⟨rfl, N⟩, hq⟩ := rm0 l s _ hw tables_1 i0 i1 i2 i3 w_PRODUCE w_FETCH w_LIST_OFFSETS w_METADATA w_OFFSET_COMMIT w_OFFSET_FETCH w_FIND_COORDINATOR w_JOIN_GROUP w_HEARTBEAT w_LEAVE_GROUP w_SYNC_GROUP w_API_VERSIONS w_CREATE_TOPICS w_INIT_PRODUCER_ID w_OFFSET_FOR_LEADER_EPOCH w_DESCRIBE_CONFIGS w_ELECT_LEADERS w_ALTER_PARTITION w_BROKER_REGISTRATION w_BROKER_HEARTBEAT w_ALLOCATE_PRODUCER_IDS cs s.heap s.heap.size (Nat.le_refl _) S_PRODUCE S_FETCH S_LIST_OFFSETS S_METADATA S_OFFSET_COMMIT S_OFFSET_FETCH S_FIND_COORDINATOR S_JOIN_GROUP S_HEARTBEAT S_LEAVE_GROUP S_SYNC_GROUP S_API_VERSIONS S_CREATE_TOPICS S_INIT_PRODUCER_ID S_OFFSET_FOR_LEADER_EPOCH S_DESCRIBE_CONFIGS S_ELECT_LEADERS S_ALTER_PARTITION S_BROKER_REGISTRATION S_BROKER_HEARTBEAT S_ALLOCATE_PRODUCER_IDS E_PRODUCE E_FETCH E_LIST_OFFSETS E_METADATA E_OFFSET_COMMIT E_OFFSET_FETCH E_FIND_COORDINATOR E_JOIN_GROUP E_HEARTBEAT E_LEAVE_GROUP E_SYNC_GROUP E_API_VERSIONS E_CREATE_TOPICS E_INIT_PRODUCER_ID E_OFFSET_FOR_LEADER_EPOCH E_DESCRIBE_CONFIGS E_ELECT_LEADERS E_ALTER_PARTITION E_BROKER_REGISTRATION E_BROKER_HEARTBEAT E_ALLOCATE_PRODUCER_IDS F_firstFlexibleVersion_PRODUCE F_firstFlexibleVersion_FETCH F_firstFlexibleVersion_LIST_OFFSETS F_firstFlexibleVersion_METADATA F_firstFlexibleVersion_OFFSET_COMMIT F_firstFlexibleVersion_OFFSET_FETCH F_firstFlexibleVersion_FIND_COORDINATOR F_firstFlexibleVersion_JOIN_GROUP F_firstFlexibleVersion_HEARTBEAT F_firstFlexibleVersion_LEAVE_GROUP F_firstFlexibleVersion_SYNC_GROUP F_firstFlexibleVersion_API_VERSIONS F_firstFlexibleVersion_CREATE_TOPICS F_firstFlexibleVersion_INIT_PRODUCER_ID F_firstFlexibleVersion_OFFSET_FOR_LEADER_EPOCH F_firstFlexibleVersion_DESCRIBE_CONFIGS F_firstFlexibleVersion_ELECT_LEADERS F_firstFlexibleVersion_ALTER_PARTITION F_firstFlexibleVersion_BROKER_REGISTRATION F_firstFlexibleVersion_BROKER_HEARTBEAT F_firstFlexibleVersion_ALLOCATE_PRODUCER_IDS (own_neF F_ordinal_PRODUCE F_ordinal_API_VERSIONS (by decide)) (own_neF F_ordinal_FETCH F_ordinal_API_VERSIONS (by decide)) (own_neF F_ordinal_LIST_OFFSETS F_ordinal_API_VERSIONS (by decide)) (own_neF F_ordinal_METADATA F_ordinal_API_VERSIONS (by decide)) (own_neF F_ordinal_OFFSET_COMMIT F_ordinal_API_VERSIONS (by decide)) (own_neF F_ordinal_OFFSET_FETCH F_ordinal_API_VERSIONS (by decide)) (own_neF F_ordinal_FIND_COORDINATOR F_ordinal_API_VERSIONS (by decide)) (own_neF F_ordinal_JOIN_GROUP F_ordinal_API_VERSIONS (by decide)) (own_neF F_ordinal_HEARTBEAT F_ordinal_API_VERSIONS (by decide)) (own_neF F_ordinal_LEAVE_GROUP F_ordinal_API_VERSIONS (by decide)) (own_neF F_ordinal_SYNC_GROUP F_ordinal_API_VERSIONS (by decide)) (own_neF F_ordinal_CREATE_TOPICS F_ordinal_API_VERSIONS (by decide)) (own_neF F_ordinal_INIT_PRODUCER_ID F_ordinal_API_VERSIONS (by decide)) (own_neF F_ordinal_OFFSET_FOR_LEADER_EPOCH F_ordinal_API_VERSIONS (by decide)) (own_neF F_ordinal_DESCRIBE_CONFIGS F_ordinal_API_VERSIONS (by decide)) (own_neF F_ordinal_ELECT_LEADERS F_ordinal_API_VERSIONS (by decide)) (own_neF F_ordinal_ALTER_PARTITION F_ordinal_API_VERSIONS (by decide)) (own_neF F_ordinal_BROKER_REGISTRATION F_ordinal_API_VERSIONS (by decide)) (own_neF F_ordinal_BROKER_HEARTBEAT F_ordinal_API_VERSIONS (by decide)) (own_neF F_ordinal_ALLOCATE_PRODUCER_IDS F_ordinal_API_VERSIONS (by decide)) S_cs hcs p e ha hc hk s m _ below hf ((Spec.applies_iff_loose hf).mp happ).1 ⟨rfl, State.Warmed39.refl s, rfl⟩ trivial
  refine ⟨n, _, h1, h2, h3, hpost _ _ _ _ _ _ ⟨Cond.after_iff.mpr rfl, Cond.after_iff.mpr (eq_i res_at (Term.int_eval (1)) rfl), trivial⟩ ⟨hq.1, hq.2.1, (hq.2.2.sift fun y hy => Or.inr (N y hy)).mono (by decide) (by decide)⟩⟩
theorem main_1_1 : Claimed_1_1 := comes_1 fun _ _ _ _ _ _ h hF => ⟨h.1, hF⟩
theorem main_1_2 : Claimed_1_2 := comes_1 fun _ _ _ _ _ _ h hF => ⟨h.2.1, hF⟩
end Jvm.Pilot.@@N@@
namespace Jvm.Pilot.@@N@@
open Jvm Jvm.ClassFile Sem Op Lib Jvm.Free Jvm.Stand Jvm.Pilot.@@N@@.Jvm.D
/-! MADE BY PROGRAM (witnessworld.py) out of the Statement's table words and the real class files: 21 classes; the members and pool entries that the words name. The judged class is class 1, her method 1. -/
namespace start1
open Jvm.ClassFile
def u (s : String) : CpInfo := .utf8 (stringToUtf16 s)
/-- a pool by its gaps: so many unusable entries, then the entry; so many at the end -/
def gap : Nat → List CpInfo → List CpInfo
  | 0, r => r
  | n + 1, r => .unusable :: gap n r
def poolList (es : List (Nat × CpInfo)) (last : Nat) : List CpInfo := es.foldr (fun e r => gap e.1 (e.2 :: r)) (gap last [])
def pool (es : List (Nat × CpInfo)) (last : Nat) : Array CpInfo := ⟨poolList es last⟩
def fileOf (pool : Array CpInfo) (this : Nat) (attrs : Array Attribute := #[]) (ms : Array MethodInfo := #[]) (fl : Nat := 33) (sup : Nat := 0) (ifs : Array Nat := #[]) (fds : Array FieldInfo := #[]) : ClassFile where
  minorVersion := 0
  majorVersion := 65
  constantPool := pool
  accessFlags := fl
  thisClass := this
  superClass := sup
  interfaces := ifs
  fields := fds
  methods := ms
  attributes := attrs
def plain (name : String) (sup : Option ClassId) : Class where
  name := name
  kind := .ordinary
  loader := none
  accessFlags := 33
  super := sup
  interfaces := #[]
  cf := none
  fields := #[]
  methods := #[]
  instanceTypes := #[]
  staticTypes := #[]
  resolved := #[]
  callSites := []
  init := .initialized
  statics := none
  mirror := none

def pool0 : Array CpInfo := pool [(5, u "<init>"), (0, u "()V"), (1, .class_ 10), (1, u "java/lang/Object")] 113

def k0c0 : Code := { maxStack := 0, maxLocals := 1, code := object_method_1_code, exceptionTable := #[], attributes := #[] }
def k0m0 : Method := { name := "<init>", desc := "()V", sig := { parameters := [], returnType := none }, accessFlags := 1, code := some k0c0 }
/-- java/lang/Object -/
def k0 : Class := { plain "java/lang/Object" none with
  accessFlags := 33
  interfaces := #[]
  cf := some (fileOf pool0 8 #[] #[{ accessFlags := 1, nameIndex := 5, descriptorIndex := 6, attributes := #[] }] 33 0 #[] #[])
  fields := #[]
  methods := #[k0m0]
  instanceTypes := #[]
  staticTypes := #[]
  resolved := Array.replicate 124 none
  statics := none }

def pool1 : Array CpInfo := pool [(2, .class_ 4), (1, u "java/lang/Object"), (0, u "<init>"), (0, u "()V"), (0, .integer 2147483647), (0, .methodref 9 10), (0, .class_ 11), (0, .nameAndType 12 13), (0, u "com/example/alviso/alviso/protocol/ResponseHeaderAnsweringPinLaw"), (0, u "api"), (0, u "(I)Lcom/example/alviso/alviso/protocol/ApiKey;"), (0, .methodref 15 16), (0, .class_ 17), (0, .nameAndType 18 19), (0, u "java/lang/String"), (0, u "valueOf"), (0, u "(C)Ljava/lang/String;"), (0, .class_ 21), (0, u "com/example/alviso/alviso/protocol/RequestHeader"), (0, .methodref 20 23), (0, .nameAndType 5 24), (0, u "(Lcom/example/alviso/alviso/protocol/ApiKey;SILjava/lang/String;)V"), (0, .methodref 26 27), (0, .class_ 28), (0, .nameAndType 29 30), (0, u "com/example/alviso/alviso/protocol/ResponseHeader"), (0, u "answering"), (0, u "(Lcom/example/alviso/alviso/protocol/RequestHeader;)Lcom/example/alviso/alviso/protocol/ResponseHeader;"), (0, .methodref 26 32), (0, .nameAndType 33 34), (0, u "correlationId"), (0, u "()I"), (0, .methodref 26 36), (0, .nameAndType 37 38), (0, u "flexible"), (0, u "()Z"), (0, .fieldref 40 41), (0, .class_ 42), (0, .nameAndType 43 44), (0, u "com/example/alviso/alviso/protocol/ApiKey"), (0, u "PRODUCE"), (0, u "Lcom/example/alviso/alviso/protocol/ApiKey;"), (0, .fieldref 40 46), (0, .nameAndType 47 44), (0, u "FETCH"), (0, .fieldref 40 49), (0, .nameAndType 50 44), (0, u "LIST_OFFSETS"), (0, .fieldref 40 52), (0, .nameAndType 53 44), (0, u "METADATA"), (0, .fieldref 40 55), (0, .nameAndType 56 44), (0, u "OFFSET_COMMIT"), (0, .fieldref 40 58), (0, .nameAndType 59 44), (0, u "OFFSET_FETCH"), (0, .fieldref 40 61), (0, .nameAndType 62 44), (0, u "FIND_COORDINATOR"), (0, .fieldref 40 64), (0, .nameAndType 65 44), (0, u "JOIN_GROUP"), (0, .fieldref 40 67), (0, .nameAndType 68 44), (0, u "HEARTBEAT"), (0, .fieldref 40 70), (0, .nameAndType 71 44), (0, u "LEAVE_GROUP"), (0, .fieldref 40 73), (0, .nameAndType 74 44), (0, u "SYNC_GROUP"), (0, .fieldref 40 76), (0, .nameAndType 77 44), (0, u "API_VERSIONS"), (0, .fieldref 40 79), (0, .nameAndType 80 44), (0, u "CREATE_TOPICS"), (0, .fieldref 40 82), (0, .nameAndType 83 44), (0, u "INIT_PRODUCER_ID"), (0, .fieldref 40 85), (0, .nameAndType 86 44), (0, u "OFFSET_FOR_LEADER_EPOCH"), (0, .fieldref 40 88), (0, .nameAndType 89 44), (0, u "DESCRIBE_CONFIGS"), (0, .fieldref 40 91), (0, .nameAndType 92 44), (0, u "ELECT_LEADERS"), (0, .fieldref 40 94), (0, .nameAndType 95 44), (0, u "ALTER_PARTITION"), (0, .fieldref 40 97), (0, .nameAndType 98 44), (0, u "BROKER_REGISTRATION"), (0, .fieldref 40 100), (0, .nameAndType 101 44), (0, u "BROKER_HEARTBEAT"), (0, .fieldref 40 103), (0, .nameAndType 104 44), (0, u "ALLOCATE_PRODUCER_IDS"), (2, u "law"), (0, u "(IIII)Z")] 5

def k1m0 : Method := { name := "<init>", desc := "()V", sig := { parameters := [], returnType := none }, accessFlags := 1, code := none }
def k1c1 : Code := { maxStack := 6, maxLocals := 12, code := code, exceptionTable := #[], attributes := #[] }
def k1m1 : Method := { name := "law", desc := "(IIII)Z", sig := { parameters := [.int, .int, .int, .int], returnType := some .boolean }, accessFlags := 9, code := some k1c1 }
def k1c2 : Code := { maxStack := 2, maxLocals := 1, code := method_3_code, exceptionTable := #[], attributes := #[] }
def k1m2 : Method := { name := "api", desc := "(I)Lcom/example/alviso/alviso/protocol/ApiKey;", sig := { parameters := [.int], returnType := some (.object "com/example/alviso/alviso/protocol/ApiKey") }, accessFlags := 10, code := some k1c2 }
/-- com/example/alviso/alviso/protocol/ResponseHeaderAnsweringPinLaw -/
def k1 : Class := { plain "com/example/alviso/alviso/protocol/ResponseHeaderAnsweringPinLaw" (some 0) with
  accessFlags := 49
  interfaces := #[]
  cf := some (fileOf pool1 9 #[] #[{ accessFlags := 1, nameIndex := 5, descriptorIndex := 6, attributes := #[] }, { accessFlags := 9, nameIndex := 107, descriptorIndex := 108, attributes := #[] }, { accessFlags := 10, nameIndex := 12, descriptorIndex := 13, attributes := #[] }] 49 2 #[] #[])
  fields := #[]
  methods := #[k1m0, k1m1, k1m2]
  instanceTypes := #[]
  staticTypes := #[]
  resolved := Array.replicate 114 none
  statics := none }

def pool2 : Array CpInfo := pool [(1, .class_ 2), (0, u "java/lang/constant/Constable"), (0, .class_ 4), (0, u "java/lang/Object")] 6

/-- java/lang/constant/Constable -/
def k2 : Class := { plain "java/lang/constant/Constable" (some 0) with
  accessFlags := 1537
  interfaces := #[]
  cf := some (fileOf pool2 1 #[] #[] 1537 3 #[] #[])
  fields := #[]
  methods := #[]
  instanceTypes := #[]
  staticTypes := #[]
  resolved := Array.replicate 11 none
  statics := none }

def pool3 : Array CpInfo := pool [(1, .class_ 2), (0, u "java/lang/Comparable"), (0, .class_ 4), (0, u "java/lang/Object")] 7

/-- java/lang/Comparable -/
def k3 : Class := { plain "java/lang/Comparable" (some 0) with
  accessFlags := 1537
  interfaces := #[]
  cf := some (fileOf pool3 1 #[] #[] 1537 3 #[] #[])
  fields := #[]
  methods := #[]
  instanceTypes := #[]
  staticTypes := #[]
  resolved := Array.replicate 12 none
  statics := none }

def pool4 : Array CpInfo := pool [(1, .class_ 2), (0, u "java/io/Serializable"), (0, .class_ 4), (0, u "java/lang/Object")] 2

/-- java/io/Serializable -/
def k4 : Class := { plain "java/io/Serializable" (some 0) with
  accessFlags := 1537
  interfaces := #[]
  cf := some (fileOf pool4 1 #[] #[] 1537 3 #[] #[])
  fields := #[]
  methods := #[]
  instanceTypes := #[]
  staticTypes := #[]
  resolved := Array.replicate 7 none
  statics := none }

def pool5 : Array CpInfo := pool [(2, .class_ 4), (1, u "java/lang/Enum"), (0, u "name"), (0, u "Ljava/lang/String;"), (2, u "ordinal"), (0, u "I"), (1, .class_ 14), (1, u "java/lang/Object"), (4, u "hash"), (86, .class_ 108), (1, u "java/lang/Enum$EnumDesc"), (2, .class_ 112), (0, u "java/lang/constant/Constable"), (0, .class_ 114), (0, u "java/lang/Comparable"), (0, .class_ 116), (0, u "java/io/Serializable")] 87

/-- java/lang/Enum -/
def k5 : Class := { plain "java/lang/Enum" (some 0) with
  accessFlags := 1057
  interfaces := #[2, 3, 4]
  cf := some (fileOf pool5 2 #[.nestMembers #[106]] #[] 1057 12 #[111, 113, 115] #[{ accessFlags := 18, nameIndex := 5, descriptorIndex := 6, attributes := #[] }, { accessFlags := 18, nameIndex := 9, descriptorIndex := 10, attributes := #[] }, { accessFlags := 2, nameIndex := 19, descriptorIndex := 10, attributes := #[] }])
  fields := #[{ name := "name", type := (.object "java/lang/String"), accessFlags := 18, slot := 0, constantValue := 0 }, { name := "ordinal", type := .int, accessFlags := 18, slot := 1, constantValue := 0 }, { name := "hash", type := .int, accessFlags := 2, slot := 2, constantValue := 0 }]
  methods := #[]
  instanceTypes := #[(.object "java/lang/String"), .int, .int]
  staticTypes := #[]
  resolved := Array.replicate 204 none
  statics := none }

def pool6 : Array CpInfo := pool [(1, .class_ 2), (0, u "com/example/alviso/alviso/protocol/ApiKey"), (2, u "PRODUCE"), (0, u "Lcom/example/alviso/alviso/protocol/ApiKey;"), (2, u "FETCH"), (2, u "LIST_OFFSETS"), (2, u "METADATA"), (2, u "OFFSET_COMMIT"), (2, u "OFFSET_FETCH"), (2, u "FIND_COORDINATOR"), (2, u "JOIN_GROUP"), (2, u "HEARTBEAT"), (2, u "LEAVE_GROUP"), (2, u "SYNC_GROUP"), (2, u "API_VERSIONS"), (2, u "CREATE_TOPICS"), (2, u "INIT_PRODUCER_ID"), (2, u "OFFSET_FOR_LEADER_EPOCH"), (2, u "DESCRIBE_CONFIGS"), (2, u "ELECT_LEADERS"), (2, u "ALTER_PARTITION"), (2, u "BROKER_REGISTRATION"), (2, u "BROKER_HEARTBEAT"), (2, u "ALLOCATE_PRODUCER_IDS"), (2, u "$VALUES"), (0, u "[Lcom/example/alviso/alviso/protocol/ApiKey;"), (6, .class_ 79), (1, u "java/lang/Enum"), (8, u "id"), (0, u "S"), (2, u "minVersion"), (2, u "maxVersion"), (0, .fieldref 1 97), (0, .nameAndType 98 89), (0, u "firstFlexibleVersion"), (50, u "(S)Z"), (1, u "isFlexible")] 26

def k6c0 : Code := { maxStack := 2, maxLocals := 2, code := prog_9_method_9_code, exceptionTable := #[], attributes := #[] }
def k6m0 : Method := { name := "isFlexible", desc := "(S)Z", sig := { parameters := [.short], returnType := some .boolean }, accessFlags := 1, code := some k6c0 }
/-- com/example/alviso/alviso/protocol/ApiKey -/
def k6 : Class := { plain "com/example/alviso/alviso/protocol/ApiKey" (some 5) with
  accessFlags := 16433
  interfaces := #[]
  cf := some (fileOf pool6 1 #[] #[{ accessFlags := 1, nameIndex := 151, descriptorIndex := 149, attributes := #[] }] 16433 77 #[] #[{ accessFlags := 16409, nameIndex := 5, descriptorIndex := 6, attributes := #[] }, { accessFlags := 16409, nameIndex := 9, descriptorIndex := 6, attributes := #[] }, { accessFlags := 16409, nameIndex := 12, descriptorIndex := 6, attributes := #[] }, { accessFlags := 16409, nameIndex := 15, descriptorIndex := 6, attributes := #[] }, { accessFlags := 16409, nameIndex := 18, descriptorIndex := 6, attributes := #[] }, { accessFlags := 16409, nameIndex := 21, descriptorIndex := 6, attributes := #[] }, { accessFlags := 16409, nameIndex := 24, descriptorIndex := 6, attributes := #[] }, { accessFlags := 16409, nameIndex := 27, descriptorIndex := 6, attributes := #[] }, { accessFlags := 16409, nameIndex := 30, descriptorIndex := 6, attributes := #[] }, { accessFlags := 16409, nameIndex := 33, descriptorIndex := 6, attributes := #[] }, { accessFlags := 16409, nameIndex := 36, descriptorIndex := 6, attributes := #[] }, { accessFlags := 16409, nameIndex := 39, descriptorIndex := 6, attributes := #[] }, { accessFlags := 16409, nameIndex := 42, descriptorIndex := 6, attributes := #[] }, { accessFlags := 16409, nameIndex := 45, descriptorIndex := 6, attributes := #[] }, { accessFlags := 16409, nameIndex := 48, descriptorIndex := 6, attributes := #[] }, { accessFlags := 16409, nameIndex := 51, descriptorIndex := 6, attributes := #[] }, { accessFlags := 16409, nameIndex := 54, descriptorIndex := 6, attributes := #[] }, { accessFlags := 16409, nameIndex := 57, descriptorIndex := 6, attributes := #[] }, { accessFlags := 16409, nameIndex := 60, descriptorIndex := 6, attributes := #[] }, { accessFlags := 16409, nameIndex := 63, descriptorIndex := 6, attributes := #[] }, { accessFlags := 16409, nameIndex := 66, descriptorIndex := 6, attributes := #[] }, { accessFlags := 18, nameIndex := 88, descriptorIndex := 89, attributes := #[] }, { accessFlags := 18, nameIndex := 92, descriptorIndex := 89, attributes := #[] }, { accessFlags := 18, nameIndex := 95, descriptorIndex := 89, attributes := #[] }, { accessFlags := 18, nameIndex := 98, descriptorIndex := 89, attributes := #[] }, { accessFlags := 4122, nameIndex := 69, descriptorIndex := 70, attributes := #[] }])
  fields := #[{ name := "PRODUCE", type := (.object "com/example/alviso/alviso/protocol/ApiKey"), accessFlags := 16409, slot := 0, constantValue := 0 }, { name := "FETCH", type := (.object "com/example/alviso/alviso/protocol/ApiKey"), accessFlags := 16409, slot := 1, constantValue := 0 }, { name := "LIST_OFFSETS", type := (.object "com/example/alviso/alviso/protocol/ApiKey"), accessFlags := 16409, slot := 2, constantValue := 0 }, { name := "METADATA", type := (.object "com/example/alviso/alviso/protocol/ApiKey"), accessFlags := 16409, slot := 3, constantValue := 0 }, { name := "OFFSET_COMMIT", type := (.object "com/example/alviso/alviso/protocol/ApiKey"), accessFlags := 16409, slot := 4, constantValue := 0 }, { name := "OFFSET_FETCH", type := (.object "com/example/alviso/alviso/protocol/ApiKey"), accessFlags := 16409, slot := 5, constantValue := 0 }, { name := "FIND_COORDINATOR", type := (.object "com/example/alviso/alviso/protocol/ApiKey"), accessFlags := 16409, slot := 6, constantValue := 0 }, { name := "JOIN_GROUP", type := (.object "com/example/alviso/alviso/protocol/ApiKey"), accessFlags := 16409, slot := 7, constantValue := 0 }, { name := "HEARTBEAT", type := (.object "com/example/alviso/alviso/protocol/ApiKey"), accessFlags := 16409, slot := 8, constantValue := 0 }, { name := "LEAVE_GROUP", type := (.object "com/example/alviso/alviso/protocol/ApiKey"), accessFlags := 16409, slot := 9, constantValue := 0 }, { name := "SYNC_GROUP", type := (.object "com/example/alviso/alviso/protocol/ApiKey"), accessFlags := 16409, slot := 10, constantValue := 0 }, { name := "API_VERSIONS", type := (.object "com/example/alviso/alviso/protocol/ApiKey"), accessFlags := 16409, slot := 11, constantValue := 0 }, { name := "CREATE_TOPICS", type := (.object "com/example/alviso/alviso/protocol/ApiKey"), accessFlags := 16409, slot := 12, constantValue := 0 }, { name := "INIT_PRODUCER_ID", type := (.object "com/example/alviso/alviso/protocol/ApiKey"), accessFlags := 16409, slot := 13, constantValue := 0 }, { name := "OFFSET_FOR_LEADER_EPOCH", type := (.object "com/example/alviso/alviso/protocol/ApiKey"), accessFlags := 16409, slot := 14, constantValue := 0 }, { name := "DESCRIBE_CONFIGS", type := (.object "com/example/alviso/alviso/protocol/ApiKey"), accessFlags := 16409, slot := 15, constantValue := 0 }, { name := "ELECT_LEADERS", type := (.object "com/example/alviso/alviso/protocol/ApiKey"), accessFlags := 16409, slot := 16, constantValue := 0 }, { name := "ALTER_PARTITION", type := (.object "com/example/alviso/alviso/protocol/ApiKey"), accessFlags := 16409, slot := 17, constantValue := 0 }, { name := "BROKER_REGISTRATION", type := (.object "com/example/alviso/alviso/protocol/ApiKey"), accessFlags := 16409, slot := 18, constantValue := 0 }, { name := "BROKER_HEARTBEAT", type := (.object "com/example/alviso/alviso/protocol/ApiKey"), accessFlags := 16409, slot := 19, constantValue := 0 }, { name := "ALLOCATE_PRODUCER_IDS", type := (.object "com/example/alviso/alviso/protocol/ApiKey"), accessFlags := 16409, slot := 20, constantValue := 0 }, { name := "id", type := .short, accessFlags := 18, slot := 3, constantValue := 0 }, { name := "minVersion", type := .short, accessFlags := 18, slot := 4, constantValue := 0 }, { name := "maxVersion", type := .short, accessFlags := 18, slot := 5, constantValue := 0 }, { name := "firstFlexibleVersion", type := .short, accessFlags := 18, slot := 6, constantValue := 0 }, { name := "$VALUES", type := (.array (.object "com/example/alviso/alviso/protocol/ApiKey")), accessFlags := 4122, slot := 21, constantValue := 0 }]
  methods := #[k6m0]
  instanceTypes := #[(.object "java/lang/String"), .int, .int, .short, .short, .short, .short]
  staticTypes := #[(.object "com/example/alviso/alviso/protocol/ApiKey"), (.object "com/example/alviso/alviso/protocol/ApiKey"), (.object "com/example/alviso/alviso/protocol/ApiKey"), (.object "com/example/alviso/alviso/protocol/ApiKey"), (.object "com/example/alviso/alviso/protocol/ApiKey"), (.object "com/example/alviso/alviso/protocol/ApiKey"), (.object "com/example/alviso/alviso/protocol/ApiKey"), (.object "com/example/alviso/alviso/protocol/ApiKey"), (.object "com/example/alviso/alviso/protocol/ApiKey"), (.object "com/example/alviso/alviso/protocol/ApiKey"), (.object "com/example/alviso/alviso/protocol/ApiKey"), (.object "com/example/alviso/alviso/protocol/ApiKey"), (.object "com/example/alviso/alviso/protocol/ApiKey"), (.object "com/example/alviso/alviso/protocol/ApiKey"), (.object "com/example/alviso/alviso/protocol/ApiKey"), (.object "com/example/alviso/alviso/protocol/ApiKey"), (.object "com/example/alviso/alviso/protocol/ApiKey"), (.object "com/example/alviso/alviso/protocol/ApiKey"), (.object "com/example/alviso/alviso/protocol/ApiKey"), (.object "com/example/alviso/alviso/protocol/ApiKey"), (.object "com/example/alviso/alviso/protocol/ApiKey"), (.array (.object "com/example/alviso/alviso/protocol/ApiKey"))]
  resolved := Array.replicate 178 none
  statics := some 0 }

def pool7 : Array CpInfo := pool [(2, .class_ 4), (1, u "java/lang/CharSequence"), (42, .class_ 48), (0, u "java/lang/CharSequence$1CodePointIterator"), (10, .class_ 60), (0, u "java/lang/CharSequence$1CharIterator"), (5, .class_ 67), (0, u "java/lang/Object")] 63

/-- java/lang/CharSequence -/
def k7 : Class := { plain "java/lang/CharSequence" (some 0) with
  accessFlags := 1537
  interfaces := #[]
  cf := some (fileOf pool7 2 #[.nestMembers #[47, 59]] #[] 1537 66 #[] #[])
  fields := #[]
  methods := #[]
  instanceTypes := #[]
  staticTypes := #[]
  resolved := Array.replicate 131 none
  statics := none }

def pool8 : Array CpInfo := pool [(1, .class_ 2), (0, u "java/lang/constant/ConstantDesc"), (0, .class_ 4), (0, u "java/lang/Object")] 32

/-- java/lang/constant/ConstantDesc -/
def k8 : Class := { plain "java/lang/constant/ConstantDesc" (some 0) with
  accessFlags := 1537
  interfaces := #[]
  cf := some (fileOf pool8 1 #[] #[] 1537 3 #[] #[])
  fields := #[]
  methods := #[]
  instanceTypes := #[]
  staticTypes := #[]
  resolved := Array.replicate 37 none
  statics := none }

def pool9 : Array CpInfo := pool [(1, .methodref 2 3), (0, .class_ 4), (0, .nameAndType 5 6), (0, u "java/lang/Object"), (0, u "<init>"), (0, u "()V"), (2, .fieldref 10 11), (0, .class_ 12), (0, .nameAndType 13 14), (0, u "java/lang/String"), (0, u "value"), (0, u "[B"), (0, .fieldref 10 16), (0, .nameAndType 17 18), (0, u "coder"), (0, u "B"), (2, u "hash"), (0, u "I"), (2, u "hashIsZero"), (0, u "Z"), (11, .fieldref 10 39), (0, .nameAndType 40 26), (0, u "COMPACT_STRINGS"), (12, u "toBytes"), (53, .class_ 109), (1, u "java/lang/StringLatin1"), (99, .methodref 10 210), (0, .nameAndType 5 211), (0, u "([BB)V"), (157, u "(C)Z"), (205, .class_ 576), (0, u "java/lang/CharSequence"), (22, u "CASE_INSENSITIVE_ORDER"), (0, u "Ljava/util/Comparator;"), (181, u "valueOf"), (0, u "(C)Ljava/lang/String;"), (231, .methodref 107 1016), (0, .nameAndType 1017 369), (0, u "canEncode"), (0, .methodref 107 1019), (0, .nameAndType 53 1020), (0, u "(C)[B"), (80, u "serialPersistentFields"), (0, u "[Ljava/io/ObjectStreamField;"), (0, .class_ 1104), (0, u "java/lang/String$CaseInsensitiveComparator"), (1, .class_ 1107), (0, u "java/io/Serializable"), (0, .class_ 1109), (0, u "java/lang/Comparable"), (0, .class_ 1111), (0, u "java/lang/constant/Constable"), (0, .class_ 1113), (0, u "java/lang/constant/ConstantDesc"), (2, u "serialVersionUID"), (0, u "J"), (3, u "REPL"), (0, u "C"), (2, u "LATIN1"), (1, u "UTF16")] 323

def k9m0 : Method := { name := "<init>", desc := "()V", sig := { parameters := [], returnType := none }, accessFlags := 1, code := none }
def k9c1 : Code := { maxStack := 4, maxLocals := 1, code := jdk_42_method_139_code, exceptionTable := #[], attributes := #[] }
def k9m1 : Method := { name := "valueOf", desc := "(C)Ljava/lang/String;", sig := { parameters := [.char], returnType := some (.object "java/lang/String") }, accessFlags := 9, code := some k9c1 }
def k9c2 : Code := { maxStack := 2, maxLocals := 3, code := jdk_42_method_151_code, exceptionTable := #[], attributes := #[] }
def k9m2 : Method := { name := "<init>", desc := "([BB)V", sig := { parameters := [(.array .byte), .byte], returnType := none }, accessFlags := 0, code := some k9c2 }
/-- java/lang/String -/
def k9 : Class := { plain "java/lang/String" (some 0) with
  accessFlags := 49
  interfaces := #[4, 3, 7, 2, 8]
  cf := some (fileOf pool9 10 #[.nestMembers #[1103]] #[{ accessFlags := 1, nameIndex := 5, descriptorIndex := 6, attributes := #[] }, { accessFlags := 9, nameIndex := 782, descriptorIndex := 783, attributes := #[] }, { accessFlags := 0, nameIndex := 5, descriptorIndex := 211, attributes := #[] }] 49 2 #[1106, 1108, 575, 1110, 1112] #[{ accessFlags := 18, nameIndex := 13, descriptorIndex := 14, attributes := #[] }, { accessFlags := 18, nameIndex := 17, descriptorIndex := 18, attributes := #[] }, { accessFlags := 2, nameIndex := 21, descriptorIndex := 22, attributes := #[] }, { accessFlags := 2, nameIndex := 25, descriptorIndex := 26, attributes := #[] }, { accessFlags := 26, nameIndex := 1116, descriptorIndex := 1117, attributes := #[] }, { accessFlags := 24, nameIndex := 40, descriptorIndex := 26, attributes := #[] }, { accessFlags := 26, nameIndex := 1101, descriptorIndex := 1102, attributes := #[] }, { accessFlags := 26, nameIndex := 1121, descriptorIndex := 1122, attributes := #[] }, { accessFlags := 25, nameIndex := 599, descriptorIndex := 600, attributes := #[] }, { accessFlags := 24, nameIndex := 1125, descriptorIndex := 18, attributes := #[] }, { accessFlags := 24, nameIndex := 1127, descriptorIndex := 18, attributes := #[] }])
  fields := #[{ name := "value", type := (.array .byte), accessFlags := 18, slot := 0, constantValue := 0 }, { name := "coder", type := .byte, accessFlags := 18, slot := 1, constantValue := 0 }, { name := "hash", type := .int, accessFlags := 2, slot := 2, constantValue := 0 }, { name := "hashIsZero", type := .boolean, accessFlags := 2, slot := 3, constantValue := 0 }, { name := "serialVersionUID", type := .long, accessFlags := 26, slot := 0, constantValue := 0 }, { name := "COMPACT_STRINGS", type := .boolean, accessFlags := 24, slot := 1, constantValue := 0 }, { name := "serialPersistentFields", type := (.array (.object "java/io/ObjectStreamField")), accessFlags := 26, slot := 2, constantValue := 0 }, { name := "REPL", type := .char, accessFlags := 26, slot := 3, constantValue := 0 }, { name := "CASE_INSENSITIVE_ORDER", type := (.object "java/util/Comparator"), accessFlags := 25, slot := 4, constantValue := 0 }, { name := "LATIN1", type := .byte, accessFlags := 24, slot := 5, constantValue := 0 }, { name := "UTF16", type := .byte, accessFlags := 24, slot := 6, constantValue := 0 }]
  methods := #[k9m0, k9m1, k9m2]
  instanceTypes := #[(.array .byte), .byte, .int, .boolean]
  staticTypes := #[.long, .boolean, (.array (.object "java/io/ObjectStreamField")), .char, (.object "java/util/Comparator"), .byte, .byte]
  resolved := Array.replicate 1451 none
  statics := some 1 }

def pool10 : Array CpInfo := pool [(4, .class_ 6), (1, u "java/lang/Object"), (0, u "<init>"), (0, u "()V"), (5, .class_ 16), (1, u "java/lang/StringLatin1"), (73, u "canEncode"), (14, u "(C)Z"), (15, u "$assertionsDisabled"), (0, u "Z"), (98, .class_ 223), (1, u "java/lang/StringLatin1$LinesSpliterator"), (156, u "toBytes"), (1, u "(C)[B"), (7, .class_ 391), (0, u "java/lang/StringLatin1$CharsSpliterator")] 3

def k10m0 : Method := { name := "<init>", desc := "()V", sig := { parameters := [], returnType := none }, accessFlags := 0, code := none }
def k10c1 : Code := { maxStack := 2, maxLocals := 1, code := jdk_43_method_3_code, exceptionTable := #[], attributes := #[] }
def k10m1 : Method := { name := "canEncode", desc := "(C)Z", sig := { parameters := [.char], returnType := some .boolean }, accessFlags := 9, code := some k10c1 }
def k10c2 : Code := { maxStack := 4, maxLocals := 1, code := jdk_43_method_46_code, exceptionTable := #[], attributes := #[] }
def k10m2 : Method := { name := "toBytes", desc := "(C)[B", sig := { parameters := [.char], returnType := some (.array .byte) }, accessFlags := 9, code := some k10c2 }
/-- java/lang/StringLatin1 -/
def k10 : Class := { plain "java/lang/StringLatin1" (some 0) with
  accessFlags := 48
  interfaces := #[]
  cf := some (fileOf pool10 14 #[.nestMembers #[390, 221]] #[{ accessFlags := 0, nameIndex := 7, descriptorIndex := 8, attributes := #[] }, { accessFlags := 9, nameIndex := 90, descriptorIndex := 105, attributes := #[] }, { accessFlags := 9, nameIndex := 380, descriptorIndex := 382, attributes := #[] }] 48 4 #[] #[{ accessFlags := 4120, nameIndex := 121, descriptorIndex := 122, attributes := #[] }])
  fields := #[{ name := "$assertionsDisabled", type := .boolean, accessFlags := 4120, slot := 0, constantValue := 0 }]
  methods := #[k10m0, k10m1, k10m2]
  instanceTypes := #[]
  staticTypes := #[.boolean]
  resolved := Array.replicate 395 none
  statics := none }

def pool11 : Array CpInfo := pool [(1, .methodref 2 3), (0, .class_ 4), (0, .nameAndType 5 6), (0, u "java/lang/Object"), (0, u "<init>"), (0, u "()V"), (0, .class_ 8), (0, u "java/lang/Record")] 13

def k11c0 : Code := { maxStack := 1, maxLocals := 1, code := jdk_30_method_1_code, exceptionTable := #[], attributes := #[] }
def k11m0 : Method := { name := "<init>", desc := "()V", sig := { parameters := [], returnType := none }, accessFlags := 4, code := some k11c0 }
/-- java/lang/Record -/
def k11 : Class := { plain "java/lang/Record" (some 0) with
  accessFlags := 1057
  interfaces := #[]
  cf := some (fileOf pool11 7 #[] #[{ accessFlags := 4, nameIndex := 5, descriptorIndex := 6, attributes := #[] }] 1057 2 #[] #[])
  fields := #[]
  methods := #[k11m0]
  instanceTypes := #[]
  staticTypes := #[]
  resolved := Array.replicate 22 none
  statics := none }

def pool12 : Array CpInfo := pool [(1, .methodref 2 3), (0, .class_ 4), (0, .nameAndType 5 6), (0, u "java/lang/Record"), (0, u "<init>"), (0, u "()V"), (0, .fieldref 8 9), (0, .class_ 10), (0, .nameAndType 11 12), (0, u "com/example/alviso/alviso/protocol/RequestHeader"), (0, u "api"), (0, u "Lcom/example/alviso/alviso/protocol/ApiKey;"), (0, .fieldref 8 14), (0, .nameAndType 15 16), (0, u "version"), (0, u "S"), (0, .fieldref 8 18), (0, .nameAndType 19 20), (0, u "correlationId"), (0, u "I"), (0, .fieldref 8 22), (0, .nameAndType 23 24), (0, u "clientId"), (0, u "Ljava/lang/String;"), (5, u "()S"), (3, u "()I"), (46, u "(Lcom/example/alviso/alviso/protocol/ApiKey;SILjava/lang/String;)V"), (55, u "()Lcom/example/alviso/alviso/protocol/ApiKey;")] 54

def k12c0 : Code := { maxStack := 2, maxLocals := 5, code := prog_95_method_1_code, exceptionTable := #[], attributes := #[] }
def k12m0 : Method := { name := "<init>", desc := "(Lcom/example/alviso/alviso/protocol/ApiKey;SILjava/lang/String;)V", sig := { parameters := [(.object "com/example/alviso/alviso/protocol/ApiKey"), .short, .int, (.object "java/lang/String")], returnType := none }, accessFlags := 1, code := some k12c0 }
def k12c1 : Code := { maxStack := 1, maxLocals := 1, code := prog_95_method_7_code, exceptionTable := #[], attributes := #[] }
def k12m1 : Method := { name := "api", desc := "()Lcom/example/alviso/alviso/protocol/ApiKey;", sig := { parameters := [], returnType := some (.object "com/example/alviso/alviso/protocol/ApiKey") }, accessFlags := 1, code := some k12c1 }
def k12c2 : Code := { maxStack := 1, maxLocals := 1, code := prog_95_method_8_code, exceptionTable := #[], attributes := #[] }
def k12m2 : Method := { name := "version", desc := "()S", sig := { parameters := [], returnType := some .short }, accessFlags := 1, code := some k12c2 }
def k12c3 : Code := { maxStack := 1, maxLocals := 1, code := prog_95_method_9_code, exceptionTable := #[], attributes := #[] }
def k12m3 : Method := { name := "correlationId", desc := "()I", sig := { parameters := [], returnType := some .int }, accessFlags := 1, code := some k12c3 }
/-- com/example/alviso/alviso/protocol/RequestHeader -/
def k12 : Class := { plain "com/example/alviso/alviso/protocol/RequestHeader" (some 11) with
  accessFlags := 49
  interfaces := #[]
  cf := some (fileOf pool12 8 #[] #[{ accessFlags := 1, nameIndex := 5, descriptorIndex := 81, attributes := #[] }, { accessFlags := 1, nameIndex := 11, descriptorIndex := 137, attributes := #[] }, { accessFlags := 1, nameIndex := 15, descriptorIndex := 30, attributes := #[] }, { accessFlags := 1, nameIndex := 19, descriptorIndex := 34, attributes := #[] }] 49 2 #[] #[{ accessFlags := 18, nameIndex := 11, descriptorIndex := 12, attributes := #[] }, { accessFlags := 18, nameIndex := 15, descriptorIndex := 16, attributes := #[] }, { accessFlags := 18, nameIndex := 19, descriptorIndex := 20, attributes := #[] }, { accessFlags := 18, nameIndex := 23, descriptorIndex := 24, attributes := #[] }])
  fields := #[{ name := "api", type := (.object "com/example/alviso/alviso/protocol/ApiKey"), accessFlags := 18, slot := 0, constantValue := 0 }, { name := "version", type := .short, accessFlags := 18, slot := 1, constantValue := 0 }, { name := "correlationId", type := .int, accessFlags := 18, slot := 2, constantValue := 0 }, { name := "clientId", type := (.object "java/lang/String"), accessFlags := 18, slot := 3, constantValue := 0 }]
  methods := #[k12m0, k12m1, k12m2, k12m3]
  instanceTypes := #[(.object "com/example/alviso/alviso/protocol/ApiKey"), .short, .int, (.object "java/lang/String")]
  staticTypes := #[]
  resolved := Array.replicate 192 none
  statics := none }

def pool13 : Array CpInfo := pool [(1, .methodref 2 3), (0, .class_ 4), (0, .nameAndType 5 6), (0, u "java/lang/Record"), (0, u "<init>"), (0, u "()V"), (0, .fieldref 8 9), (0, .class_ 10), (0, .nameAndType 11 12), (0, u "com/example/alviso/alviso/protocol/ResponseHeader"), (0, u "correlationId"), (0, u "I"), (0, .fieldref 8 14), (0, .nameAndType 15 16), (0, u "flexible"), (0, u "Z"), (0, .methodref 18 19), (0, .class_ 20), (0, .nameAndType 11 21), (0, u "com/example/alviso/alviso/protocol/RequestHeader"), (0, u "()I"), (0, .methodref 8 23), (0, .nameAndType 24 25), (0, u "isFlexible"), (0, u "(Lcom/example/alviso/alviso/protocol/RequestHeader;)Z"), (0, .methodref 8 27), (0, .nameAndType 5 28), (0, u "(IZ)V"), (17, .methodref 18 47), (0, .nameAndType 48 49), (0, u "api"), (0, u "()Lcom/example/alviso/alviso/protocol/ApiKey;"), (0, .fieldref 51 52), (0, .class_ 53), (0, .nameAndType 54 55), (0, u "com/example/alviso/alviso/protocol/ApiKey"), (0, u "API_VERSIONS"), (0, u "Lcom/example/alviso/alviso/protocol/ApiKey;"), (0, .methodref 18 57), (0, .nameAndType 58 59), (0, u "version"), (0, u "()S"), (0, .methodref 51 61), (0, .nameAndType 24 62), (0, u "(S)Z"), (15, u "answering"), (0, u "(Lcom/example/alviso/alviso/protocol/RequestHeader;)Lcom/example/alviso/alviso/protocol/ResponseHeader;"), (7, u "()Z")] 21

def k13c0 : Code := { maxStack := 2, maxLocals := 3, code := prog_97_method_1_code, exceptionTable := #[], attributes := #[] }
def k13m0 : Method := { name := "<init>", desc := "(IZ)V", sig := { parameters := [.int, .boolean], returnType := none }, accessFlags := 1, code := some k13c0 }
def k13c1 : Code := { maxStack := 4, maxLocals := 1, code := prog_97_method_2_code, exceptionTable := #[], attributes := #[] }
def k13m1 : Method := { name := "answering", desc := "(Lcom/example/alviso/alviso/protocol/RequestHeader;)Lcom/example/alviso/alviso/protocol/ResponseHeader;", sig := { parameters := [(.object "com/example/alviso/alviso/protocol/RequestHeader")], returnType := some (.object "com/example/alviso/alviso/protocol/ResponseHeader") }, accessFlags := 9, code := some k13c1 }
def k13c2 : Code := { maxStack := 2, maxLocals := 1, code := prog_97_method_5_code, exceptionTable := #[], attributes := #[] }
def k13m2 : Method := { name := "isFlexible", desc := "(Lcom/example/alviso/alviso/protocol/RequestHeader;)Z", sig := { parameters := [(.object "com/example/alviso/alviso/protocol/RequestHeader")], returnType := some .boolean }, accessFlags := 10, code := some k13c2 }
def k13c3 : Code := { maxStack := 1, maxLocals := 1, code := prog_97_method_9_code, exceptionTable := #[], attributes := #[] }
def k13m3 : Method := { name := "correlationId", desc := "()I", sig := { parameters := [], returnType := some .int }, accessFlags := 1, code := some k13c3 }
def k13c4 : Code := { maxStack := 1, maxLocals := 1, code := prog_97_method_10_code, exceptionTable := #[], attributes := #[] }
def k13m4 : Method := { name := "flexible", desc := "()Z", sig := { parameters := [], returnType := some .boolean }, accessFlags := 1, code := some k13c4 }
/-- com/example/alviso/alviso/protocol/ResponseHeader -/
def k13 : Class := { plain "com/example/alviso/alviso/protocol/ResponseHeader" (some 11) with
  accessFlags := 49
  interfaces := #[]
  cf := some (fileOf pool13 8 #[] #[{ accessFlags := 1, nameIndex := 5, descriptorIndex := 28, attributes := #[] }, { accessFlags := 9, nameIndex := 78, descriptorIndex := 79, attributes := #[] }, { accessFlags := 10, nameIndex := 24, descriptorIndex := 25, attributes := #[] }, { accessFlags := 1, nameIndex := 11, descriptorIndex := 21, attributes := #[] }, { accessFlags := 1, nameIndex := 15, descriptorIndex := 87, attributes := #[] }] 49 2 #[] #[{ accessFlags := 18, nameIndex := 11, descriptorIndex := 12, attributes := #[] }, { accessFlags := 18, nameIndex := 15, descriptorIndex := 16, attributes := #[] }])
  fields := #[{ name := "correlationId", type := .int, accessFlags := 18, slot := 0, constantValue := 0 }, { name := "flexible", type := .boolean, accessFlags := 18, slot := 1, constantValue := 0 }]
  methods := #[k13m0, k13m1, k13m2, k13m3, k13m4]
  instanceTypes := #[.int, .boolean]
  staticTypes := #[]
  resolved := Array.replicate 109 none
  statics := none }

def pool14 : Array CpInfo := pool [(2, .class_ 4), (1, u "java/lang/Object"), (0, u "<init>"), (0, u "()V"), (17, .class_ 26), (1, u "jdk/internal/util/Preconditions"), (28, .class_ 56), (0, u "jdk/internal/util/Preconditions$4"), (57, .class_ 115), (0, u "jdk/internal/util/Preconditions$1"), (7, u "SIOOBE_FORMATTER"), (0, u "Ljava/util/function/BiFunction;"), (0, .class_ 126), (0, u "jdk/internal/util/Preconditions$2"), (3, u "AIOOBE_FORMATTER"), (0, .class_ 132), (0, u "jdk/internal/util/Preconditions$3"), (3, u "IOOBE_FORMATTER")] 57

def k14m0 : Method := { name := "<init>", desc := "()V", sig := { parameters := [], returnType := none }, accessFlags := 1, code := none }
/-- jdk/internal/util/Preconditions -/
def k14 : Class := { plain "jdk/internal/util/Preconditions" (some 0) with
  accessFlags := 33
  interfaces := #[]
  cf := some (fileOf pool14 24 #[.nestMembers #[55, 131, 125, 114]] #[{ accessFlags := 1, nameIndex := 5, descriptorIndex := 6, attributes := #[] }] 33 2 #[] #[{ accessFlags := 25, nameIndex := 123, descriptorIndex := 124, attributes := #[] }, { accessFlags := 25, nameIndex := 130, descriptorIndex := 124, attributes := #[] }, { accessFlags := 25, nameIndex := 136, descriptorIndex := 124, attributes := #[] }])
  fields := #[{ name := "SIOOBE_FORMATTER", type := (.object "java/util/function/BiFunction"), accessFlags := 25, slot := 0, constantValue := 0 }, { name := "AIOOBE_FORMATTER", type := (.object "java/util/function/BiFunction"), accessFlags := 25, slot := 1, constantValue := 0 }, { name := "IOOBE_FORMATTER", type := (.object "java/util/function/BiFunction"), accessFlags := 25, slot := 2, constantValue := 0 }]
  methods := #[k14m0]
  instanceTypes := #[]
  staticTypes := #[(.object "java/util/function/BiFunction"), (.object "java/util/function/BiFunction"), (.object "java/util/function/BiFunction")]
  resolved := Array.replicate 194 none
  statics := some 2 }

def pool15 : Array CpInfo := pool [(9, u "<init>"), (6, .class_ 18), (1, u "java/lang/Object"), (0, u "()V"), (1, .class_ 23), (1, u "jdk/internal/util/ArraysSupport"), (0, u "LOG2_ARRAY_LONG_INDEX_SCALE"), (0, u "I"), (2, u "U"), (0, u "Ljdk/internal/misc/Unsafe;"), (8, u "BIG_ENDIAN"), (0, u "Z"), (8, u "LOG2_BYTE_BIT_SIZE"), (4, u "LOG2_ARRAY_INT_INDEX_SCALE"), (54, u "JLA"), (0, u "Ljdk/internal/access/JavaLangAccess;"), (11, u "LOG2_ARRAY_BOOLEAN_INDEX_SCALE"), (9, u "LOG2_ARRAY_BYTE_INDEX_SCALE"), (5, u "LOG2_ARRAY_CHAR_INDEX_SCALE"), (5, u "LOG2_ARRAY_SHORT_INDEX_SCALE"), (18, u "LOG2_ARRAY_FLOAT_INDEX_SCALE"), (24, u "LOG2_ARRAY_DOUBLE_INDEX_SCALE"), (89, u "T_BOOLEAN"), (2, u "T_CHAR"), (1, u "T_FLOAT"), (1, u "T_DOUBLE"), (1, u "T_BYTE"), (1, u "T_SHORT"), (1, u "T_INT"), (1, u "T_LONG"), (1, u "SOFT_MAX_ARRAY_LENGTH")] 83

def k15m0 : Method := { name := "<init>", desc := "()V", sig := { parameters := [], returnType := none }, accessFlags := 2, code := none }
/-- jdk/internal/util/ArraysSupport -/
def k15 : Class := { plain "jdk/internal/util/ArraysSupport" (some 0) with
  accessFlags := 33
  interfaces := #[]
  cf := some (fileOf pool15 21 #[] #[{ accessFlags := 2, nameIndex := 9, descriptorIndex := 19, attributes := #[] }] 33 16 #[] #[{ accessFlags := 24, nameIndex := 28, descriptorIndex := 29, attributes := #[] }, { accessFlags := 26, nameIndex := 38, descriptorIndex := 39, attributes := #[] }, { accessFlags := 25, nameIndex := 121, descriptorIndex := 25, attributes := #[] }, { accessFlags := 25, nameIndex := 131, descriptorIndex := 25, attributes := #[] }, { accessFlags := 25, nameIndex := 137, descriptorIndex := 25, attributes := #[] }, { accessFlags := 25, nameIndex := 143, descriptorIndex := 25, attributes := #[] }, { accessFlags := 25, nameIndex := 53, descriptorIndex := 25, attributes := #[] }, { accessFlags := 25, nameIndex := 24, descriptorIndex := 25, attributes := #[] }, { accessFlags := 25, nameIndex := 162, descriptorIndex := 25, attributes := #[] }, { accessFlags := 25, nameIndex := 187, descriptorIndex := 25, attributes := #[] }, { accessFlags := 26, nameIndex := 48, descriptorIndex := 25, attributes := #[] }, { accessFlags := 25, nameIndex := 277, descriptorIndex := 25, attributes := #[] }, { accessFlags := 25, nameIndex := 280, descriptorIndex := 25, attributes := #[] }, { accessFlags := 25, nameIndex := 282, descriptorIndex := 25, attributes := #[] }, { accessFlags := 25, nameIndex := 284, descriptorIndex := 25, attributes := #[] }, { accessFlags := 25, nameIndex := 286, descriptorIndex := 25, attributes := #[] }, { accessFlags := 25, nameIndex := 288, descriptorIndex := 25, attributes := #[] }, { accessFlags := 25, nameIndex := 290, descriptorIndex := 25, attributes := #[] }, { accessFlags := 25, nameIndex := 292, descriptorIndex := 25, attributes := #[] }, { accessFlags := 26, nameIndex := 108, descriptorIndex := 109, attributes := #[] }, { accessFlags := 25, nameIndex := 294, descriptorIndex := 25, attributes := #[] }])
  fields := #[{ name := "U", type := (.object "jdk/internal/misc/Unsafe"), accessFlags := 24, slot := 0, constantValue := 0 }, { name := "BIG_ENDIAN", type := .boolean, accessFlags := 26, slot := 1, constantValue := 0 }, { name := "LOG2_ARRAY_BOOLEAN_INDEX_SCALE", type := .int, accessFlags := 25, slot := 2, constantValue := 0 }, { name := "LOG2_ARRAY_BYTE_INDEX_SCALE", type := .int, accessFlags := 25, slot := 3, constantValue := 0 }, { name := "LOG2_ARRAY_CHAR_INDEX_SCALE", type := .int, accessFlags := 25, slot := 4, constantValue := 0 }, { name := "LOG2_ARRAY_SHORT_INDEX_SCALE", type := .int, accessFlags := 25, slot := 5, constantValue := 0 }, { name := "LOG2_ARRAY_INT_INDEX_SCALE", type := .int, accessFlags := 25, slot := 6, constantValue := 0 }, { name := "LOG2_ARRAY_LONG_INDEX_SCALE", type := .int, accessFlags := 25, slot := 7, constantValue := 0 }, { name := "LOG2_ARRAY_FLOAT_INDEX_SCALE", type := .int, accessFlags := 25, slot := 8, constantValue := 0 }, { name := "LOG2_ARRAY_DOUBLE_INDEX_SCALE", type := .int, accessFlags := 25, slot := 9, constantValue := 0 }, { name := "LOG2_BYTE_BIT_SIZE", type := .int, accessFlags := 26, slot := 10, constantValue := 0 }, { name := "T_BOOLEAN", type := .int, accessFlags := 25, slot := 11, constantValue := 0 }, { name := "T_CHAR", type := .int, accessFlags := 25, slot := 12, constantValue := 0 }, { name := "T_FLOAT", type := .int, accessFlags := 25, slot := 13, constantValue := 0 }, { name := "T_DOUBLE", type := .int, accessFlags := 25, slot := 14, constantValue := 0 }, { name := "T_BYTE", type := .int, accessFlags := 25, slot := 15, constantValue := 0 }, { name := "T_SHORT", type := .int, accessFlags := 25, slot := 16, constantValue := 0 }, { name := "T_INT", type := .int, accessFlags := 25, slot := 17, constantValue := 0 }, { name := "T_LONG", type := .int, accessFlags := 25, slot := 18, constantValue := 0 }, { name := "JLA", type := (.object "jdk/internal/access/JavaLangAccess"), accessFlags := 26, slot := 19, constantValue := 0 }, { name := "SOFT_MAX_ARRAY_LENGTH", type := .int, accessFlags := 25, slot := 20, constantValue := 0 }]
  methods := #[k15m0]
  instanceTypes := #[]
  staticTypes := #[(.object "jdk/internal/misc/Unsafe"), .boolean, .int, .int, .int, .int, .int, .int, .int, .int, .int, .int, .int, .int, .int, .int, .int, .int, .int, (.object "jdk/internal/access/JavaLangAccess"), .int]
  resolved := Array.replicate 378 none
  statics := none }

def pool16 : Array CpInfo := pool [(1, u "java/lang/Cloneable"), (0, .class_ 1), (0, u "java/lang/Object"), (0, .class_ 3)] 3

/-- java/lang/Cloneable -/
def k16 : Class := { plain "java/lang/Cloneable" (some 0) with
  accessFlags := 1537
  interfaces := #[]
  cf := some (fileOf pool16 2 #[] #[] 1537 4 #[] #[])
  fields := #[]
  methods := #[]
  instanceTypes := #[]
  staticTypes := #[]
  resolved := Array.replicate 8 none
  statics := none }

/-- the primitive byte -/
def k17 : Class := { plain "byte" none with kind := .primitive 'B', accessFlags := 0x411 }
/-- [B -/
def k18 : Class := { plain "[B" (some 0) with kind := .array 17 .byte, interfaces := #[16, 4], accessFlags := 1041 }

/-- the primitive int -/
def k19 : Class := { plain "int" none with kind := .primitive 'I', accessFlags := 0x411 }
/-- [I -/
def k20 : Class := { plain "[I" (some 0) with kind := .array 19 .int, interfaces := #[16, 4], accessFlags := 1041 }

def heap : Heap := #[{ cls := 6, slots := #[.ref 3, .ref 7, .ref 13, .ref 8, .ref 12, .ref 19, .ref 20, .ref 11, .ref 10, .ref 17, .ref 16, .ref 4, .ref 5, .ref 14, .ref 9, .ref 22, .ref 6, .ref 18, .ref 23, .ref 15, .ref 21, .null], vm := .statics 6 },
  { cls := 9, slots := #[.long 0, .int 1, .null, .int 0, .null, .int 0, .int 0], vm := .statics 9 },
  { cls := 14, slots := #[.null, .null, .null], vm := .statics 14 },
  { cls := 6, slots := #[.null, .int 0, .int 0, .int 0, .int 0, .int 0, .int 9], vm := .none },
  { cls := 6, slots := #[.null, .int 11, .int 0, .int 0, .int 0, .int 0, .int 3], vm := .none },
  { cls := 6, slots := #[.null, .int 12, .int 0, .int 0, .int 0, .int 0, .int 5], vm := .none },
  { cls := 6, slots := #[.null, .int 16, .int 0, .int 0, .int 0, .int 0, .int 2], vm := .none },
  { cls := 6, slots := #[.null, .int 1, .int 0, .int 0, .int 0, .int 0, .int 12], vm := .none },
  { cls := 6, slots := #[.null, .int 3, .int 0, .int 0, .int 0, .int 0, .int 9], vm := .none },
  { cls := 6, slots := #[.null, .int 14, .int 0, .int 0, .int 0, .int 0, .int 4], vm := .none },
  { cls := 6, slots := #[.null, .int 8, .int 0, .int 0, .int 0, .int 0, .int 4], vm := .none },
  { cls := 6, slots := #[.null, .int 7, .int 0, .int 0, .int 0, .int 0, .int 6], vm := .none },
  { cls := 6, slots := #[.null, .int 4, .int 0, .int 0, .int 0, .int 0, .int 8], vm := .none },
  { cls := 6, slots := #[.null, .int 2, .int 0, .int 0, .int 0, .int 0, .int 6], vm := .none },
  { cls := 6, slots := #[.null, .int 13, .int 0, .int 0, .int 0, .int 0, .int 2], vm := .none },
  { cls := 6, slots := #[.null, .int 19, .int 0, .int 0, .int 0, .int 0, .int 0], vm := .none },
  { cls := 6, slots := #[.null, .int 10, .int 0, .int 0, .int 0, .int 0, .int 4], vm := .none },
  { cls := 6, slots := #[.null, .int 9, .int 0, .int 0, .int 0, .int 0, .int 4], vm := .none },
  { cls := 6, slots := #[.null, .int 17, .int 0, .int 0, .int 0, .int 0, .int 0], vm := .none },
  { cls := 6, slots := #[.null, .int 5, .int 0, .int 0, .int 0, .int 0, .int 6], vm := .none },
  { cls := 6, slots := #[.null, .int 6, .int 0, .int 0, .int 0, .int 0, .int 3], vm := .none },
  { cls := 6, slots := #[.null, .int 20, .int 0, .int 0, .int 0, .int 0, .int 0], vm := .none },
  { cls := 6, slots := #[.null, .int 15, .int 0, .int 0, .int 0, .int 0, .int 4], vm := .none },
  { cls := 6, slots := #[.null, .int 18, .int 0, .int 0, .int 0, .int 0, .int 0], vm := .none }]
def classes : Array Class := #[k0, k1, k2, k3, k4, k5, k6, k7, k8, k9, k10, k11, k12, k13, k14, k15, k16, k17, k18, k19, k20]
def interned : List (Array UInt16 × Addr) := []
def slotsUsed : Nat := 179
def theMethod : MethodId := ⟨1, 1⟩
def args0 : Array Value := #[.int 5, .int 9, .int 7, .int 3]
def aboutOver (below : List Frame) : State where
  vm := { classes := classes, interned := interned.toArray }
  heap := heap
  slotsUsed := slotsUsed
  threads := #[{ frames := .invoking theMethod args0 :: below }]
def below0 : List Frame := [.native { method := ⟨0, 0⟩, args := #[] }]
def about1 : State := aboutOver below0
def p0 : Program := .bare "" "" ""
def e0 : Env := launch0.env 0 0 0
theorem w_frames : about1.frames = Frame.invoking theMethod args0 :: below0 := rfl
set_option maxRecDepth 65536 in
theorem w_args : argsFit about1.vm theMethod args0 = true := by decide +kernel
set_option maxRecDepth 65536 in
theorem w_heap : heapFits about1 = true := by decide +kernel
set_option maxRecDepth 65536 in
theorem w_runnable : about1.curStatus? = some .runnable := by decide +kernel
set_option maxRecDepth 65536 in
theorem w_alone : about1.alone = true := by decide +kernel
set_option maxRecDepth 65536 in
theorem w_named : about1.methodNamed? x = some theMethod := by decide +kernel
set_option maxRecDepth 65536 in
theorem w_hears : about1.hears theMethod below0 = true := by decide +kernel
set_option maxRecDepth 65536 in
theorem w_ripe : about1.ripe theMethod args0 below0 = true := by decide +kernel
theorem w_running : about1.status = .running := rfl
set_option maxRecDepth 65536 in
theorem w_room : about1.hasRoom e0.platform room_1 = true :=
  launch0.hasRoom_least _ room_1 (by decide +kernel) (by decide +kernel) (by decide +kernel) (by decide +kernel) (by decide +kernel) (by decide +kernel)
theorem allAtoms_all (ts : List Jvm.Cond) (a : Array Jvm.Value) (st : Jvm.State) : (allAtoms ts).before a st = ts.all (fun c => c.before a st) := by
  induction ts with
  | nil => rfl
  | cons c t ih =>
    show (Jvm.Cond.and c (allAtoms t)).before a st = _
    rw [Jvm.Cond.before_and, ih, List.all_cons]
def words1 : List Jvm.Cond := Jvm.Cond.code x code maxLocals ret :: tables_1
/-- a 'code' word, met by the world's own term for the bytes: nothing is compared byte by byte -/
theorem code_word {y : MethodName} {bytes : ByteArray} {mx : Nat} {rt : Option FieldType} {a : Array Value} {s : State} {m : MethodId} {meth : Method} {c : Code} (h1 : s.methodNamed? y = some m) (h2 : s.vm.method? m = some meth) (h3 : meth.code = some c) (h4 : c.code = bytes)
    (h5 : (c.maxLocals == mx && c.exceptionTable.isEmpty && decide (c.maxStack ≤ mostOperands) && decide (meth.sig.returnType = rt) && !meth.locks && decide (parseMethodDescriptor y.desc = some meth.sig)) = true) : (Jvm.Cond.code y bytes mx rt).before a s = true := by
  simp only [Bool.and_eq_true, beq_iff_eq, Bool.not_eq_true', decide_eq_true_eq] at h5
  obtain ⟨⟨⟨⟨⟨g1, g2⟩, g3⟩, g4⟩, g5⟩, g6⟩ := h5
  simp [Cond.before, Cond.holds, Cond.value, h1, h2, h3, h4, g1, g2, g3, g4, g5, g6]
def isCode : Jvm.Cond → Bool
  | .code _ _ _ _ => true
  | _ => false
theorem all_split {L : List Jvm.Cond} {P : Jvm.Cond → Bool} (h1 : L.all (fun c => isCode c || P c) = true) (h2 : ∀ c ∈ L.filter isCode, P c = true) : L.all P = true := by
  refine List.all_eq_true.mpr fun c hc => ?_
  have h := List.all_eq_true.mp h1 c hc
  rcases Bool.eq_false_or_eq_true (isCode c) with hi | hi
  · exact h2 c (List.mem_filter.mpr ⟨hc, hi⟩)
  · simpa [hi] using h
set_option maxRecDepth 65536 in
theorem w_c0 : (Jvm.Cond.code x code maxLocals ret).before args0 about1 = true := code_word (m := ⟨1, 1⟩) (meth := k1m1) (c := k1c1) (by decide +kernel) rfl rfl rfl (by decide +kernel)
set_option maxRecDepth 65536 in
theorem w_c1 : (Jvm.Cond.code ({ cls := "com/example/alviso/alviso/protocol/ResponseHeaderAnsweringPinLaw", name := "api", desc := "(I)Lcom/example/alviso/alviso/protocol/ApiKey;" } : Jvm.MethodName) method_3_code (1 : Nat) (Option.some (Jvm.ClassFile.FieldType.object "com/example/alviso/alviso/protocol/ApiKey"))).before args0 about1 = true := code_word (m := ⟨1, 2⟩) (meth := k1m2) (c := k1c2) (by decide +kernel) rfl rfl rfl (by decide +kernel)
set_option maxRecDepth 65536 in
theorem w_c2 : (Jvm.Cond.code ({ cls := "java/lang/String", name := "valueOf", desc := "(C)Ljava/lang/String;" } : Jvm.MethodName) jdk_42_method_139_code (1 : Nat) (Option.some (Jvm.ClassFile.FieldType.object "java/lang/String"))).before args0 about1 = true := code_word (m := ⟨9, 1⟩) (meth := k9m1) (c := k9c1) (by decide +kernel) rfl rfl rfl (by decide +kernel)
set_option maxRecDepth 65536 in
theorem w_c3 : (Jvm.Cond.code ({ cls := "java/lang/StringLatin1", name := "canEncode", desc := "(C)Z" } : Jvm.MethodName) jdk_43_method_3_code (1 : Nat) (Option.some Jvm.ClassFile.FieldType.boolean)).before args0 about1 = true := code_word (m := ⟨10, 1⟩) (meth := k10m1) (c := k10c1) (by decide +kernel) rfl rfl rfl (by decide +kernel)
set_option maxRecDepth 65536 in
theorem w_c4 : (Jvm.Cond.code ({ cls := "java/lang/StringLatin1", name := "toBytes", desc := "(C)[B" } : Jvm.MethodName) jdk_43_method_46_code (1 : Nat) (Option.some (Jvm.ClassFile.FieldType.array Jvm.ClassFile.FieldType.byte))).before args0 about1 = true := code_word (m := ⟨10, 2⟩) (meth := k10m2) (c := k10c2) (by decide +kernel) rfl rfl rfl (by decide +kernel)
set_option maxRecDepth 65536 in
theorem w_c5 : (Jvm.Cond.code ({ cls := "java/lang/String", name := "<init>", desc := "([BB)V" } : Jvm.MethodName) jdk_42_method_151_code (3 : Nat) (Option.none : Option Jvm.ClassFile.FieldType)).before args0 about1 = true := code_word (m := ⟨9, 2⟩) (meth := k9m2) (c := k9c2) (by decide +kernel) rfl rfl rfl (by decide +kernel)
set_option maxRecDepth 65536 in
theorem w_c6 : (Jvm.Cond.code ({ cls := "java/lang/Object", name := "<init>", desc := "()V" } : Jvm.MethodName) object_method_1_code (1 : Nat) (Option.none : Option Jvm.ClassFile.FieldType)).before args0 about1 = true := code_word (m := ⟨0, 0⟩) (meth := k0m0) (c := k0c0) (by decide +kernel) rfl rfl rfl (by decide +kernel)
set_option maxRecDepth 65536 in
theorem w_c7 : (Jvm.Cond.code ({ cls := "com/example/alviso/alviso/protocol/RequestHeader", name := "<init>", desc := "(Lcom/example/alviso/alviso/protocol/ApiKey;SILjava/lang/String;)V" } : Jvm.MethodName) prog_95_method_1_code (5 : Nat) (Option.none : Option Jvm.ClassFile.FieldType)).before args0 about1 = true := code_word (m := ⟨12, 0⟩) (meth := k12m0) (c := k12c0) (by decide +kernel) rfl rfl rfl (by decide +kernel)
set_option maxRecDepth 65536 in
theorem w_c8 : (Jvm.Cond.code ({ cls := "java/lang/Record", name := "<init>", desc := "()V" } : Jvm.MethodName) jdk_30_method_1_code (1 : Nat) (Option.none : Option Jvm.ClassFile.FieldType)).before args0 about1 = true := code_word (m := ⟨11, 0⟩) (meth := k11m0) (c := k11c0) (by decide +kernel) rfl rfl rfl (by decide +kernel)
set_option maxRecDepth 65536 in
theorem w_c9 : (Jvm.Cond.code ({ cls := "com/example/alviso/alviso/protocol/ResponseHeader", name := "answering", desc := "(Lcom/example/alviso/alviso/protocol/RequestHeader;)Lcom/example/alviso/alviso/protocol/ResponseHeader;" } : Jvm.MethodName) prog_97_method_2_code (1 : Nat) (Option.some (Jvm.ClassFile.FieldType.object "com/example/alviso/alviso/protocol/ResponseHeader"))).before args0 about1 = true := code_word (m := ⟨13, 1⟩) (meth := k13m1) (c := k13c1) (by decide +kernel) rfl rfl rfl (by decide +kernel)
set_option maxRecDepth 65536 in
theorem w_c10 : (Jvm.Cond.code ({ cls := "com/example/alviso/alviso/protocol/RequestHeader", name := "correlationId", desc := "()I" } : Jvm.MethodName) prog_95_method_9_code (1 : Nat) (Option.some Jvm.ClassFile.FieldType.int)).before args0 about1 = true := code_word (m := ⟨12, 3⟩) (meth := k12m3) (c := k12c3) (by decide +kernel) rfl rfl rfl (by decide +kernel)
set_option maxRecDepth 65536 in
theorem w_c11 : (Jvm.Cond.code ({ cls := "com/example/alviso/alviso/protocol/ResponseHeader", name := "isFlexible", desc := "(Lcom/example/alviso/alviso/protocol/RequestHeader;)Z" } : Jvm.MethodName) prog_97_method_5_code (1 : Nat) (Option.some Jvm.ClassFile.FieldType.boolean)).before args0 about1 = true := code_word (m := ⟨13, 2⟩) (meth := k13m2) (c := k13c2) (by decide +kernel) rfl rfl rfl (by decide +kernel)
set_option maxRecDepth 65536 in
theorem w_c12 : (Jvm.Cond.code ({ cls := "com/example/alviso/alviso/protocol/RequestHeader", name := "api", desc := "()Lcom/example/alviso/alviso/protocol/ApiKey;" } : Jvm.MethodName) prog_95_method_7_code (1 : Nat) (Option.some (Jvm.ClassFile.FieldType.object "com/example/alviso/alviso/protocol/ApiKey"))).before args0 about1 = true := code_word (m := ⟨12, 1⟩) (meth := k12m1) (c := k12c1) (by decide +kernel) rfl rfl rfl (by decide +kernel)
set_option maxRecDepth 65536 in
theorem w_c13 : (Jvm.Cond.code ({ cls := "com/example/alviso/alviso/protocol/RequestHeader", name := "version", desc := "()S" } : Jvm.MethodName) prog_95_method_8_code (1 : Nat) (Option.some Jvm.ClassFile.FieldType.short)).before args0 about1 = true := code_word (m := ⟨12, 2⟩) (meth := k12m2) (c := k12c2) (by decide +kernel) rfl rfl rfl (by decide +kernel)
set_option maxRecDepth 65536 in
theorem w_c14 : (Jvm.Cond.code ({ cls := "com/example/alviso/alviso/protocol/ApiKey", name := "isFlexible", desc := "(S)Z" } : Jvm.MethodName) prog_9_method_9_code (2 : Nat) (Option.some Jvm.ClassFile.FieldType.boolean)).before args0 about1 = true := code_word (m := ⟨6, 0⟩) (meth := k6m0) (c := k6c0) (by decide +kernel) rfl rfl rfl (by decide +kernel)
set_option maxRecDepth 65536 in
theorem w_c15 : (Jvm.Cond.code ({ cls := "com/example/alviso/alviso/protocol/ResponseHeader", name := "<init>", desc := "(IZ)V" } : Jvm.MethodName) prog_97_method_1_code (3 : Nat) (Option.none : Option Jvm.ClassFile.FieldType)).before args0 about1 = true := code_word (m := ⟨13, 0⟩) (meth := k13m0) (c := k13c0) (by decide +kernel) rfl rfl rfl (by decide +kernel)
set_option maxRecDepth 65536 in
theorem w_c16 : (Jvm.Cond.code ({ cls := "com/example/alviso/alviso/protocol/ResponseHeader", name := "correlationId", desc := "()I" } : Jvm.MethodName) prog_97_method_9_code (1 : Nat) (Option.some Jvm.ClassFile.FieldType.int)).before args0 about1 = true := code_word (m := ⟨13, 3⟩) (meth := k13m3) (c := k13c3) (by decide +kernel) rfl rfl rfl (by decide +kernel)
set_option maxRecDepth 65536 in
theorem w_c17 : (Jvm.Cond.code ({ cls := "com/example/alviso/alviso/protocol/ResponseHeader", name := "flexible", desc := "()Z" } : Jvm.MethodName) prog_97_method_10_code (1 : Nat) (Option.some Jvm.ClassFile.FieldType.boolean)).before args0 about1 = true := code_word (m := ⟨13, 4⟩) (meth := k13m4) (c := k13c4) (by decide +kernel) rfl rfl rfl (by decide +kernel)
def codes1 : List Jvm.Cond := [Jvm.Cond.code x code maxLocals ret, Jvm.Cond.code ({ cls := "com/example/alviso/alviso/protocol/ResponseHeaderAnsweringPinLaw", name := "api", desc := "(I)Lcom/example/alviso/alviso/protocol/ApiKey;" } : Jvm.MethodName) method_3_code (1 : Nat) (Option.some (Jvm.ClassFile.FieldType.object "com/example/alviso/alviso/protocol/ApiKey")), Jvm.Cond.code ({ cls := "java/lang/String", name := "valueOf", desc := "(C)Ljava/lang/String;" } : Jvm.MethodName) jdk_42_method_139_code (1 : Nat) (Option.some (Jvm.ClassFile.FieldType.object "java/lang/String")), Jvm.Cond.code ({ cls := "java/lang/StringLatin1", name := "canEncode", desc := "(C)Z" } : Jvm.MethodName) jdk_43_method_3_code (1 : Nat) (Option.some Jvm.ClassFile.FieldType.boolean), Jvm.Cond.code ({ cls := "java/lang/StringLatin1", name := "toBytes", desc := "(C)[B" } : Jvm.MethodName) jdk_43_method_46_code (1 : Nat) (Option.some (Jvm.ClassFile.FieldType.array Jvm.ClassFile.FieldType.byte)), Jvm.Cond.code ({ cls := "java/lang/String", name := "<init>", desc := "([BB)V" } : Jvm.MethodName) jdk_42_method_151_code (3 : Nat) (Option.none : Option Jvm.ClassFile.FieldType), Jvm.Cond.code ({ cls := "java/lang/Object", name := "<init>", desc := "()V" } : Jvm.MethodName) object_method_1_code (1 : Nat) (Option.none : Option Jvm.ClassFile.FieldType), Jvm.Cond.code ({ cls := "com/example/alviso/alviso/protocol/RequestHeader", name := "<init>", desc := "(Lcom/example/alviso/alviso/protocol/ApiKey;SILjava/lang/String;)V" } : Jvm.MethodName) prog_95_method_1_code (5 : Nat) (Option.none : Option Jvm.ClassFile.FieldType), Jvm.Cond.code ({ cls := "java/lang/Record", name := "<init>", desc := "()V" } : Jvm.MethodName) jdk_30_method_1_code (1 : Nat) (Option.none : Option Jvm.ClassFile.FieldType), Jvm.Cond.code ({ cls := "com/example/alviso/alviso/protocol/ResponseHeader", name := "answering", desc := "(Lcom/example/alviso/alviso/protocol/RequestHeader;)Lcom/example/alviso/alviso/protocol/ResponseHeader;" } : Jvm.MethodName) prog_97_method_2_code (1 : Nat) (Option.some (Jvm.ClassFile.FieldType.object "com/example/alviso/alviso/protocol/ResponseHeader")), Jvm.Cond.code ({ cls := "com/example/alviso/alviso/protocol/RequestHeader", name := "correlationId", desc := "()I" } : Jvm.MethodName) prog_95_method_9_code (1 : Nat) (Option.some Jvm.ClassFile.FieldType.int), Jvm.Cond.code ({ cls := "com/example/alviso/alviso/protocol/ResponseHeader", name := "isFlexible", desc := "(Lcom/example/alviso/alviso/protocol/RequestHeader;)Z" } : Jvm.MethodName) prog_97_method_5_code (1 : Nat) (Option.some Jvm.ClassFile.FieldType.boolean), Jvm.Cond.code ({ cls := "com/example/alviso/alviso/protocol/RequestHeader", name := "api", desc := "()Lcom/example/alviso/alviso/protocol/ApiKey;" } : Jvm.MethodName) prog_95_method_7_code (1 : Nat) (Option.some (Jvm.ClassFile.FieldType.object "com/example/alviso/alviso/protocol/ApiKey")), Jvm.Cond.code ({ cls := "com/example/alviso/alviso/protocol/RequestHeader", name := "version", desc := "()S" } : Jvm.MethodName) prog_95_method_8_code (1 : Nat) (Option.some Jvm.ClassFile.FieldType.short), Jvm.Cond.code ({ cls := "com/example/alviso/alviso/protocol/ApiKey", name := "isFlexible", desc := "(S)Z" } : Jvm.MethodName) prog_9_method_9_code (2 : Nat) (Option.some Jvm.ClassFile.FieldType.boolean), Jvm.Cond.code ({ cls := "com/example/alviso/alviso/protocol/ResponseHeader", name := "<init>", desc := "(IZ)V" } : Jvm.MethodName) prog_97_method_1_code (3 : Nat) (Option.none : Option Jvm.ClassFile.FieldType), Jvm.Cond.code ({ cls := "com/example/alviso/alviso/protocol/ResponseHeader", name := "correlationId", desc := "()I" } : Jvm.MethodName) prog_97_method_9_code (1 : Nat) (Option.some Jvm.ClassFile.FieldType.int), Jvm.Cond.code ({ cls := "com/example/alviso/alviso/protocol/ResponseHeader", name := "flexible", desc := "()Z" } : Jvm.MethodName) prog_97_method_10_code (1 : Nat) (Option.some Jvm.ClassFile.FieldType.boolean)]
set_option maxRecDepth 65536 in
theorem codes_eq : words1.filter isCode = codes1 := rfl
theorem w_codes : ∀ c ∈ words1.filter isCode, c.before args0 about1 = true := by
  rw [codes_eq]
  intro c hc
  simp only [codes1, List.mem_cons, List.not_mem_nil, or_false] at hc
  rcases hc with rfl | rfl | rfl | rfl | rfl | rfl | rfl | rfl | rfl | rfl | rfl | rfl | rfl | rfl | rfl | rfl | rfl | rfl
  · exact w_c0
  · exact w_c1
  · exact w_c2
  · exact w_c3
  · exact w_c4
  · exact w_c5
  · exact w_c6
  · exact w_c7
  · exact w_c8
  · exact w_c9
  · exact w_c10
  · exact w_c11
  · exact w_c12
  · exact w_c13
  · exact w_c14
  · exact w_c15
  · exact w_c16
  · exact w_c17
set_option maxRecDepth 65536 in
theorem w_t1 : (words1.take 24).all (fun c => isCode c || c.before args0 about1) = true := by decide +kernel
set_option maxRecDepth 65536 in
theorem w_t2 : ((words1.drop 24).take 24).all (fun c => isCode c || c.before args0 about1) = true := by decide +kernel
set_option maxRecDepth 65536 in
theorem w_t3 : (((words1.drop 24).drop 24).take 24).all (fun c => isCode c || c.before args0 about1) = true := by decide +kernel
set_option maxRecDepth 65536 in
theorem w_t4 : ((((words1.drop 24).drop 24).drop 24).take 24).all (fun c => isCode c || c.before args0 about1) = true := by decide +kernel
set_option maxRecDepth 65536 in
theorem w_t5 : (((((words1.drop 24).drop 24).drop 24).drop 24).take 24).all (fun c => isCode c || c.before args0 about1) = true := by decide +kernel
set_option maxRecDepth 65536 in
theorem w_t6 : ((((((words1.drop 24).drop 24).drop 24).drop 24).drop 24).take 24).all (fun c => isCode c || c.before args0 about1) = true := by decide +kernel
set_option maxRecDepth 65536 in
theorem w_t7 : ((((((words1.drop 24).drop 24).drop 24).drop 24).drop 24).drop 24).all (fun c => isCode c || c.before args0 about1) = true := by decide +kernel
theorem w_tables : (allAtoms (Jvm.Cond.code x code maxLocals ret :: tables_1)).before args0 about1 = true := by
  rw [allAtoms_all]
  show words1.all (fun c => c.before args0 about1) = true
  refine all_split ?_ w_codes
  rw [← List.take_append_drop 24 words1, List.all_append, w_t1, ← List.take_append_drop 24 (words1.drop 24), List.all_append, w_t2, ← List.take_append_drop 24 ((words1.drop 24).drop 24), List.all_append, w_t3, ← List.take_append_drop 24 (((words1.drop 24).drop 24).drop 24), List.all_append, w_t4, ← List.take_append_drop 24 ((((words1.drop 24).drop 24).drop 24).drop 24), List.all_append, w_t5, ← List.take_append_drop 24 (((((words1.drop 24).drop 24).drop 24).drop 24).drop 24), List.all_append, w_t6, w_t7]
  rfl
set_option maxRecDepth 65536 in
theorem w_rest : rest_1_c.before args0 about1 = true := by decide +kernel
set_option maxRecDepth 65536 in
theorem w_case : (Jvm.Cond.and given_1 narrow_1).before args0 about1 = true := by decide +kernel
theorem w_applies : (headSpec (Jvm.Cond.code x code maxLocals ret :: tables_1) room_1).applies x e0.platform about1 = true :=
  (Spec.applies_iff w_frames).mpr ⟨w_running, w_runnable, w_alone, w_named, w_hears, w_ripe, w_room, w_tables⟩
theorem atStart : AtStart classFile x code maxLocals ret World_1 tables_1 room_1 Calls_1 rest_1 Pre_1 launch0 p0 e0 about1 theMethod args0 below0 :=
  ⟨lists_1, trivial, launch0.admits_env _ _ _, launch0.least_env, fairChoices_fair.cas, fairChoices_fair.clock, w_frames, w_args, w_heap, w_applies, trivial, w_rest, w_case⟩
end start1
theorem witness_1 : WitnessClaimed_1 := ⟨start1.p0, start1.e0, start1.about1, start1.theMethod, start1.args0, start1.below0, start1.atStart⟩
end Jvm.Pilot.@@N@@
