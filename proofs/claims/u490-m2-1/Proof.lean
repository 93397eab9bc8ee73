import JvmDerived
import JvmDerived.Pilot.@@N@@Statement
import JvmDerived.Pilot.@@N@@Code
set_option linter.unusedVariables false
set_option linter.unusedSimpArgs false
@@BLOCK:NumsL.lean.txt@@
namespace Jvm.RoadKit
open Sem ClassFile Op Lib Jvm.Stand Jvm.Free Jvm.LawKit
section New
variable {p : Program} {l : Launch} {e : Env} {R : Room} {s : State} {m : MethodId} {args : Array Value} {below : List Frame} {meth : Method} {c : Code} {T : State} {locs : List Loc} {cells slots : Nat}
theorem retI (X : Stand p l e R s m args below meth c T locs cells slots) (hx : p.tables.exec = Jvm.exec) {pc : Nat} {Ls : Array Slot} {z : Int32} {rest : List Value} (hret : meth.sig.returnType = some .int) (hd : decode c.code pc = .ok (.ireturn, 1)) {fs : List Frame}
    (hl : ∀ (f : JFrame) (acts : List Action), f.method = m → f.locked = none → f.entered = [] → (doReturn e (T.setTop f) acts (some (.int z))).1 = T.setFrames fs) : Steps p.tables e below (T.setTop (mkF m pc Ls (.int z :: rest))) (T.setFrames fs) := by
  have hm' : T.vm.method? m = some meth := X.method'
  have hn : narrow .int (.int z) = .int z := rfl
  show Steps p.tables e below (T.setTop { method := m, pc := pc, locals := Ls, stack := _ :: rest, locked := none }) _
  jvm_step X.here [X.here.top, hx, hd, hm', hret, hn]
  first | (intro acts; rw [hl _ acts rfl rfl rfl]) | rw [hl _ _ rfl rfl rfl]
  exact Steps.refl _
end New
end Jvm.RoadKit
namespace Jvm.Pilot.@@N@@
open Jvm Jvm.ClassFile Sem Op Lib Jvm.Free Jvm.Stand Jvm.LawKit Jvm.RoadKit Bundle Jvm.Pilot.@@N@@.Jvm.D

theorem own_lltT {x y : Int64} (h : x < y) : ifCond.holds .lt (lcmpW x y) = true := (if0 _ _).trans ((tlt (by rw [lcW]; exact (lc_lt x y).mpr h)).1)
theorem own_lltF {x y : Int64} (h : ¬ (x < y)) : ifCond.holds .lt (lcmpW x y) = false := (if0 _ _).trans ((flt (by rw [lcW]; exact fun q => h ((lc_lt x y).mp q))).1)
theorem own_lgeT {x y : Int64} (h : ¬ (x < y)) : ifCond.holds .ge (lcmpW x y) = true := (if0 _ _).trans ((flt (by rw [lcW]; exact fun q => h ((lc_lt x y).mp q))).2.1)
theorem own_lgeF {x y : Int64} (h : x < y) : ifCond.holds .ge (lcmpW x y) = false := (if0 _ _).trans ((tlt (by rw [lcW]; exact (lc_lt x y).mpr h)).2.1)
theorem own_lgtT {x y : Int64} (h : y < x) : ifCond.holds .gt (lcmpW x y) = true := (if0 _ _).trans ((tlt (by rw [lcW]; exact (lc_gt x y).mpr h)).2.2.1)
theorem own_lgtF {x y : Int64} (h : ¬ (y < x)) : ifCond.holds .gt (lcmpW x y) = false := (if0 _ _).trans ((flt (by rw [lcW]; exact fun q => h ((lc_gt x y).mp q))).2.2.1)
theorem own_lleT {x y : Int64} (h : ¬ (y < x)) : ifCond.holds .le (lcmpW x y) = true := (if0 _ _).trans ((flt (by rw [lcW]; exact fun q => h ((lc_gt x y).mp q))).2.2.2)
theorem own_lleF {x y : Int64} (h : y < x) : ifCond.holds .le (lcmpW x y) = false := (if0 _ _).trans ((tlt (by rw [lcW]; exact (lc_gt x y).mpr h)).2.2.2)
theorem own_leqT {x y : Int64} (h : x = y) : ifCond.holds .eq (lcmpW x y) = true := (if0 _ _).trans ((teq (by rw [lcW]; exact (lc_eq x y).mpr h)).1)
theorem own_leqF {x y : Int64} (h : ¬ (x = y)) : ifCond.holds .eq (lcmpW x y) = false := (if0 _ _).trans ((feq (by rw [lcW]; exact fun q => h ((lc_eq x y).mp q))).1)
theorem own_lneT {x y : Int64} (h : ¬ (x = y)) : ifCond.holds .ne (lcmpW x y) = true := (if0 _ _).trans ((feq (by rw [lcW]; exact fun q => h ((lc_eq x y).mp q))).2)
theorem own_lneF {x y : Int64} (h : x = y) : ifCond.holds .ne (lcmpW x y) = false := (if0 _ _).trans ((teq (by rw [lcW]; exact (lc_eq x y).mpr h)).2)
theorem own_fldI {s : State} {args : Array Value} {t : Term} {C n d : String} {k : Int32} {a : Addr} (ev : t.eval args s none [] s = some (.ref a)) (h : (Jvm.Cond.eq (Term.field t C n d) (Term.int k)).value args s none s [] = some true) : Fld s s.heap a C n d (.int k) := by
  obtain ⟨x, y, hx, hy, K1, K2⟩ := cmp_v (Or.inl h)
  cases (Term.int_eval k).symm.trans hy
  obtain ⟨z, rfl⟩ := K2
  have q := gotT (Cond.eq_ints hx hy) h
  subst q
  rw [fld_at ev] at hx
  exact Fld.start hx
theorem own_ns0 {h : Heap} : ∀ st ∈ ([] : List Addr), ∀ c : Cell, h[st]? = some c → c.vm.isStatics = false := fun _ q => nomatch q
theorem own_nsE {Z : State} {h : Heap} {y : Addr} {C : String} {L : List Addr} (E : Exa Z h y C) (r : ∀ st ∈ L, ∀ c : Cell, h[st]? = some c → c.vm.isStatics = false) : ∀ st ∈ y :: L, ∀ c : Cell, h[st]? = some c → c.vm.isStatics = false := fun st hm c hc => (List.mem_cons.mp hm).elim (fun u => by
  subst u
  obtain ⟨cell, k, h1, -, -, h4, -⟩ := E
  cases h1.symm.trans hc
  exact h4) (fun u => r st u c hc)
theorem own_nsV {Z : State} {h : Heap} {y : Addr} {k : ClassId} {ty : FieldType} {z : Int32} {vs : List Value} {dv : Value} {L : List Addr} (E : Arv Z h y k ty z vs dv) (r : ∀ st ∈ L, ∀ c : Cell, h[st]? = some c → c.vm.isStatics = false) : ∀ st ∈ y :: L, ∀ c : Cell, h[st]? = some c → c.vm.isStatics = false := fun st hm c hc => (List.mem_cons.mp hm).elim (fun u => by
  subst u
  obtain ⟨cell, A, -⟩ := E
  cases A.1.symm.trans hc
  exact A.plain) (fun u => r st u c hc)
theorem own_staKeep {Z : State} {h h' : Heap} {ws : List Addr} {C n d : String} {v : Value} (F : Sta Z h C n d v) (K : Keep h h' ws) (q : ∀ st ∈ ws, ∀ c : Cell, h[st]? = some c → c.vm.isStatics = false) : Sta Z h' C n d v := by
  obtain ⟨cf, i, k, f, st, cell, h1, h2, h3, h4, h5, h6, h7⟩ := F
  exact ⟨cf, i, k, f, st, cell, h1, h2, h3, h4, K.2.1 st cell h5 (fun hm => by rw [q st hm cell h5] at h6; cases h6), h6, h7⟩
def own_ff (p1 : Int32) : Int32 := (if p1 = (0 : Int32) then (9 : Int32) else (if p1 = (1 : Int32) then (12 : Int32) else (if p1 = (2 : Int32) then (6 : Int32) else (if p1 = (3 : Int32) then (9 : Int32) else (if p1 = (4 : Int32) then (8 : Int32) else (if p1 = (5 : Int32) then (6 : Int32) else (if p1 = (6 : Int32) then (3 : Int32) else (if p1 = (7 : Int32) then (6 : Int32) else (if p1 = (8 : Int32) then (4 : Int32) else (if p1 = (9 : Int32) then (4 : Int32) else (if p1 = (10 : Int32) then (4 : Int32) else (if p1 = (11 : Int32) then (3 : Int32) else (if p1 = (12 : Int32) then (5 : Int32) else (if p1 = (13 : Int32) then (2 : Int32) else (if p1 = (14 : Int32) then (4 : Int32) else (if p1 = (15 : Int32) then (4 : Int32) else (if p1 = (16 : Int32) then (2 : Int32) else (if p1 = (17 : Int32) then (0 : Int32) else (if p1 = (18 : Int32) then (0 : Int32) else (if p1 = (19 : Int32) then (0 : Int32) else (0 : Int32)))))))))))))))))))))
theorem own_k {k : Int32} (h0 : 0 ≤ k.toInt) (h1 : k.toInt < 21) : k = 0 ∨ k = 1 ∨ k = 2 ∨ k = 3 ∨ k = 4 ∨ k = 5 ∨ k = 6 ∨ k = 7 ∨ k = 8 ∨ k = 9 ∨ k = 10 ∨ k = 11 ∨ k = 12 ∨ k = 13 ∨ k = 14 ∨ k = 15 ∨ k = 16 ∨ k = 17 ∨ k = 18 ∨ k = 19 ∨ k = 20 := by
  have e : k.toInt = 0 ∨ k.toInt = 1 ∨ k.toInt = 2 ∨ k.toInt = 3 ∨ k.toInt = 4 ∨ k.toInt = 5 ∨ k.toInt = 6 ∨ k.toInt = 7 ∨ k.toInt = 8 ∨ k.toInt = 9 ∨ k.toInt = 10 ∨ k.toInt = 11 ∨ k.toInt = 12 ∨ k.toInt = 13 ∨ k.toInt = 14 ∨ k.toInt = 15 ∨ k.toInt = 16 ∨ k.toInt = 17 ∨ k.toInt = 18 ∨ k.toInt = 19 ∨ k.toInt = 20 := by omega
  rcases e with e | e | e | e | e | e | e | e | e | e | e | e | e | e | e | e | e | e | e | e | e
  all_goals (first | exact Or.inl (Int32.toInt_inj.mp e) | exact Or.inr (Or.inl (Int32.toInt_inj.mp e)) | exact Or.inr (Or.inr (Or.inl (Int32.toInt_inj.mp e))) | exact Or.inr (Or.inr (Or.inr (Or.inl (Int32.toInt_inj.mp e)))) | exact Or.inr (Or.inr (Or.inr (Or.inr (Or.inl (Int32.toInt_inj.mp e))))) | exact Or.inr (Or.inr (Or.inr (Or.inr (Or.inr (Or.inl (Int32.toInt_inj.mp e)))))) | exact Or.inr (Or.inr (Or.inr (Or.inr (Or.inr (Or.inr (Or.inl (Int32.toInt_inj.mp e))))))) | exact Or.inr (Or.inr (Or.inr (Or.inr (Or.inr (Or.inr (Or.inr (Or.inl (Int32.toInt_inj.mp e)))))))) | exact Or.inr (Or.inr (Or.inr (Or.inr (Or.inr (Or.inr (Or.inr (Or.inr (Or.inl (Int32.toInt_inj.mp e))))))))) | exact Or.inr (Or.inr (Or.inr (Or.inr (Or.inr (Or.inr (Or.inr (Or.inr (Or.inr (Or.inl (Int32.toInt_inj.mp e)))))))))) | exact Or.inr (Or.inr (Or.inr (Or.inr (Or.inr (Or.inr (Or.inr (Or.inr (Or.inr (Or.inr (Or.inl (Int32.toInt_inj.mp e))))))))))) | exact Or.inr (Or.inr (Or.inr (Or.inr (Or.inr (Or.inr (Or.inr (Or.inr (Or.inr (Or.inr (Or.inr (Or.inl (Int32.toInt_inj.mp e)))))))))))) | exact Or.inr (Or.inr (Or.inr (Or.inr (Or.inr (Or.inr (Or.inr (Or.inr (Or.inr (Or.inr (Or.inr (Or.inr (Or.inl (Int32.toInt_inj.mp e))))))))))))) | exact Or.inr (Or.inr (Or.inr (Or.inr (Or.inr (Or.inr (Or.inr (Or.inr (Or.inr (Or.inr (Or.inr (Or.inr (Or.inr (Or.inl (Int32.toInt_inj.mp e)))))))))))))) | exact Or.inr (Or.inr (Or.inr (Or.inr (Or.inr (Or.inr (Or.inr (Or.inr (Or.inr (Or.inr (Or.inr (Or.inr (Or.inr (Or.inr (Or.inl (Int32.toInt_inj.mp e))))))))))))))) | exact Or.inr (Or.inr (Or.inr (Or.inr (Or.inr (Or.inr (Or.inr (Or.inr (Or.inr (Or.inr (Or.inr (Or.inr (Or.inr (Or.inr (Or.inr (Or.inl (Int32.toInt_inj.mp e)))))))))))))))) | exact Or.inr (Or.inr (Or.inr (Or.inr (Or.inr (Or.inr (Or.inr (Or.inr (Or.inr (Or.inr (Or.inr (Or.inr (Or.inr (Or.inr (Or.inr (Or.inr (Or.inl (Int32.toInt_inj.mp e))))))))))))))))) | exact Or.inr (Or.inr (Or.inr (Or.inr (Or.inr (Or.inr (Or.inr (Or.inr (Or.inr (Or.inr (Or.inr (Or.inr (Or.inr (Or.inr (Or.inr (Or.inr (Or.inr (Or.inl (Int32.toInt_inj.mp e)))))))))))))))))) | exact Or.inr (Or.inr (Or.inr (Or.inr (Or.inr (Or.inr (Or.inr (Or.inr (Or.inr (Or.inr (Or.inr (Or.inr (Or.inr (Or.inr (Or.inr (Or.inr (Or.inr (Or.inr (Or.inl (Int32.toInt_inj.mp e))))))))))))))))))) | exact Or.inr (Or.inr (Or.inr (Or.inr (Or.inr (Or.inr (Or.inr (Or.inr (Or.inr (Or.inr (Or.inr (Or.inr (Or.inr (Or.inr (Or.inr (Or.inr (Or.inr (Or.inr (Or.inr (Or.inl (Int32.toInt_inj.mp e)))))))))))))))))))) | exact Or.inr (Or.inr (Or.inr (Or.inr (Or.inr (Or.inr (Or.inr (Or.inr (Or.inr (Or.inr (Or.inr (Or.inr (Or.inr (Or.inr (Or.inr (Or.inr (Or.inr (Or.inr (Or.inr (Or.inr (Int32.toInt_inj.mp e)))))))))))))))))))))
theorem own_tab {k : Int32} (h0 : 0 ≤ k.toInt) (h1 : k.toInt < 21) : ([(.int (9 : Int32)), (.int (12 : Int32)), (.int (6 : Int32)), (.int (9 : Int32)), (.int (8 : Int32)), (.int (6 : Int32)), (.int (3 : Int32)), (.int (6 : Int32)), (.int (4 : Int32)), (.int (4 : Int32)), (.int (4 : Int32)), (.int (3 : Int32)), (.int (5 : Int32)), (.int (2 : Int32)), (.int (4 : Int32)), (.int (4 : Int32)), (.int (2 : Int32)), (.int (0 : Int32)), (.int (0 : Int32)), (.int (0 : Int32)), (.int (0 : Int32))] : List Value).getD k.toNatClampNeg (.int (0 : Int32)) = .int (own_ff k) := by
  rcases own_k h0 h1 with rfl | rfl | rfl | rfl | rfl | rfl | rfl | rfl | rfl | rfl | rfl | rfl | rfl | rfl | rfl | rfl | rfl | rfl | rfl | rfl | rfl <;> rfl
theorem own_ffb {k : Int32} (h0 : 0 ≤ k.toInt) (h1 : k.toInt < 21) : 0 ≤ (own_ff k).toInt ∧ (own_ff k).toInt ≤ 12 := by
  rcases own_k h0 h1 with rfl | rfl | rfl | rfl | rfl | rfl | rfl | rfl | rfl | rfl | rfl | rfl | rfl | rfl | rfl | rfl | rfl | rfl | rfl | rfl | rfl <;> decide
theorem own_m (p : Int32) : 0 ≤ ((p &&& (2147483647 : Int32)) % (21 : Int32)).toInt ∧ ((p &&& (2147483647 : Int32)) % (21 : Int32)).toInt < 21 := by
  have e : (p &&& (2147483647 : Int32)).toInt = p.toInt % 2 ^ 31 := Jvm.Kit.i32_mask p _ (k := 31) (by decide) (by decide)
  have e1 : ((p &&& (2147483647 : Int32)) % (21 : Int32)).toInt = (p.toInt % 2 ^ 31) % 21 := by
    rw [Jvm.Kit.i32_rem_nonneg (by omega), e]; rfl
  omega
theorem own_in {k : Int32} (h0 : 0 ≤ k.toInt) (h1 : k.toInt < 21) : ¬ k < 0 ∧ k < (21 : Int32) := by
  have e : (21 : Int32).toInt = 21 := by decide
  rw [Int32.lt_iff_toInt_lt, Int32.lt_iff_toInt_lt, Int32.toInt_zero, e]; omega
theorem d1_0 : decode method_4_code 0 = .ok (.iload_n 0, 1) := by decide +kernel
theorem d1_1 : decode method_4_code 1 = .ok (.ifCond .ne 7, 3) := by decide +kernel
theorem d1_4 : decode method_4_code 4 = .ok (.getstatic 24, 3) := by decide +kernel
theorem d1_7 : decode method_4_code 7 = .ok (.areturn, 1) := by decide +kernel
theorem d1_8 : decode method_4_code 8 = .ok (.iload_n 0, 1) := by decide +kernel
theorem d1_9 : decode method_4_code 9 = .ok (.iconst 1, 1) := by decide +kernel
theorem d1_10 : decode method_4_code 10 = .ok (.if_icmp .ne 7, 3) := by decide +kernel
theorem d1_13 : decode method_4_code 13 = .ok (.getstatic 28, 3) := by decide +kernel
theorem d1_16 : decode method_4_code 16 = .ok (.areturn, 1) := by decide +kernel
theorem d1_17 : decode method_4_code 17 = .ok (.iload_n 0, 1) := by decide +kernel
theorem d1_18 : decode method_4_code 18 = .ok (.iconst 2, 1) := by decide +kernel
theorem d1_19 : decode method_4_code 19 = .ok (.if_icmp .ne 7, 3) := by decide +kernel
theorem d1_22 : decode method_4_code 22 = .ok (.getstatic 31, 3) := by decide +kernel
theorem d1_25 : decode method_4_code 25 = .ok (.areturn, 1) := by decide +kernel
theorem d1_26 : decode method_4_code 26 = .ok (.iload_n 0, 1) := by decide +kernel
theorem d1_27 : decode method_4_code 27 = .ok (.iconst 3, 1) := by decide +kernel
theorem d1_28 : decode method_4_code 28 = .ok (.if_icmp .ne 7, 3) := by decide +kernel
theorem d1_31 : decode method_4_code 31 = .ok (.getstatic 34, 3) := by decide +kernel
theorem d1_34 : decode method_4_code 34 = .ok (.areturn, 1) := by decide +kernel
theorem d1_35 : decode method_4_code 35 = .ok (.iload_n 0, 1) := by decide +kernel
theorem d1_36 : decode method_4_code 36 = .ok (.iconst 4, 1) := by decide +kernel
theorem d1_37 : decode method_4_code 37 = .ok (.if_icmp .ne 7, 3) := by decide +kernel
theorem d1_40 : decode method_4_code 40 = .ok (.getstatic 37, 3) := by decide +kernel
theorem d1_43 : decode method_4_code 43 = .ok (.areturn, 1) := by decide +kernel
theorem d1_44 : decode method_4_code 44 = .ok (.iload_n 0, 1) := by decide +kernel
theorem d1_45 : decode method_4_code 45 = .ok (.iconst 5, 1) := by decide +kernel
theorem d1_46 : decode method_4_code 46 = .ok (.if_icmp .ne 7, 3) := by decide +kernel
theorem d1_49 : decode method_4_code 49 = .ok (.getstatic 40, 3) := by decide +kernel
theorem d1_52 : decode method_4_code 52 = .ok (.areturn, 1) := by decide +kernel
theorem d1_53 : decode method_4_code 53 = .ok (.iload_n 0, 1) := by decide +kernel
theorem d1_54 : decode method_4_code 54 = .ok (.bipush 6, 2) := by decide +kernel
theorem d1_56 : decode method_4_code 56 = .ok (.if_icmp .ne 7, 3) := by decide +kernel
theorem d1_59 : decode method_4_code 59 = .ok (.getstatic 43, 3) := by decide +kernel
theorem d1_62 : decode method_4_code 62 = .ok (.areturn, 1) := by decide +kernel
theorem d1_63 : decode method_4_code 63 = .ok (.iload_n 0, 1) := by decide +kernel
theorem d1_64 : decode method_4_code 64 = .ok (.bipush 7, 2) := by decide +kernel
theorem d1_66 : decode method_4_code 66 = .ok (.if_icmp .ne 7, 3) := by decide +kernel
theorem d1_69 : decode method_4_code 69 = .ok (.getstatic 46, 3) := by decide +kernel
theorem d1_72 : decode method_4_code 72 = .ok (.areturn, 1) := by decide +kernel
theorem d1_73 : decode method_4_code 73 = .ok (.iload_n 0, 1) := by decide +kernel
theorem d1_74 : decode method_4_code 74 = .ok (.bipush 8, 2) := by decide +kernel
theorem d1_76 : decode method_4_code 76 = .ok (.if_icmp .ne 7, 3) := by decide +kernel
theorem d1_79 : decode method_4_code 79 = .ok (.getstatic 49, 3) := by decide +kernel
theorem d1_82 : decode method_4_code 82 = .ok (.areturn, 1) := by decide +kernel
theorem d1_83 : decode method_4_code 83 = .ok (.iload_n 0, 1) := by decide +kernel
theorem d1_84 : decode method_4_code 84 = .ok (.bipush 9, 2) := by decide +kernel
theorem d1_86 : decode method_4_code 86 = .ok (.if_icmp .ne 7, 3) := by decide +kernel
theorem d1_89 : decode method_4_code 89 = .ok (.getstatic 52, 3) := by decide +kernel
theorem d1_92 : decode method_4_code 92 = .ok (.areturn, 1) := by decide +kernel
theorem d1_93 : decode method_4_code 93 = .ok (.iload_n 0, 1) := by decide +kernel
theorem d1_94 : decode method_4_code 94 = .ok (.bipush 10, 2) := by decide +kernel
theorem d1_96 : decode method_4_code 96 = .ok (.if_icmp .ne 7, 3) := by decide +kernel
theorem d1_99 : decode method_4_code 99 = .ok (.getstatic 55, 3) := by decide +kernel
theorem d1_102 : decode method_4_code 102 = .ok (.areturn, 1) := by decide +kernel
theorem d1_103 : decode method_4_code 103 = .ok (.iload_n 0, 1) := by decide +kernel
theorem d1_104 : decode method_4_code 104 = .ok (.bipush 11, 2) := by decide +kernel
theorem d1_106 : decode method_4_code 106 = .ok (.if_icmp .ne 7, 3) := by decide +kernel
theorem d1_109 : decode method_4_code 109 = .ok (.getstatic 58, 3) := by decide +kernel
theorem d1_112 : decode method_4_code 112 = .ok (.areturn, 1) := by decide +kernel
theorem d1_113 : decode method_4_code 113 = .ok (.iload_n 0, 1) := by decide +kernel
theorem d1_114 : decode method_4_code 114 = .ok (.bipush 12, 2) := by decide +kernel
theorem d1_116 : decode method_4_code 116 = .ok (.if_icmp .ne 7, 3) := by decide +kernel
theorem d1_119 : decode method_4_code 119 = .ok (.getstatic 61, 3) := by decide +kernel
theorem d1_122 : decode method_4_code 122 = .ok (.areturn, 1) := by decide +kernel
theorem d1_123 : decode method_4_code 123 = .ok (.iload_n 0, 1) := by decide +kernel
theorem d1_124 : decode method_4_code 124 = .ok (.bipush 13, 2) := by decide +kernel
theorem d1_126 : decode method_4_code 126 = .ok (.if_icmp .ne 7, 3) := by decide +kernel
theorem d1_129 : decode method_4_code 129 = .ok (.getstatic 64, 3) := by decide +kernel
theorem d1_132 : decode method_4_code 132 = .ok (.areturn, 1) := by decide +kernel
theorem d1_133 : decode method_4_code 133 = .ok (.iload_n 0, 1) := by decide +kernel
theorem d1_134 : decode method_4_code 134 = .ok (.bipush 14, 2) := by decide +kernel
theorem d1_136 : decode method_4_code 136 = .ok (.if_icmp .ne 7, 3) := by decide +kernel
theorem d1_139 : decode method_4_code 139 = .ok (.getstatic 67, 3) := by decide +kernel
theorem d1_142 : decode method_4_code 142 = .ok (.areturn, 1) := by decide +kernel
theorem d1_143 : decode method_4_code 143 = .ok (.iload_n 0, 1) := by decide +kernel
theorem d1_144 : decode method_4_code 144 = .ok (.bipush 15, 2) := by decide +kernel
theorem d1_146 : decode method_4_code 146 = .ok (.if_icmp .ne 7, 3) := by decide +kernel
theorem d1_149 : decode method_4_code 149 = .ok (.getstatic 70, 3) := by decide +kernel
theorem d1_152 : decode method_4_code 152 = .ok (.areturn, 1) := by decide +kernel
theorem d1_153 : decode method_4_code 153 = .ok (.iload_n 0, 1) := by decide +kernel
theorem d1_154 : decode method_4_code 154 = .ok (.bipush 16, 2) := by decide +kernel
theorem d1_156 : decode method_4_code 156 = .ok (.if_icmp .ne 7, 3) := by decide +kernel
theorem d1_159 : decode method_4_code 159 = .ok (.getstatic 73, 3) := by decide +kernel
theorem d1_162 : decode method_4_code 162 = .ok (.areturn, 1) := by decide +kernel
theorem d1_163 : decode method_4_code 163 = .ok (.iload_n 0, 1) := by decide +kernel
theorem d1_164 : decode method_4_code 164 = .ok (.bipush 17, 2) := by decide +kernel
theorem d1_166 : decode method_4_code 166 = .ok (.if_icmp .ne 7, 3) := by decide +kernel
theorem d1_169 : decode method_4_code 169 = .ok (.getstatic 76, 3) := by decide +kernel
theorem d1_172 : decode method_4_code 172 = .ok (.areturn, 1) := by decide +kernel
theorem d1_173 : decode method_4_code 173 = .ok (.iload_n 0, 1) := by decide +kernel
theorem d1_174 : decode method_4_code 174 = .ok (.bipush 18, 2) := by decide +kernel
theorem d1_176 : decode method_4_code 176 = .ok (.if_icmp .ne 7, 3) := by decide +kernel
theorem d1_179 : decode method_4_code 179 = .ok (.getstatic 79, 3) := by decide +kernel
theorem d1_182 : decode method_4_code 182 = .ok (.areturn, 1) := by decide +kernel
theorem d1_183 : decode method_4_code 183 = .ok (.iload_n 0, 1) := by decide +kernel
theorem d1_184 : decode method_4_code 184 = .ok (.bipush 19, 2) := by decide +kernel
theorem d1_186 : decode method_4_code 186 = .ok (.if_icmp .ne 7, 3) := by decide +kernel
theorem d1_189 : decode method_4_code 189 = .ok (.getstatic 82, 3) := by decide +kernel
theorem d1_192 : decode method_4_code 192 = .ok (.areturn, 1) := by decide +kernel
theorem d1_193 : decode method_4_code 193 = .ok (.getstatic 85, 3) := by decide +kernel
theorem d1_196 : decode method_4_code 196 = .ok (.areturn, 1) := by decide +kernel
theorem pn_com_example_alviso_alviso_protocol_ApiKeyIsFlexiblePinLaw : plainName "com/example/alviso/alviso/protocol/ApiKeyIsFlexiblePinLaw" = true := by first | (simp [plainName, overriddenIn]; done) | decide +kernel
theorem ef_rm1 (m : MethodId) (p1 : Int32) : entryFrame m #[(.int p1)] 1 = mkF m 0 #[.val (.int p1)] [] := by first | (simp [entryFrame, mkF, argsToLocals, Value.category]; done) | rfl
def Q_rm1 (Z : State) (p1 : Int32) (w_PRODUCE : Addr) (w_FETCH : Addr) (w_LIST_OFFSETS : Addr) (w_METADATA : Addr) (w_OFFSET_COMMIT : Addr) (w_OFFSET_FETCH : Addr) (w_FIND_COORDINATOR : Addr) (w_JOIN_GROUP : Addr) (w_HEARTBEAT : Addr) (w_LEAVE_GROUP : Addr) (w_SYNC_GROUP : Addr) (w_API_VERSIONS : Addr) (w_CREATE_TOPICS : Addr) (w_INIT_PRODUCER_ID : Addr) (w_OFFSET_FOR_LEADER_EPOCH : Addr) (w_DESCRIBE_CONFIGS : Addr) (w_ELECT_LEADERS : Addr) (w_ALTER_PARTITION : Addr) (w_BROKER_REGISTRATION : Addr) (w_BROKER_HEARTBEAT : Addr) (w_ALLOCATE_PRODUCER_IDS : Addr) (h0 : Heap) (n0 : Nat) (v : Option Value) (h : Heap) (L : List Loc) : Prop := ∃ r : Addr, v = some (.ref r) ∧ Fr n0 L ∧ h = h0 ∧ Exa Z h r "com/example/alviso/alviso/protocol/ApiKey" ∧ Fld Z h r "com/example/alviso/alviso/protocol/ApiKey" "firstFlexibleVersion" "S" (.int (own_ff p1))
set_option maxRecDepth 65536 in
set_option maxHeartbeats 40000000 in
theorem rm1 (l : Launch) (Z : State) (a0 : Array Value) (hw : ∀ d ∈ tables_1, d.before a0 Z = true) (ws : List Jvm.Cond) (p1 : Int32) (w_PRODUCE : Addr) (w_FETCH : Addr) (w_LIST_OFFSETS : Addr) (w_METADATA : Addr) (w_OFFSET_COMMIT : Addr) (w_OFFSET_FETCH : Addr) (w_FIND_COORDINATOR : Addr) (w_JOIN_GROUP : Addr) (w_HEARTBEAT : Addr) (w_LEAVE_GROUP : Addr) (w_SYNC_GROUP : Addr) (w_API_VERSIONS : Addr) (w_CREATE_TOPICS : Addr) (w_INIT_PRODUCER_ID : Addr) (w_OFFSET_FOR_LEADER_EPOCH : Addr) (w_DESCRIBE_CONFIGS : Addr) (w_ELECT_LEADERS : Addr) (w_ALTER_PARTITION : Addr) (w_BROKER_REGISTRATION : Addr) (w_BROKER_HEARTBEAT : Addr) (w_ALLOCATE_PRODUCER_IDS : Addr) (h0 : Heap) (n0 : Nat) (Z0 : n0 ≤ h0.size) (S_PRODUCE : Sta Z h0 "com/example/alviso/alviso/protocol/ApiKey" "PRODUCE" "Lcom/example/alviso/alviso/protocol/ApiKey;" (.ref w_PRODUCE)) (S_FETCH : Sta Z h0 "com/example/alviso/alviso/protocol/ApiKey" "FETCH" "Lcom/example/alviso/alviso/protocol/ApiKey;" (.ref w_FETCH)) (S_LIST_OFFSETS : Sta Z h0 "com/example/alviso/alviso/protocol/ApiKey" "LIST_OFFSETS" "Lcom/example/alviso/alviso/protocol/ApiKey;" (.ref w_LIST_OFFSETS)) (S_METADATA : Sta Z h0 "com/example/alviso/alviso/protocol/ApiKey" "METADATA" "Lcom/example/alviso/alviso/protocol/ApiKey;" (.ref w_METADATA)) (S_OFFSET_COMMIT : Sta Z h0 "com/example/alviso/alviso/protocol/ApiKey" "OFFSET_COMMIT" "Lcom/example/alviso/alviso/protocol/ApiKey;" (.ref w_OFFSET_COMMIT)) (S_OFFSET_FETCH : Sta Z h0 "com/example/alviso/alviso/protocol/ApiKey" "OFFSET_FETCH" "Lcom/example/alviso/alviso/protocol/ApiKey;" (.ref w_OFFSET_FETCH)) (S_FIND_COORDINATOR : Sta Z h0 "com/example/alviso/alviso/protocol/ApiKey" "FIND_COORDINATOR" "Lcom/example/alviso/alviso/protocol/ApiKey;" (.ref w_FIND_COORDINATOR)) (S_JOIN_GROUP : Sta Z h0 "com/example/alviso/alviso/protocol/ApiKey" "JOIN_GROUP" "Lcom/example/alviso/alviso/protocol/ApiKey;" (.ref w_JOIN_GROUP)) (S_HEARTBEAT : Sta Z h0 "com/example/alviso/alviso/protocol/ApiKey" "HEARTBEAT" "Lcom/example/alviso/alviso/protocol/ApiKey;" (.ref w_HEARTBEAT)) (S_LEAVE_GROUP : Sta Z h0 "com/example/alviso/alviso/protocol/ApiKey" "LEAVE_GROUP" "Lcom/example/alviso/alviso/protocol/ApiKey;" (.ref w_LEAVE_GROUP)) (S_SYNC_GROUP : Sta Z h0 "com/example/alviso/alviso/protocol/ApiKey" "SYNC_GROUP" "Lcom/example/alviso/alviso/protocol/ApiKey;" (.ref w_SYNC_GROUP)) (S_API_VERSIONS : Sta Z h0 "com/example/alviso/alviso/protocol/ApiKey" "API_VERSIONS" "Lcom/example/alviso/alviso/protocol/ApiKey;" (.ref w_API_VERSIONS)) (S_CREATE_TOPICS : Sta Z h0 "com/example/alviso/alviso/protocol/ApiKey" "CREATE_TOPICS" "Lcom/example/alviso/alviso/protocol/ApiKey;" (.ref w_CREATE_TOPICS)) (S_INIT_PRODUCER_ID : Sta Z h0 "com/example/alviso/alviso/protocol/ApiKey" "INIT_PRODUCER_ID" "Lcom/example/alviso/alviso/protocol/ApiKey;" (.ref w_INIT_PRODUCER_ID)) (S_OFFSET_FOR_LEADER_EPOCH : Sta Z h0 "com/example/alviso/alviso/protocol/ApiKey" "OFFSET_FOR_LEADER_EPOCH" "Lcom/example/alviso/alviso/protocol/ApiKey;" (.ref w_OFFSET_FOR_LEADER_EPOCH)) (S_DESCRIBE_CONFIGS : Sta Z h0 "com/example/alviso/alviso/protocol/ApiKey" "DESCRIBE_CONFIGS" "Lcom/example/alviso/alviso/protocol/ApiKey;" (.ref w_DESCRIBE_CONFIGS)) (S_ELECT_LEADERS : Sta Z h0 "com/example/alviso/alviso/protocol/ApiKey" "ELECT_LEADERS" "Lcom/example/alviso/alviso/protocol/ApiKey;" (.ref w_ELECT_LEADERS)) (S_ALTER_PARTITION : Sta Z h0 "com/example/alviso/alviso/protocol/ApiKey" "ALTER_PARTITION" "Lcom/example/alviso/alviso/protocol/ApiKey;" (.ref w_ALTER_PARTITION)) (S_BROKER_REGISTRATION : Sta Z h0 "com/example/alviso/alviso/protocol/ApiKey" "BROKER_REGISTRATION" "Lcom/example/alviso/alviso/protocol/ApiKey;" (.ref w_BROKER_REGISTRATION)) (S_BROKER_HEARTBEAT : Sta Z h0 "com/example/alviso/alviso/protocol/ApiKey" "BROKER_HEARTBEAT" "Lcom/example/alviso/alviso/protocol/ApiKey;" (.ref w_BROKER_HEARTBEAT)) (S_ALLOCATE_PRODUCER_IDS : Sta Z h0 "com/example/alviso/alviso/protocol/ApiKey" "ALLOCATE_PRODUCER_IDS" "Lcom/example/alviso/alviso/protocol/ApiKey;" (.ref w_ALLOCATE_PRODUCER_IDS)) (E_w_PRODUCE : Exa Z h0 w_PRODUCE "com/example/alviso/alviso/protocol/ApiKey") (E_w_FETCH : Exa Z h0 w_FETCH "com/example/alviso/alviso/protocol/ApiKey") (E_w_LIST_OFFSETS : Exa Z h0 w_LIST_OFFSETS "com/example/alviso/alviso/protocol/ApiKey") (E_w_METADATA : Exa Z h0 w_METADATA "com/example/alviso/alviso/protocol/ApiKey") (E_w_OFFSET_COMMIT : Exa Z h0 w_OFFSET_COMMIT "com/example/alviso/alviso/protocol/ApiKey") (E_w_OFFSET_FETCH : Exa Z h0 w_OFFSET_FETCH "com/example/alviso/alviso/protocol/ApiKey") (E_w_FIND_COORDINATOR : Exa Z h0 w_FIND_COORDINATOR "com/example/alviso/alviso/protocol/ApiKey") (E_w_JOIN_GROUP : Exa Z h0 w_JOIN_GROUP "com/example/alviso/alviso/protocol/ApiKey") (E_w_HEARTBEAT : Exa Z h0 w_HEARTBEAT "com/example/alviso/alviso/protocol/ApiKey") (E_w_LEAVE_GROUP : Exa Z h0 w_LEAVE_GROUP "com/example/alviso/alviso/protocol/ApiKey") (E_w_SYNC_GROUP : Exa Z h0 w_SYNC_GROUP "com/example/alviso/alviso/protocol/ApiKey") (E_w_API_VERSIONS : Exa Z h0 w_API_VERSIONS "com/example/alviso/alviso/protocol/ApiKey") (E_w_CREATE_TOPICS : Exa Z h0 w_CREATE_TOPICS "com/example/alviso/alviso/protocol/ApiKey") (E_w_INIT_PRODUCER_ID : Exa Z h0 w_INIT_PRODUCER_ID "com/example/alviso/alviso/protocol/ApiKey") (E_w_OFFSET_FOR_LEADER_EPOCH : Exa Z h0 w_OFFSET_FOR_LEADER_EPOCH "com/example/alviso/alviso/protocol/ApiKey") (E_w_DESCRIBE_CONFIGS : Exa Z h0 w_DESCRIBE_CONFIGS "com/example/alviso/alviso/protocol/ApiKey") (E_w_ELECT_LEADERS : Exa Z h0 w_ELECT_LEADERS "com/example/alviso/alviso/protocol/ApiKey") (E_w_ALTER_PARTITION : Exa Z h0 w_ALTER_PARTITION "com/example/alviso/alviso/protocol/ApiKey") (E_w_BROKER_REGISTRATION : Exa Z h0 w_BROKER_REGISTRATION "com/example/alviso/alviso/protocol/ApiKey") (E_w_BROKER_HEARTBEAT : Exa Z h0 w_BROKER_HEARTBEAT "com/example/alviso/alviso/protocol/ApiKey") (E_w_ALLOCATE_PRODUCER_IDS : Exa Z h0 w_ALLOCATE_PRODUCER_IDS "com/example/alviso/alviso/protocol/ApiKey") (F_firstFlexibleVersion_w_PRODUCE : Fld Z h0 w_PRODUCE "com/example/alviso/alviso/protocol/ApiKey" "firstFlexibleVersion" "S" (.int (9 : Int32))) (F_firstFlexibleVersion_w_FETCH : Fld Z h0 w_FETCH "com/example/alviso/alviso/protocol/ApiKey" "firstFlexibleVersion" "S" (.int (12 : Int32))) (F_firstFlexibleVersion_w_LIST_OFFSETS : Fld Z h0 w_LIST_OFFSETS "com/example/alviso/alviso/protocol/ApiKey" "firstFlexibleVersion" "S" (.int (6 : Int32))) (F_firstFlexibleVersion_w_METADATA : Fld Z h0 w_METADATA "com/example/alviso/alviso/protocol/ApiKey" "firstFlexibleVersion" "S" (.int (9 : Int32))) (F_firstFlexibleVersion_w_OFFSET_COMMIT : Fld Z h0 w_OFFSET_COMMIT "com/example/alviso/alviso/protocol/ApiKey" "firstFlexibleVersion" "S" (.int (8 : Int32))) (F_firstFlexibleVersion_w_OFFSET_FETCH : Fld Z h0 w_OFFSET_FETCH "com/example/alviso/alviso/protocol/ApiKey" "firstFlexibleVersion" "S" (.int (6 : Int32))) (F_firstFlexibleVersion_w_FIND_COORDINATOR : Fld Z h0 w_FIND_COORDINATOR "com/example/alviso/alviso/protocol/ApiKey" "firstFlexibleVersion" "S" (.int (3 : Int32))) (F_firstFlexibleVersion_w_JOIN_GROUP : Fld Z h0 w_JOIN_GROUP "com/example/alviso/alviso/protocol/ApiKey" "firstFlexibleVersion" "S" (.int (6 : Int32))) (F_firstFlexibleVersion_w_HEARTBEAT : Fld Z h0 w_HEARTBEAT "com/example/alviso/alviso/protocol/ApiKey" "firstFlexibleVersion" "S" (.int (4 : Int32))) (F_firstFlexibleVersion_w_LEAVE_GROUP : Fld Z h0 w_LEAVE_GROUP "com/example/alviso/alviso/protocol/ApiKey" "firstFlexibleVersion" "S" (.int (4 : Int32))) (F_firstFlexibleVersion_w_SYNC_GROUP : Fld Z h0 w_SYNC_GROUP "com/example/alviso/alviso/protocol/ApiKey" "firstFlexibleVersion" "S" (.int (4 : Int32))) (F_firstFlexibleVersion_w_API_VERSIONS : Fld Z h0 w_API_VERSIONS "com/example/alviso/alviso/protocol/ApiKey" "firstFlexibleVersion" "S" (.int (3 : Int32))) (F_firstFlexibleVersion_w_CREATE_TOPICS : Fld Z h0 w_CREATE_TOPICS "com/example/alviso/alviso/protocol/ApiKey" "firstFlexibleVersion" "S" (.int (5 : Int32))) (F_firstFlexibleVersion_w_INIT_PRODUCER_ID : Fld Z h0 w_INIT_PRODUCER_ID "com/example/alviso/alviso/protocol/ApiKey" "firstFlexibleVersion" "S" (.int (2 : Int32))) (F_firstFlexibleVersion_w_OFFSET_FOR_LEADER_EPOCH : Fld Z h0 w_OFFSET_FOR_LEADER_EPOCH "com/example/alviso/alviso/protocol/ApiKey" "firstFlexibleVersion" "S" (.int (4 : Int32))) (F_firstFlexibleVersion_w_DESCRIBE_CONFIGS : Fld Z h0 w_DESCRIBE_CONFIGS "com/example/alviso/alviso/protocol/ApiKey" "firstFlexibleVersion" "S" (.int (4 : Int32))) (F_firstFlexibleVersion_w_ELECT_LEADERS : Fld Z h0 w_ELECT_LEADERS "com/example/alviso/alviso/protocol/ApiKey" "firstFlexibleVersion" "S" (.int (2 : Int32))) (F_firstFlexibleVersion_w_ALTER_PARTITION : Fld Z h0 w_ALTER_PARTITION "com/example/alviso/alviso/protocol/ApiKey" "firstFlexibleVersion" "S" (.int (0 : Int32))) (F_firstFlexibleVersion_w_BROKER_REGISTRATION : Fld Z h0 w_BROKER_REGISTRATION "com/example/alviso/alviso/protocol/ApiKey" "firstFlexibleVersion" "S" (.int (0 : Int32))) (F_firstFlexibleVersion_w_BROKER_HEARTBEAT : Fld Z h0 w_BROKER_HEARTBEAT "com/example/alviso/alviso/protocol/ApiKey" "firstFlexibleVersion" "S" (.int (0 : Int32))) (F_firstFlexibleVersion_w_ALLOCATE_PRODUCER_IDS : Fld Z h0 w_ALLOCATE_PRODUCER_IDS "com/example/alviso/alviso/protocol/ApiKey" "firstFlexibleVersion" "S" (.int (0 : Int32))) :
    MetFree l (⟨"com/example/alviso/alviso/protocol/ApiKeyIsFlexiblePinLaw", "pick", "(I)Lcom/example/alviso/alviso/protocol/ApiKey;"⟩ : MethodName) (head1 (Jvm.Cond.code (⟨"com/example/alviso/alviso/protocol/ApiKeyIsFlexiblePinLaw", "pick", "(I)Lcom/example/alviso/alviso/protocol/ApiKey;"⟩ : MethodName) method_4_code 1 (some (.object "com/example/alviso/alviso/protocol/ApiKey")) :: ws) ({ frames := 0, cells := 0, slots := 0, locals := 0 } : Room)) (fun a U => a = #[(.int p1)] ∧ Z.Warmed39 U.vm ∧ U.heap = h0) (fun _ _ _ _ _ => True) (fun _ U o U' => ∃ v L, o = .returned v ∧ Q_rm1 Z p1 w_PRODUCE w_FETCH w_LIST_OFFSETS w_METADATA w_OFFSET_COMMIT w_OFFSET_FETCH w_FIND_COORDINATOR w_JOIN_GROUP w_HEARTBEAT w_LEAVE_GROUP w_SYNC_GROUP w_API_VERSIONS w_CREATE_TOPICS w_INIT_PRODUCER_ID w_OFFSET_FOR_LEADER_EPOCH w_DESCRIBE_CONFIGS w_ELECT_LEADERS w_ALTER_PARTITION w_BROKER_REGISTRATION w_BROKER_HEARTBEAT w_ALLOCATE_PRODUCER_IDS h0 n0 v U'.heap L ∧ FrameEnd U o U' L ({ frames := 0, cells := 0, slots := 0, locals := 0 } : Room).cells ({ frames := 0, cells := 0, slots := 0, locals := 0 } : Room).slots) := by
  refine MetFree.of_bodySF (plainFor_of_name pn_com_example_alviso_alviso_protocol_ApiKeyIsFlexiblePinLaw) hisR ?_
  intro p e s m args below meth c s₁ Bd hml0 hP hK
  obtain ⟨rfl, hZ, hh⟩ := hP
  have hx := Bd.exec
  have hby := Bd.bytes
  have hml : c.maxLocals = 1 := hml0
  have hown : s.vm.findClass "com/example/alviso/alviso/protocol/ApiKeyIsFlexiblePinLaw" = some m.cls := findClass_of_methodNamed Bd.named
  have hnm := (name_of_methodNamed Bd.named Bd.method).1
  have X0 : Stand p l e ({ frames := 0, cells := 0, slots := 0, locals := 0 } : Room) s m #[(.int p1)] below meth c s₁ [] 0 0 := Stand.of_body Bd
  have e0 : s₁.heap = h0 := by rw [← hh, Bd.state]; rfl
  have N0 := Fr.nil n0
  have pre0 : ∀ t, Steps p.tables e below (s₁.setTop (mkF m 0 #[.val (.int p1)] [])) t → Steps p.tables e below (s₁.setTop (entryFrame m #[(.int p1)] 1)) t := fun t k => castTop (ef_rm1 m p1) k
  have pre2 : ∀ t, Steps p.tables e below (s₁.setTop (mkF m 1 #[.val (.int p1)] [(.int p1)])) t → Steps p.tables e below (s₁.setTop (entryFrame m #[(.int p1)] 1)) t := fun t kt => by
    refine pre0 t ?_
    show Steps p.tables e below (s₁.setTop (mkF m 0 #[.val (.int p1)] [])) _
    refine XS.iloadN X0.here hx rfl (hb hby d1_0) rfl ?_
    exact kt
  by_cases hc1_1 : p1 = (0 : Int32)
  · obtain ⟨T3, X3, e3, st3⟩ := getS2 X0 hx hZ hown (host := "") (Or.inl (hw _ (List.mem_of_getElem? (i := 5) rfl))) Via.refl e0 S_PRODUCE (g := (mkF m 4 #[.val (.int p1)] [])) rfl (hb hby d1_4)
    obtain ⟨fs, hr, hrun, hended, hW, hsame⟩ := X3.leave (v := some (.ref w_PRODUCE)) (fun h => by rw [Bd.returns] at h; cases h)
    refine ⟨_, _, pre2 _ ?_, hrun, hended, _, _, rfl, ?_, ⟨_, rfl⟩, hW, hsame.mono (by decide) (by decide)⟩
    · show Steps p.tables e below (s₁.setTop (mkF m 1 #[.val (.int p1)] [(.int p1)])) _
      refine XS.ifNo X0.here hx rfl (hb hby d1_1) rfl ((if0 _ _).trans (teq hc1_1).2) ?_
      show Steps p.tables e below (s₁.setTop (mkF m 4 #[.val (.int p1)] [])) _
      refine st3 _ ?_
      show Steps p.tables e below (T3.setTop (mkF m 7 #[.val (.int p1)] [(.ref w_PRODUCE)])) _
      jvm_step X3.here [X3.here.top, hx, (hb hby d1_7), X3.method', Bd.returns, Value.isRef, FieldType.isReference]
      first | (intro acts; rw [hr _ acts rfl rfl rfl]) | rw [hr _ _ rfl rfl rfl]
      exact Steps.refl _
    · show Q_rm1 Z p1 w_PRODUCE w_FETCH w_LIST_OFFSETS w_METADATA w_OFFSET_COMMIT w_OFFSET_FETCH w_FIND_COORDINATOR w_JOIN_GROUP w_HEARTBEAT w_LEAVE_GROUP w_SYNC_GROUP w_API_VERSIONS w_CREATE_TOPICS w_INIT_PRODUCER_ID w_OFFSET_FOR_LEADER_EPOCH w_DESCRIBE_CONFIGS w_ELECT_LEADERS w_ALTER_PARTITION w_BROKER_REGISTRATION w_BROKER_HEARTBEAT w_ALLOCATE_PRODUCER_IDS h0 n0 _ T3.heap _
      rw [e3]
      exact ⟨w_PRODUCE, rfl, N0, rfl, E_w_PRODUCE, (by rw [own_ff, if_pos hc1_1]; exact F_firstFlexibleVersion_w_PRODUCE)⟩
  · have pre5 : ∀ t, Steps p.tables e below (s₁.setTop (mkF m 10 #[.val (.int p1)] [(.int (1 : Int32)), (.int p1)])) t → Steps p.tables e below (s₁.setTop (entryFrame m #[(.int p1)] 1)) t := fun t kt => by
      refine pre2 t ?_
      show Steps p.tables e below (s₁.setTop (mkF m 1 #[.val (.int p1)] [(.int p1)])) _
      refine XS.ifYes X0.here hx rfl (pc0 := 1) (pc' := 8) rfl (hb hby d1_1) rfl ((if0 _ _).trans (feq hc1_1).2) (by decide) (by decide) ?_
      show Steps p.tables e below (s₁.setTop (mkF m 8 #[.val (.int p1)] [])) _
      refine XS.iloadN X0.here hx rfl (hb hby d1_8) rfl ?_
      show Steps p.tables e below (s₁.setTop (mkF m 9 #[.val (.int p1)] [(.int p1)])) _
      refine XS.iconst X0.here hx rfl (hb hby d1_9) ?_
      exact kt
    by_cases hc10_4 : p1 = (1 : Int32)
    · obtain ⟨T6, X6, e6, st6⟩ := getS2 X0 hx hZ hown (host := "") (Or.inl (hw _ (List.mem_of_getElem? (i := 33) rfl))) Via.refl e0 S_FETCH (g := (mkF m 13 #[.val (.int p1)] [])) rfl (hb hby d1_13)
      obtain ⟨fs, hr, hrun, hended, hW, hsame⟩ := X6.leave (v := some (.ref w_FETCH)) (fun h => by rw [Bd.returns] at h; cases h)
      refine ⟨_, _, pre5 _ ?_, hrun, hended, _, _, rfl, ?_, ⟨_, rfl⟩, hW, hsame.mono (by decide) (by decide)⟩
      · show Steps p.tables e below (s₁.setTop (mkF m 10 #[.val (.int p1)] [(.int (1 : Int32)), (.int p1)])) _
        refine XS.icmpNo X0.here hx rfl (hb hby d1_10) rfl (teq hc10_4).2 ?_
        show Steps p.tables e below (s₁.setTop (mkF m 13 #[.val (.int p1)] [])) _
        refine st6 _ ?_
        show Steps p.tables e below (T6.setTop (mkF m 16 #[.val (.int p1)] [(.ref w_FETCH)])) _
        jvm_step X6.here [X6.here.top, hx, (hb hby d1_16), X6.method', Bd.returns, Value.isRef, FieldType.isReference]
        first | (intro acts; rw [hr _ acts rfl rfl rfl]) | rw [hr _ _ rfl rfl rfl]
        exact Steps.refl _
      · show Q_rm1 Z p1 w_PRODUCE w_FETCH w_LIST_OFFSETS w_METADATA w_OFFSET_COMMIT w_OFFSET_FETCH w_FIND_COORDINATOR w_JOIN_GROUP w_HEARTBEAT w_LEAVE_GROUP w_SYNC_GROUP w_API_VERSIONS w_CREATE_TOPICS w_INIT_PRODUCER_ID w_OFFSET_FOR_LEADER_EPOCH w_DESCRIBE_CONFIGS w_ELECT_LEADERS w_ALTER_PARTITION w_BROKER_REGISTRATION w_BROKER_HEARTBEAT w_ALLOCATE_PRODUCER_IDS h0 n0 _ T6.heap _
        rw [e6]
        exact ⟨w_FETCH, rfl, N0, rfl, E_w_FETCH, (by rw [own_ff, if_neg hc1_1, if_pos hc10_4]; exact F_firstFlexibleVersion_w_FETCH)⟩
    · have pre8 : ∀ t, Steps p.tables e below (s₁.setTop (mkF m 19 #[.val (.int p1)] [(.int (2 : Int32)), (.int p1)])) t → Steps p.tables e below (s₁.setTop (entryFrame m #[(.int p1)] 1)) t := fun t kt => by
        refine pre5 t ?_
        show Steps p.tables e below (s₁.setTop (mkF m 10 #[.val (.int p1)] [(.int (1 : Int32)), (.int p1)])) _
        refine XS.icmpYes X0.here hx rfl (pc0 := 10) (pc' := 17) rfl (hb hby d1_10) rfl (feq hc10_4).2 (by decide) (by decide) ?_
        show Steps p.tables e below (s₁.setTop (mkF m 17 #[.val (.int p1)] [])) _
        refine XS.iloadN X0.here hx rfl (hb hby d1_17) rfl ?_
        show Steps p.tables e below (s₁.setTop (mkF m 18 #[.val (.int p1)] [(.int p1)])) _
        refine XS.iconst X0.here hx rfl (hb hby d1_18) ?_
        exact kt
      by_cases hc19_7 : p1 = (2 : Int32)
      · obtain ⟨T9, X9, e9, st9⟩ := getS2 X0 hx hZ hown (host := "") (Or.inl (hw _ (List.mem_of_getElem? (i := 37) rfl))) Via.refl e0 S_LIST_OFFSETS (g := (mkF m 22 #[.val (.int p1)] [])) rfl (hb hby d1_22)
        obtain ⟨fs, hr, hrun, hended, hW, hsame⟩ := X9.leave (v := some (.ref w_LIST_OFFSETS)) (fun h => by rw [Bd.returns] at h; cases h)
        refine ⟨_, _, pre8 _ ?_, hrun, hended, _, _, rfl, ?_, ⟨_, rfl⟩, hW, hsame.mono (by decide) (by decide)⟩
        · show Steps p.tables e below (s₁.setTop (mkF m 19 #[.val (.int p1)] [(.int (2 : Int32)), (.int p1)])) _
          refine XS.icmpNo X0.here hx rfl (hb hby d1_19) rfl (teq hc19_7).2 ?_
          show Steps p.tables e below (s₁.setTop (mkF m 22 #[.val (.int p1)] [])) _
          refine st9 _ ?_
          show Steps p.tables e below (T9.setTop (mkF m 25 #[.val (.int p1)] [(.ref w_LIST_OFFSETS)])) _
          jvm_step X9.here [X9.here.top, hx, (hb hby d1_25), X9.method', Bd.returns, Value.isRef, FieldType.isReference]
          first | (intro acts; rw [hr _ acts rfl rfl rfl]) | rw [hr _ _ rfl rfl rfl]
          exact Steps.refl _
        · show Q_rm1 Z p1 w_PRODUCE w_FETCH w_LIST_OFFSETS w_METADATA w_OFFSET_COMMIT w_OFFSET_FETCH w_FIND_COORDINATOR w_JOIN_GROUP w_HEARTBEAT w_LEAVE_GROUP w_SYNC_GROUP w_API_VERSIONS w_CREATE_TOPICS w_INIT_PRODUCER_ID w_OFFSET_FOR_LEADER_EPOCH w_DESCRIBE_CONFIGS w_ELECT_LEADERS w_ALTER_PARTITION w_BROKER_REGISTRATION w_BROKER_HEARTBEAT w_ALLOCATE_PRODUCER_IDS h0 n0 _ T9.heap _
          rw [e9]
          exact ⟨w_LIST_OFFSETS, rfl, N0, rfl, E_w_LIST_OFFSETS, (by rw [own_ff, if_neg hc1_1, if_neg hc10_4, if_pos hc19_7]; exact F_firstFlexibleVersion_w_LIST_OFFSETS)⟩
      · have pre11 : ∀ t, Steps p.tables e below (s₁.setTop (mkF m 28 #[.val (.int p1)] [(.int (3 : Int32)), (.int p1)])) t → Steps p.tables e below (s₁.setTop (entryFrame m #[(.int p1)] 1)) t := fun t kt => by
          refine pre8 t ?_
          show Steps p.tables e below (s₁.setTop (mkF m 19 #[.val (.int p1)] [(.int (2 : Int32)), (.int p1)])) _
          refine XS.icmpYes X0.here hx rfl (pc0 := 19) (pc' := 26) rfl (hb hby d1_19) rfl (feq hc19_7).2 (by decide) (by decide) ?_
          show Steps p.tables e below (s₁.setTop (mkF m 26 #[.val (.int p1)] [])) _
          refine XS.iloadN X0.here hx rfl (hb hby d1_26) rfl ?_
          show Steps p.tables e below (s₁.setTop (mkF m 27 #[.val (.int p1)] [(.int p1)])) _
          refine XS.iconst X0.here hx rfl (hb hby d1_27) ?_
          exact kt
        by_cases hc28_10 : p1 = (3 : Int32)
        · obtain ⟨T12, X12, e12, st12⟩ := getS2 X0 hx hZ hown (host := "") (Or.inl (hw _ (List.mem_of_getElem? (i := 21) rfl))) Via.refl e0 S_METADATA (g := (mkF m 31 #[.val (.int p1)] [])) rfl (hb hby d1_31)
          obtain ⟨fs, hr, hrun, hended, hW, hsame⟩ := X12.leave (v := some (.ref w_METADATA)) (fun h => by rw [Bd.returns] at h; cases h)
          refine ⟨_, _, pre11 _ ?_, hrun, hended, _, _, rfl, ?_, ⟨_, rfl⟩, hW, hsame.mono (by decide) (by decide)⟩
          · show Steps p.tables e below (s₁.setTop (mkF m 28 #[.val (.int p1)] [(.int (3 : Int32)), (.int p1)])) _
            refine XS.icmpNo X0.here hx rfl (hb hby d1_28) rfl (teq hc28_10).2 ?_
            show Steps p.tables e below (s₁.setTop (mkF m 31 #[.val (.int p1)] [])) _
            refine st12 _ ?_
            show Steps p.tables e below (T12.setTop (mkF m 34 #[.val (.int p1)] [(.ref w_METADATA)])) _
            jvm_step X12.here [X12.here.top, hx, (hb hby d1_34), X12.method', Bd.returns, Value.isRef, FieldType.isReference]
            first | (intro acts; rw [hr _ acts rfl rfl rfl]) | rw [hr _ _ rfl rfl rfl]
            exact Steps.refl _
          · show Q_rm1 Z p1 w_PRODUCE w_FETCH w_LIST_OFFSETS w_METADATA w_OFFSET_COMMIT w_OFFSET_FETCH w_FIND_COORDINATOR w_JOIN_GROUP w_HEARTBEAT w_LEAVE_GROUP w_SYNC_GROUP w_API_VERSIONS w_CREATE_TOPICS w_INIT_PRODUCER_ID w_OFFSET_FOR_LEADER_EPOCH w_DESCRIBE_CONFIGS w_ELECT_LEADERS w_ALTER_PARTITION w_BROKER_REGISTRATION w_BROKER_HEARTBEAT w_ALLOCATE_PRODUCER_IDS h0 n0 _ T12.heap _
            rw [e12]
            exact ⟨w_METADATA, rfl, N0, rfl, E_w_METADATA, (by rw [own_ff, if_neg hc1_1, if_neg hc10_4, if_neg hc19_7, if_pos hc28_10]; exact F_firstFlexibleVersion_w_METADATA)⟩
        · have pre14 : ∀ t, Steps p.tables e below (s₁.setTop (mkF m 37 #[.val (.int p1)] [(.int (4 : Int32)), (.int p1)])) t → Steps p.tables e below (s₁.setTop (entryFrame m #[(.int p1)] 1)) t := fun t kt => by
            refine pre11 t ?_
            show Steps p.tables e below (s₁.setTop (mkF m 28 #[.val (.int p1)] [(.int (3 : Int32)), (.int p1)])) _
            refine XS.icmpYes X0.here hx rfl (pc0 := 28) (pc' := 35) rfl (hb hby d1_28) rfl (feq hc28_10).2 (by decide) (by decide) ?_
            show Steps p.tables e below (s₁.setTop (mkF m 35 #[.val (.int p1)] [])) _
            refine XS.iloadN X0.here hx rfl (hb hby d1_35) rfl ?_
            show Steps p.tables e below (s₁.setTop (mkF m 36 #[.val (.int p1)] [(.int p1)])) _
            refine XS.iconst X0.here hx rfl (hb hby d1_36) ?_
            exact kt
          by_cases hc37_13 : p1 = (4 : Int32)
          · obtain ⟨T15, X15, e15, st15⟩ := getS2 X0 hx hZ hown (host := "") (Or.inl (hw _ (List.mem_of_getElem? (i := 25) rfl))) Via.refl e0 S_OFFSET_COMMIT (g := (mkF m 40 #[.val (.int p1)] [])) rfl (hb hby d1_40)
            obtain ⟨fs, hr, hrun, hended, hW, hsame⟩ := X15.leave (v := some (.ref w_OFFSET_COMMIT)) (fun h => by rw [Bd.returns] at h; cases h)
            refine ⟨_, _, pre14 _ ?_, hrun, hended, _, _, rfl, ?_, ⟨_, rfl⟩, hW, hsame.mono (by decide) (by decide)⟩
            · show Steps p.tables e below (s₁.setTop (mkF m 37 #[.val (.int p1)] [(.int (4 : Int32)), (.int p1)])) _
              refine XS.icmpNo X0.here hx rfl (hb hby d1_37) rfl (teq hc37_13).2 ?_
              show Steps p.tables e below (s₁.setTop (mkF m 40 #[.val (.int p1)] [])) _
              refine st15 _ ?_
              show Steps p.tables e below (T15.setTop (mkF m 43 #[.val (.int p1)] [(.ref w_OFFSET_COMMIT)])) _
              jvm_step X15.here [X15.here.top, hx, (hb hby d1_43), X15.method', Bd.returns, Value.isRef, FieldType.isReference]
              first | (intro acts; rw [hr _ acts rfl rfl rfl]) | rw [hr _ _ rfl rfl rfl]
              exact Steps.refl _
            · show Q_rm1 Z p1 w_PRODUCE w_FETCH w_LIST_OFFSETS w_METADATA w_OFFSET_COMMIT w_OFFSET_FETCH w_FIND_COORDINATOR w_JOIN_GROUP w_HEARTBEAT w_LEAVE_GROUP w_SYNC_GROUP w_API_VERSIONS w_CREATE_TOPICS w_INIT_PRODUCER_ID w_OFFSET_FOR_LEADER_EPOCH w_DESCRIBE_CONFIGS w_ELECT_LEADERS w_ALTER_PARTITION w_BROKER_REGISTRATION w_BROKER_HEARTBEAT w_ALLOCATE_PRODUCER_IDS h0 n0 _ T15.heap _
              rw [e15]
              exact ⟨w_OFFSET_COMMIT, rfl, N0, rfl, E_w_OFFSET_COMMIT, (by rw [own_ff, if_neg hc1_1, if_neg hc10_4, if_neg hc19_7, if_neg hc28_10, if_pos hc37_13]; exact F_firstFlexibleVersion_w_OFFSET_COMMIT)⟩
          · have pre17 : ∀ t, Steps p.tables e below (s₁.setTop (mkF m 46 #[.val (.int p1)] [(.int (5 : Int32)), (.int p1)])) t → Steps p.tables e below (s₁.setTop (entryFrame m #[(.int p1)] 1)) t := fun t kt => by
              refine pre14 t ?_
              show Steps p.tables e below (s₁.setTop (mkF m 37 #[.val (.int p1)] [(.int (4 : Int32)), (.int p1)])) _
              refine XS.icmpYes X0.here hx rfl (pc0 := 37) (pc' := 44) rfl (hb hby d1_37) rfl (feq hc37_13).2 (by decide) (by decide) ?_
              show Steps p.tables e below (s₁.setTop (mkF m 44 #[.val (.int p1)] [])) _
              refine XS.iloadN X0.here hx rfl (hb hby d1_44) rfl ?_
              show Steps p.tables e below (s₁.setTop (mkF m 45 #[.val (.int p1)] [(.int p1)])) _
              refine XS.iconst X0.here hx rfl (hb hby d1_45) ?_
              exact kt
            by_cases hc46_16 : p1 = (5 : Int32)
            · obtain ⟨T18, X18, e18, st18⟩ := getS2 X0 hx hZ hown (host := "") (Or.inl (hw _ (List.mem_of_getElem? (i := 49) rfl))) Via.refl e0 S_OFFSET_FETCH (g := (mkF m 49 #[.val (.int p1)] [])) rfl (hb hby d1_49)
              obtain ⟨fs, hr, hrun, hended, hW, hsame⟩ := X18.leave (v := some (.ref w_OFFSET_FETCH)) (fun h => by rw [Bd.returns] at h; cases h)
              refine ⟨_, _, pre17 _ ?_, hrun, hended, _, _, rfl, ?_, ⟨_, rfl⟩, hW, hsame.mono (by decide) (by decide)⟩
              · show Steps p.tables e below (s₁.setTop (mkF m 46 #[.val (.int p1)] [(.int (5 : Int32)), (.int p1)])) _
                refine XS.icmpNo X0.here hx rfl (hb hby d1_46) rfl (teq hc46_16).2 ?_
                show Steps p.tables e below (s₁.setTop (mkF m 49 #[.val (.int p1)] [])) _
                refine st18 _ ?_
                show Steps p.tables e below (T18.setTop (mkF m 52 #[.val (.int p1)] [(.ref w_OFFSET_FETCH)])) _
                jvm_step X18.here [X18.here.top, hx, (hb hby d1_52), X18.method', Bd.returns, Value.isRef, FieldType.isReference]
                first | (intro acts; rw [hr _ acts rfl rfl rfl]) | rw [hr _ _ rfl rfl rfl]
                exact Steps.refl _
              · show Q_rm1 Z p1 w_PRODUCE w_FETCH w_LIST_OFFSETS w_METADATA w_OFFSET_COMMIT w_OFFSET_FETCH w_FIND_COORDINATOR w_JOIN_GROUP w_HEARTBEAT w_LEAVE_GROUP w_SYNC_GROUP w_API_VERSIONS w_CREATE_TOPICS w_INIT_PRODUCER_ID w_OFFSET_FOR_LEADER_EPOCH w_DESCRIBE_CONFIGS w_ELECT_LEADERS w_ALTER_PARTITION w_BROKER_REGISTRATION w_BROKER_HEARTBEAT w_ALLOCATE_PRODUCER_IDS h0 n0 _ T18.heap _
                rw [e18]
                exact ⟨w_OFFSET_FETCH, rfl, N0, rfl, E_w_OFFSET_FETCH, (by rw [own_ff, if_neg hc1_1, if_neg hc10_4, if_neg hc19_7, if_neg hc28_10, if_neg hc37_13, if_pos hc46_16]; exact F_firstFlexibleVersion_w_OFFSET_FETCH)⟩
            · have pre20 : ∀ t, Steps p.tables e below (s₁.setTop (mkF m 56 #[.val (.int p1)] [(.int (6 : Int32)), (.int p1)])) t → Steps p.tables e below (s₁.setTop (entryFrame m #[(.int p1)] 1)) t := fun t kt => by
                refine pre17 t ?_
                show Steps p.tables e below (s₁.setTop (mkF m 46 #[.val (.int p1)] [(.int (5 : Int32)), (.int p1)])) _
                refine XS.icmpYes X0.here hx rfl (pc0 := 46) (pc' := 53) rfl (hb hby d1_46) rfl (feq hc46_16).2 (by decide) (by decide) ?_
                show Steps p.tables e below (s₁.setTop (mkF m 53 #[.val (.int p1)] [])) _
                refine XS.iloadN X0.here hx rfl (hb hby d1_53) rfl ?_
                show Steps p.tables e below (s₁.setTop (mkF m 54 #[.val (.int p1)] [(.int p1)])) _
                refine XS.bipush X0.here hx rfl (hb hby d1_54) ?_
                exact kt
              by_cases hc56_19 : p1 = (6 : Int32)
              · obtain ⟨T21, X21, e21, st21⟩ := getS2 X0 hx hZ hown (host := "") (Or.inl (hw _ (List.mem_of_getElem? (i := 27) rfl))) Via.refl e0 S_FIND_COORDINATOR (g := (mkF m 59 #[.val (.int p1)] [])) rfl (hb hby d1_59)
                obtain ⟨fs, hr, hrun, hended, hW, hsame⟩ := X21.leave (v := some (.ref w_FIND_COORDINATOR)) (fun h => by rw [Bd.returns] at h; cases h)
                refine ⟨_, _, pre20 _ ?_, hrun, hended, _, _, rfl, ?_, ⟨_, rfl⟩, hW, hsame.mono (by decide) (by decide)⟩
                · show Steps p.tables e below (s₁.setTop (mkF m 56 #[.val (.int p1)] [(.int (6 : Int32)), (.int p1)])) _
                  refine XS.icmpNo X0.here hx rfl (hb hby d1_56) rfl (teq hc56_19).2 ?_
                  show Steps p.tables e below (s₁.setTop (mkF m 59 #[.val (.int p1)] [])) _
                  refine st21 _ ?_
                  show Steps p.tables e below (T21.setTop (mkF m 62 #[.val (.int p1)] [(.ref w_FIND_COORDINATOR)])) _
                  jvm_step X21.here [X21.here.top, hx, (hb hby d1_62), X21.method', Bd.returns, Value.isRef, FieldType.isReference]
                  first | (intro acts; rw [hr _ acts rfl rfl rfl]) | rw [hr _ _ rfl rfl rfl]
                  exact Steps.refl _
                · show Q_rm1 Z p1 w_PRODUCE w_FETCH w_LIST_OFFSETS w_METADATA w_OFFSET_COMMIT w_OFFSET_FETCH w_FIND_COORDINATOR w_JOIN_GROUP w_HEARTBEAT w_LEAVE_GROUP w_SYNC_GROUP w_API_VERSIONS w_CREATE_TOPICS w_INIT_PRODUCER_ID w_OFFSET_FOR_LEADER_EPOCH w_DESCRIBE_CONFIGS w_ELECT_LEADERS w_ALTER_PARTITION w_BROKER_REGISTRATION w_BROKER_HEARTBEAT w_ALLOCATE_PRODUCER_IDS h0 n0 _ T21.heap _
                  rw [e21]
                  exact ⟨w_FIND_COORDINATOR, rfl, N0, rfl, E_w_FIND_COORDINATOR, (by rw [own_ff, if_neg hc1_1, if_neg hc10_4, if_neg hc19_7, if_neg hc28_10, if_neg hc37_13, if_neg hc46_16, if_pos hc56_19]; exact F_firstFlexibleVersion_w_FIND_COORDINATOR)⟩
              · have pre23 : ∀ t, Steps p.tables e below (s₁.setTop (mkF m 66 #[.val (.int p1)] [(.int (7 : Int32)), (.int p1)])) t → Steps p.tables e below (s₁.setTop (entryFrame m #[(.int p1)] 1)) t := fun t kt => by
                  refine pre20 t ?_
                  show Steps p.tables e below (s₁.setTop (mkF m 56 #[.val (.int p1)] [(.int (6 : Int32)), (.int p1)])) _
                  refine XS.icmpYes X0.here hx rfl (pc0 := 56) (pc' := 63) rfl (hb hby d1_56) rfl (feq hc56_19).2 (by decide) (by decide) ?_
                  show Steps p.tables e below (s₁.setTop (mkF m 63 #[.val (.int p1)] [])) _
                  refine XS.iloadN X0.here hx rfl (hb hby d1_63) rfl ?_
                  show Steps p.tables e below (s₁.setTop (mkF m 64 #[.val (.int p1)] [(.int p1)])) _
                  refine XS.bipush X0.here hx rfl (hb hby d1_64) ?_
                  exact kt
                by_cases hc66_22 : p1 = (7 : Int32)
                · obtain ⟨T24, X24, e24, st24⟩ := getS2 X0 hx hZ hown (host := "") (Or.inl (hw _ (List.mem_of_getElem? (i := 47) rfl))) Via.refl e0 S_JOIN_GROUP (g := (mkF m 69 #[.val (.int p1)] [])) rfl (hb hby d1_69)
                  obtain ⟨fs, hr, hrun, hended, hW, hsame⟩ := X24.leave (v := some (.ref w_JOIN_GROUP)) (fun h => by rw [Bd.returns] at h; cases h)
                  refine ⟨_, _, pre23 _ ?_, hrun, hended, _, _, rfl, ?_, ⟨_, rfl⟩, hW, hsame.mono (by decide) (by decide)⟩
                  · show Steps p.tables e below (s₁.setTop (mkF m 66 #[.val (.int p1)] [(.int (7 : Int32)), (.int p1)])) _
                    refine XS.icmpNo X0.here hx rfl (hb hby d1_66) rfl (teq hc66_22).2 ?_
                    show Steps p.tables e below (s₁.setTop (mkF m 69 #[.val (.int p1)] [])) _
                    refine st24 _ ?_
                    show Steps p.tables e below (T24.setTop (mkF m 72 #[.val (.int p1)] [(.ref w_JOIN_GROUP)])) _
                    jvm_step X24.here [X24.here.top, hx, (hb hby d1_72), X24.method', Bd.returns, Value.isRef, FieldType.isReference]
                    first | (intro acts; rw [hr _ acts rfl rfl rfl]) | rw [hr _ _ rfl rfl rfl]
                    exact Steps.refl _
                  · show Q_rm1 Z p1 w_PRODUCE w_FETCH w_LIST_OFFSETS w_METADATA w_OFFSET_COMMIT w_OFFSET_FETCH w_FIND_COORDINATOR w_JOIN_GROUP w_HEARTBEAT w_LEAVE_GROUP w_SYNC_GROUP w_API_VERSIONS w_CREATE_TOPICS w_INIT_PRODUCER_ID w_OFFSET_FOR_LEADER_EPOCH w_DESCRIBE_CONFIGS w_ELECT_LEADERS w_ALTER_PARTITION w_BROKER_REGISTRATION w_BROKER_HEARTBEAT w_ALLOCATE_PRODUCER_IDS h0 n0 _ T24.heap _
                    rw [e24]
                    exact ⟨w_JOIN_GROUP, rfl, N0, rfl, E_w_JOIN_GROUP, (by rw [own_ff, if_neg hc1_1, if_neg hc10_4, if_neg hc19_7, if_neg hc28_10, if_neg hc37_13, if_neg hc46_16, if_neg hc56_19, if_pos hc66_22]; exact F_firstFlexibleVersion_w_JOIN_GROUP)⟩
                · have pre26 : ∀ t, Steps p.tables e below (s₁.setTop (mkF m 76 #[.val (.int p1)] [(.int (8 : Int32)), (.int p1)])) t → Steps p.tables e below (s₁.setTop (entryFrame m #[(.int p1)] 1)) t := fun t kt => by
                    refine pre23 t ?_
                    show Steps p.tables e below (s₁.setTop (mkF m 66 #[.val (.int p1)] [(.int (7 : Int32)), (.int p1)])) _
                    refine XS.icmpYes X0.here hx rfl (pc0 := 66) (pc' := 73) rfl (hb hby d1_66) rfl (feq hc66_22).2 (by decide) (by decide) ?_
                    show Steps p.tables e below (s₁.setTop (mkF m 73 #[.val (.int p1)] [])) _
                    refine XS.iloadN X0.here hx rfl (hb hby d1_73) rfl ?_
                    show Steps p.tables e below (s₁.setTop (mkF m 74 #[.val (.int p1)] [(.int p1)])) _
                    refine XS.bipush X0.here hx rfl (hb hby d1_74) ?_
                    exact kt
                  by_cases hc76_25 : p1 = (8 : Int32)
                  · obtain ⟨T27, X27, e27, st27⟩ := getS2 X0 hx hZ hown (host := "") (Or.inl (hw _ (List.mem_of_getElem? (i := 23) rfl))) Via.refl e0 S_HEARTBEAT (g := (mkF m 79 #[.val (.int p1)] [])) rfl (hb hby d1_79)
                    obtain ⟨fs, hr, hrun, hended, hW, hsame⟩ := X27.leave (v := some (.ref w_HEARTBEAT)) (fun h => by rw [Bd.returns] at h; cases h)
                    refine ⟨_, _, pre26 _ ?_, hrun, hended, _, _, rfl, ?_, ⟨_, rfl⟩, hW, hsame.mono (by decide) (by decide)⟩
                    · show Steps p.tables e below (s₁.setTop (mkF m 76 #[.val (.int p1)] [(.int (8 : Int32)), (.int p1)])) _
                      refine XS.icmpNo X0.here hx rfl (hb hby d1_76) rfl (teq hc76_25).2 ?_
                      show Steps p.tables e below (s₁.setTop (mkF m 79 #[.val (.int p1)] [])) _
                      refine st27 _ ?_
                      show Steps p.tables e below (T27.setTop (mkF m 82 #[.val (.int p1)] [(.ref w_HEARTBEAT)])) _
                      jvm_step X27.here [X27.here.top, hx, (hb hby d1_82), X27.method', Bd.returns, Value.isRef, FieldType.isReference]
                      first | (intro acts; rw [hr _ acts rfl rfl rfl]) | rw [hr _ _ rfl rfl rfl]
                      exact Steps.refl _
                    · show Q_rm1 Z p1 w_PRODUCE w_FETCH w_LIST_OFFSETS w_METADATA w_OFFSET_COMMIT w_OFFSET_FETCH w_FIND_COORDINATOR w_JOIN_GROUP w_HEARTBEAT w_LEAVE_GROUP w_SYNC_GROUP w_API_VERSIONS w_CREATE_TOPICS w_INIT_PRODUCER_ID w_OFFSET_FOR_LEADER_EPOCH w_DESCRIBE_CONFIGS w_ELECT_LEADERS w_ALTER_PARTITION w_BROKER_REGISTRATION w_BROKER_HEARTBEAT w_ALLOCATE_PRODUCER_IDS h0 n0 _ T27.heap _
                      rw [e27]
                      exact ⟨w_HEARTBEAT, rfl, N0, rfl, E_w_HEARTBEAT, (by rw [own_ff, if_neg hc1_1, if_neg hc10_4, if_neg hc19_7, if_neg hc28_10, if_neg hc37_13, if_neg hc46_16, if_neg hc56_19, if_neg hc66_22, if_pos hc76_25]; exact F_firstFlexibleVersion_w_HEARTBEAT)⟩
                  · have pre29 : ∀ t, Steps p.tables e below (s₁.setTop (mkF m 86 #[.val (.int p1)] [(.int (9 : Int32)), (.int p1)])) t → Steps p.tables e below (s₁.setTop (entryFrame m #[(.int p1)] 1)) t := fun t kt => by
                      refine pre26 t ?_
                      show Steps p.tables e below (s₁.setTop (mkF m 76 #[.val (.int p1)] [(.int (8 : Int32)), (.int p1)])) _
                      refine XS.icmpYes X0.here hx rfl (pc0 := 76) (pc' := 83) rfl (hb hby d1_76) rfl (feq hc76_25).2 (by decide) (by decide) ?_
                      show Steps p.tables e below (s₁.setTop (mkF m 83 #[.val (.int p1)] [])) _
                      refine XS.iloadN X0.here hx rfl (hb hby d1_83) rfl ?_
                      show Steps p.tables e below (s₁.setTop (mkF m 84 #[.val (.int p1)] [(.int p1)])) _
                      refine XS.bipush X0.here hx rfl (hb hby d1_84) ?_
                      exact kt
                    by_cases hc86_28 : p1 = (9 : Int32)
                    · obtain ⟨T30, X30, e30, st30⟩ := getS2 X0 hx hZ hown (host := "") (Or.inl (hw _ (List.mem_of_getElem? (i := 51) rfl))) Via.refl e0 S_LEAVE_GROUP (g := (mkF m 89 #[.val (.int p1)] [])) rfl (hb hby d1_89)
                      obtain ⟨fs, hr, hrun, hended, hW, hsame⟩ := X30.leave (v := some (.ref w_LEAVE_GROUP)) (fun h => by rw [Bd.returns] at h; cases h)
                      refine ⟨_, _, pre29 _ ?_, hrun, hended, _, _, rfl, ?_, ⟨_, rfl⟩, hW, hsame.mono (by decide) (by decide)⟩
                      · show Steps p.tables e below (s₁.setTop (mkF m 86 #[.val (.int p1)] [(.int (9 : Int32)), (.int p1)])) _
                        refine XS.icmpNo X0.here hx rfl (hb hby d1_86) rfl (teq hc86_28).2 ?_
                        show Steps p.tables e below (s₁.setTop (mkF m 89 #[.val (.int p1)] [])) _
                        refine st30 _ ?_
                        show Steps p.tables e below (T30.setTop (mkF m 92 #[.val (.int p1)] [(.ref w_LEAVE_GROUP)])) _
                        jvm_step X30.here [X30.here.top, hx, (hb hby d1_92), X30.method', Bd.returns, Value.isRef, FieldType.isReference]
                        first | (intro acts; rw [hr _ acts rfl rfl rfl]) | rw [hr _ _ rfl rfl rfl]
                        exact Steps.refl _
                      · show Q_rm1 Z p1 w_PRODUCE w_FETCH w_LIST_OFFSETS w_METADATA w_OFFSET_COMMIT w_OFFSET_FETCH w_FIND_COORDINATOR w_JOIN_GROUP w_HEARTBEAT w_LEAVE_GROUP w_SYNC_GROUP w_API_VERSIONS w_CREATE_TOPICS w_INIT_PRODUCER_ID w_OFFSET_FOR_LEADER_EPOCH w_DESCRIBE_CONFIGS w_ELECT_LEADERS w_ALTER_PARTITION w_BROKER_REGISTRATION w_BROKER_HEARTBEAT w_ALLOCATE_PRODUCER_IDS h0 n0 _ T30.heap _
                        rw [e30]
                        exact ⟨w_LEAVE_GROUP, rfl, N0, rfl, E_w_LEAVE_GROUP, (by rw [own_ff, if_neg hc1_1, if_neg hc10_4, if_neg hc19_7, if_neg hc28_10, if_neg hc37_13, if_neg hc46_16, if_neg hc56_19, if_neg hc66_22, if_neg hc76_25, if_pos hc86_28]; exact F_firstFlexibleVersion_w_LEAVE_GROUP)⟩
                    · have pre32 : ∀ t, Steps p.tables e below (s₁.setTop (mkF m 96 #[.val (.int p1)] [(.int (10 : Int32)), (.int p1)])) t → Steps p.tables e below (s₁.setTop (entryFrame m #[(.int p1)] 1)) t := fun t kt => by
                        refine pre29 t ?_
                        show Steps p.tables e below (s₁.setTop (mkF m 86 #[.val (.int p1)] [(.int (9 : Int32)), (.int p1)])) _
                        refine XS.icmpYes X0.here hx rfl (pc0 := 86) (pc' := 93) rfl (hb hby d1_86) rfl (feq hc86_28).2 (by decide) (by decide) ?_
                        show Steps p.tables e below (s₁.setTop (mkF m 93 #[.val (.int p1)] [])) _
                        refine XS.iloadN X0.here hx rfl (hb hby d1_93) rfl ?_
                        show Steps p.tables e below (s₁.setTop (mkF m 94 #[.val (.int p1)] [(.int p1)])) _
                        refine XS.bipush X0.here hx rfl (hb hby d1_94) ?_
                        exact kt
                      by_cases hc96_31 : p1 = (10 : Int32)
                      · obtain ⟨T33, X33, e33, st33⟩ := getS2 X0 hx hZ hown (host := "") (Or.inl (hw _ (List.mem_of_getElem? (i := 41) rfl))) Via.refl e0 S_SYNC_GROUP (g := (mkF m 99 #[.val (.int p1)] [])) rfl (hb hby d1_99)
                        obtain ⟨fs, hr, hrun, hended, hW, hsame⟩ := X33.leave (v := some (.ref w_SYNC_GROUP)) (fun h => by rw [Bd.returns] at h; cases h)
                        refine ⟨_, _, pre32 _ ?_, hrun, hended, _, _, rfl, ?_, ⟨_, rfl⟩, hW, hsame.mono (by decide) (by decide)⟩
                        · show Steps p.tables e below (s₁.setTop (mkF m 96 #[.val (.int p1)] [(.int (10 : Int32)), (.int p1)])) _
                          refine XS.icmpNo X0.here hx rfl (hb hby d1_96) rfl (teq hc96_31).2 ?_
                          show Steps p.tables e below (s₁.setTop (mkF m 99 #[.val (.int p1)] [])) _
                          refine st33 _ ?_
                          show Steps p.tables e below (T33.setTop (mkF m 102 #[.val (.int p1)] [(.ref w_SYNC_GROUP)])) _
                          jvm_step X33.here [X33.here.top, hx, (hb hby d1_102), X33.method', Bd.returns, Value.isRef, FieldType.isReference]
                          first | (intro acts; rw [hr _ acts rfl rfl rfl]) | rw [hr _ _ rfl rfl rfl]
                          exact Steps.refl _
                        · show Q_rm1 Z p1 w_PRODUCE w_FETCH w_LIST_OFFSETS w_METADATA w_OFFSET_COMMIT w_OFFSET_FETCH w_FIND_COORDINATOR w_JOIN_GROUP w_HEARTBEAT w_LEAVE_GROUP w_SYNC_GROUP w_API_VERSIONS w_CREATE_TOPICS w_INIT_PRODUCER_ID w_OFFSET_FOR_LEADER_EPOCH w_DESCRIBE_CONFIGS w_ELECT_LEADERS w_ALTER_PARTITION w_BROKER_REGISTRATION w_BROKER_HEARTBEAT w_ALLOCATE_PRODUCER_IDS h0 n0 _ T33.heap _
                          rw [e33]
                          exact ⟨w_SYNC_GROUP, rfl, N0, rfl, E_w_SYNC_GROUP, (by rw [own_ff, if_neg hc1_1, if_neg hc10_4, if_neg hc19_7, if_neg hc28_10, if_neg hc37_13, if_neg hc46_16, if_neg hc56_19, if_neg hc66_22, if_neg hc76_25, if_neg hc86_28, if_pos hc96_31]; exact F_firstFlexibleVersion_w_SYNC_GROUP)⟩
                      · have pre35 : ∀ t, Steps p.tables e below (s₁.setTop (mkF m 106 #[.val (.int p1)] [(.int (11 : Int32)), (.int p1)])) t → Steps p.tables e below (s₁.setTop (entryFrame m #[(.int p1)] 1)) t := fun t kt => by
                          refine pre32 t ?_
                          show Steps p.tables e below (s₁.setTop (mkF m 96 #[.val (.int p1)] [(.int (10 : Int32)), (.int p1)])) _
                          refine XS.icmpYes X0.here hx rfl (pc0 := 96) (pc' := 103) rfl (hb hby d1_96) rfl (feq hc96_31).2 (by decide) (by decide) ?_
                          show Steps p.tables e below (s₁.setTop (mkF m 103 #[.val (.int p1)] [])) _
                          refine XS.iloadN X0.here hx rfl (hb hby d1_103) rfl ?_
                          show Steps p.tables e below (s₁.setTop (mkF m 104 #[.val (.int p1)] [(.int p1)])) _
                          refine XS.bipush X0.here hx rfl (hb hby d1_104) ?_
                          exact kt
                        by_cases hc106_34 : p1 = (11 : Int32)
                        · obtain ⟨T36, X36, e36, st36⟩ := getS2 X0 hx hZ hown (host := "") (Or.inl (hw _ (List.mem_of_getElem? (i := 45) rfl))) Via.refl e0 S_API_VERSIONS (g := (mkF m 109 #[.val (.int p1)] [])) rfl (hb hby d1_109)
                          obtain ⟨fs, hr, hrun, hended, hW, hsame⟩ := X36.leave (v := some (.ref w_API_VERSIONS)) (fun h => by rw [Bd.returns] at h; cases h)
                          refine ⟨_, _, pre35 _ ?_, hrun, hended, _, _, rfl, ?_, ⟨_, rfl⟩, hW, hsame.mono (by decide) (by decide)⟩
                          · show Steps p.tables e below (s₁.setTop (mkF m 106 #[.val (.int p1)] [(.int (11 : Int32)), (.int p1)])) _
                            refine XS.icmpNo X0.here hx rfl (hb hby d1_106) rfl (teq hc106_34).2 ?_
                            show Steps p.tables e below (s₁.setTop (mkF m 109 #[.val (.int p1)] [])) _
                            refine st36 _ ?_
                            show Steps p.tables e below (T36.setTop (mkF m 112 #[.val (.int p1)] [(.ref w_API_VERSIONS)])) _
                            jvm_step X36.here [X36.here.top, hx, (hb hby d1_112), X36.method', Bd.returns, Value.isRef, FieldType.isReference]
                            first | (intro acts; rw [hr _ acts rfl rfl rfl]) | rw [hr _ _ rfl rfl rfl]
                            exact Steps.refl _
                          · show Q_rm1 Z p1 w_PRODUCE w_FETCH w_LIST_OFFSETS w_METADATA w_OFFSET_COMMIT w_OFFSET_FETCH w_FIND_COORDINATOR w_JOIN_GROUP w_HEARTBEAT w_LEAVE_GROUP w_SYNC_GROUP w_API_VERSIONS w_CREATE_TOPICS w_INIT_PRODUCER_ID w_OFFSET_FOR_LEADER_EPOCH w_DESCRIBE_CONFIGS w_ELECT_LEADERS w_ALTER_PARTITION w_BROKER_REGISTRATION w_BROKER_HEARTBEAT w_ALLOCATE_PRODUCER_IDS h0 n0 _ T36.heap _
                            rw [e36]
                            exact ⟨w_API_VERSIONS, rfl, N0, rfl, E_w_API_VERSIONS, (by rw [own_ff, if_neg hc1_1, if_neg hc10_4, if_neg hc19_7, if_neg hc28_10, if_neg hc37_13, if_neg hc46_16, if_neg hc56_19, if_neg hc66_22, if_neg hc76_25, if_neg hc86_28, if_neg hc96_31, if_pos hc106_34]; exact F_firstFlexibleVersion_w_API_VERSIONS)⟩
                        · have pre38 : ∀ t, Steps p.tables e below (s₁.setTop (mkF m 116 #[.val (.int p1)] [(.int (12 : Int32)), (.int p1)])) t → Steps p.tables e below (s₁.setTop (entryFrame m #[(.int p1)] 1)) t := fun t kt => by
                            refine pre35 t ?_
                            show Steps p.tables e below (s₁.setTop (mkF m 106 #[.val (.int p1)] [(.int (11 : Int32)), (.int p1)])) _
                            refine XS.icmpYes X0.here hx rfl (pc0 := 106) (pc' := 113) rfl (hb hby d1_106) rfl (feq hc106_34).2 (by decide) (by decide) ?_
                            show Steps p.tables e below (s₁.setTop (mkF m 113 #[.val (.int p1)] [])) _
                            refine XS.iloadN X0.here hx rfl (hb hby d1_113) rfl ?_
                            show Steps p.tables e below (s₁.setTop (mkF m 114 #[.val (.int p1)] [(.int p1)])) _
                            refine XS.bipush X0.here hx rfl (hb hby d1_114) ?_
                            exact kt
                          by_cases hc116_37 : p1 = (12 : Int32)
                          · obtain ⟨T39, X39, e39, st39⟩ := getS2 X0 hx hZ hown (host := "") (Or.inl (hw _ (List.mem_of_getElem? (i := 29) rfl))) Via.refl e0 S_CREATE_TOPICS (g := (mkF m 119 #[.val (.int p1)] [])) rfl (hb hby d1_119)
                            obtain ⟨fs, hr, hrun, hended, hW, hsame⟩ := X39.leave (v := some (.ref w_CREATE_TOPICS)) (fun h => by rw [Bd.returns] at h; cases h)
                            refine ⟨_, _, pre38 _ ?_, hrun, hended, _, _, rfl, ?_, ⟨_, rfl⟩, hW, hsame.mono (by decide) (by decide)⟩
                            · show Steps p.tables e below (s₁.setTop (mkF m 116 #[.val (.int p1)] [(.int (12 : Int32)), (.int p1)])) _
                              refine XS.icmpNo X0.here hx rfl (hb hby d1_116) rfl (teq hc116_37).2 ?_
                              show Steps p.tables e below (s₁.setTop (mkF m 119 #[.val (.int p1)] [])) _
                              refine st39 _ ?_
                              show Steps p.tables e below (T39.setTop (mkF m 122 #[.val (.int p1)] [(.ref w_CREATE_TOPICS)])) _
                              jvm_step X39.here [X39.here.top, hx, (hb hby d1_122), X39.method', Bd.returns, Value.isRef, FieldType.isReference]
                              first | (intro acts; rw [hr _ acts rfl rfl rfl]) | rw [hr _ _ rfl rfl rfl]
                              exact Steps.refl _
                            · show Q_rm1 Z p1 w_PRODUCE w_FETCH w_LIST_OFFSETS w_METADATA w_OFFSET_COMMIT w_OFFSET_FETCH w_FIND_COORDINATOR w_JOIN_GROUP w_HEARTBEAT w_LEAVE_GROUP w_SYNC_GROUP w_API_VERSIONS w_CREATE_TOPICS w_INIT_PRODUCER_ID w_OFFSET_FOR_LEADER_EPOCH w_DESCRIBE_CONFIGS w_ELECT_LEADERS w_ALTER_PARTITION w_BROKER_REGISTRATION w_BROKER_HEARTBEAT w_ALLOCATE_PRODUCER_IDS h0 n0 _ T39.heap _
                              rw [e39]
                              exact ⟨w_CREATE_TOPICS, rfl, N0, rfl, E_w_CREATE_TOPICS, (by rw [own_ff, if_neg hc1_1, if_neg hc10_4, if_neg hc19_7, if_neg hc28_10, if_neg hc37_13, if_neg hc46_16, if_neg hc56_19, if_neg hc66_22, if_neg hc76_25, if_neg hc86_28, if_neg hc96_31, if_neg hc106_34, if_pos hc116_37]; exact F_firstFlexibleVersion_w_CREATE_TOPICS)⟩
                          · have pre41 : ∀ t, Steps p.tables e below (s₁.setTop (mkF m 126 #[.val (.int p1)] [(.int (13 : Int32)), (.int p1)])) t → Steps p.tables e below (s₁.setTop (entryFrame m #[(.int p1)] 1)) t := fun t kt => by
                              refine pre38 t ?_
                              show Steps p.tables e below (s₁.setTop (mkF m 116 #[.val (.int p1)] [(.int (12 : Int32)), (.int p1)])) _
                              refine XS.icmpYes X0.here hx rfl (pc0 := 116) (pc' := 123) rfl (hb hby d1_116) rfl (feq hc116_37).2 (by decide) (by decide) ?_
                              show Steps p.tables e below (s₁.setTop (mkF m 123 #[.val (.int p1)] [])) _
                              refine XS.iloadN X0.here hx rfl (hb hby d1_123) rfl ?_
                              show Steps p.tables e below (s₁.setTop (mkF m 124 #[.val (.int p1)] [(.int p1)])) _
                              refine XS.bipush X0.here hx rfl (hb hby d1_124) ?_
                              exact kt
                            by_cases hc126_40 : p1 = (13 : Int32)
                            · obtain ⟨T42, X42, e42, st42⟩ := getS2 X0 hx hZ hown (host := "") (Or.inl (hw _ (List.mem_of_getElem? (i := 57) rfl))) Via.refl e0 S_INIT_PRODUCER_ID (g := (mkF m 129 #[.val (.int p1)] [])) rfl (hb hby d1_129)
                              obtain ⟨fs, hr, hrun, hended, hW, hsame⟩ := X42.leave (v := some (.ref w_INIT_PRODUCER_ID)) (fun h => by rw [Bd.returns] at h; cases h)
                              refine ⟨_, _, pre41 _ ?_, hrun, hended, _, _, rfl, ?_, ⟨_, rfl⟩, hW, hsame.mono (by decide) (by decide)⟩
                              · show Steps p.tables e below (s₁.setTop (mkF m 126 #[.val (.int p1)] [(.int (13 : Int32)), (.int p1)])) _
                                refine XS.icmpNo X0.here hx rfl (hb hby d1_126) rfl (teq hc126_40).2 ?_
                                show Steps p.tables e below (s₁.setTop (mkF m 129 #[.val (.int p1)] [])) _
                                refine st42 _ ?_
                                show Steps p.tables e below (T42.setTop (mkF m 132 #[.val (.int p1)] [(.ref w_INIT_PRODUCER_ID)])) _
                                jvm_step X42.here [X42.here.top, hx, (hb hby d1_132), X42.method', Bd.returns, Value.isRef, FieldType.isReference]
                                first | (intro acts; rw [hr _ acts rfl rfl rfl]) | rw [hr _ _ rfl rfl rfl]
                                exact Steps.refl _
                              · show Q_rm1 Z p1 w_PRODUCE w_FETCH w_LIST_OFFSETS w_METADATA w_OFFSET_COMMIT w_OFFSET_FETCH w_FIND_COORDINATOR w_JOIN_GROUP w_HEARTBEAT w_LEAVE_GROUP w_SYNC_GROUP w_API_VERSIONS w_CREATE_TOPICS w_INIT_PRODUCER_ID w_OFFSET_FOR_LEADER_EPOCH w_DESCRIBE_CONFIGS w_ELECT_LEADERS w_ALTER_PARTITION w_BROKER_REGISTRATION w_BROKER_HEARTBEAT w_ALLOCATE_PRODUCER_IDS h0 n0 _ T42.heap _
                                rw [e42]
                                exact ⟨w_INIT_PRODUCER_ID, rfl, N0, rfl, E_w_INIT_PRODUCER_ID, (by rw [own_ff, if_neg hc1_1, if_neg hc10_4, if_neg hc19_7, if_neg hc28_10, if_neg hc37_13, if_neg hc46_16, if_neg hc56_19, if_neg hc66_22, if_neg hc76_25, if_neg hc86_28, if_neg hc96_31, if_neg hc106_34, if_neg hc116_37, if_pos hc126_40]; exact F_firstFlexibleVersion_w_INIT_PRODUCER_ID)⟩
                            · have pre44 : ∀ t, Steps p.tables e below (s₁.setTop (mkF m 136 #[.val (.int p1)] [(.int (14 : Int32)), (.int p1)])) t → Steps p.tables e below (s₁.setTop (entryFrame m #[(.int p1)] 1)) t := fun t kt => by
                                refine pre41 t ?_
                                show Steps p.tables e below (s₁.setTop (mkF m 126 #[.val (.int p1)] [(.int (13 : Int32)), (.int p1)])) _
                                refine XS.icmpYes X0.here hx rfl (pc0 := 126) (pc' := 133) rfl (hb hby d1_126) rfl (feq hc126_40).2 (by decide) (by decide) ?_
                                show Steps p.tables e below (s₁.setTop (mkF m 133 #[.val (.int p1)] [])) _
                                refine XS.iloadN X0.here hx rfl (hb hby d1_133) rfl ?_
                                show Steps p.tables e below (s₁.setTop (mkF m 134 #[.val (.int p1)] [(.int p1)])) _
                                refine XS.bipush X0.here hx rfl (hb hby d1_134) ?_
                                exact kt
                              by_cases hc136_43 : p1 = (14 : Int32)
                              · obtain ⟨T45, X45, e45, st45⟩ := getS2 X0 hx hZ hown (host := "") (Or.inl (hw _ (List.mem_of_getElem? (i := 19) rfl))) Via.refl e0 S_OFFSET_FOR_LEADER_EPOCH (g := (mkF m 139 #[.val (.int p1)] [])) rfl (hb hby d1_139)
                                obtain ⟨fs, hr, hrun, hended, hW, hsame⟩ := X45.leave (v := some (.ref w_OFFSET_FOR_LEADER_EPOCH)) (fun h => by rw [Bd.returns] at h; cases h)
                                refine ⟨_, _, pre44 _ ?_, hrun, hended, _, _, rfl, ?_, ⟨_, rfl⟩, hW, hsame.mono (by decide) (by decide)⟩
                                · show Steps p.tables e below (s₁.setTop (mkF m 136 #[.val (.int p1)] [(.int (14 : Int32)), (.int p1)])) _
                                  refine XS.icmpNo X0.here hx rfl (hb hby d1_136) rfl (teq hc136_43).2 ?_
                                  show Steps p.tables e below (s₁.setTop (mkF m 139 #[.val (.int p1)] [])) _
                                  refine st45 _ ?_
                                  show Steps p.tables e below (T45.setTop (mkF m 142 #[.val (.int p1)] [(.ref w_OFFSET_FOR_LEADER_EPOCH)])) _
                                  jvm_step X45.here [X45.here.top, hx, (hb hby d1_142), X45.method', Bd.returns, Value.isRef, FieldType.isReference]
                                  first | (intro acts; rw [hr _ acts rfl rfl rfl]) | rw [hr _ _ rfl rfl rfl]
                                  exact Steps.refl _
                                · show Q_rm1 Z p1 w_PRODUCE w_FETCH w_LIST_OFFSETS w_METADATA w_OFFSET_COMMIT w_OFFSET_FETCH w_FIND_COORDINATOR w_JOIN_GROUP w_HEARTBEAT w_LEAVE_GROUP w_SYNC_GROUP w_API_VERSIONS w_CREATE_TOPICS w_INIT_PRODUCER_ID w_OFFSET_FOR_LEADER_EPOCH w_DESCRIBE_CONFIGS w_ELECT_LEADERS w_ALTER_PARTITION w_BROKER_REGISTRATION w_BROKER_HEARTBEAT w_ALLOCATE_PRODUCER_IDS h0 n0 _ T45.heap _
                                  rw [e45]
                                  exact ⟨w_OFFSET_FOR_LEADER_EPOCH, rfl, N0, rfl, E_w_OFFSET_FOR_LEADER_EPOCH, (by rw [own_ff, if_neg hc1_1, if_neg hc10_4, if_neg hc19_7, if_neg hc28_10, if_neg hc37_13, if_neg hc46_16, if_neg hc56_19, if_neg hc66_22, if_neg hc76_25, if_neg hc86_28, if_neg hc96_31, if_neg hc106_34, if_neg hc116_37, if_neg hc126_40, if_pos hc136_43]; exact F_firstFlexibleVersion_w_OFFSET_FOR_LEADER_EPOCH)⟩
                              · have pre47 : ∀ t, Steps p.tables e below (s₁.setTop (mkF m 146 #[.val (.int p1)] [(.int (15 : Int32)), (.int p1)])) t → Steps p.tables e below (s₁.setTop (entryFrame m #[(.int p1)] 1)) t := fun t kt => by
                                  refine pre44 t ?_
                                  show Steps p.tables e below (s₁.setTop (mkF m 136 #[.val (.int p1)] [(.int (14 : Int32)), (.int p1)])) _
                                  refine XS.icmpYes X0.here hx rfl (pc0 := 136) (pc' := 143) rfl (hb hby d1_136) rfl (feq hc136_43).2 (by decide) (by decide) ?_
                                  show Steps p.tables e below (s₁.setTop (mkF m 143 #[.val (.int p1)] [])) _
                                  refine XS.iloadN X0.here hx rfl (hb hby d1_143) rfl ?_
                                  show Steps p.tables e below (s₁.setTop (mkF m 144 #[.val (.int p1)] [(.int p1)])) _
                                  refine XS.bipush X0.here hx rfl (hb hby d1_144) ?_
                                  exact kt
                                by_cases hc146_46 : p1 = (15 : Int32)
                                · obtain ⟨T48, X48, e48, st48⟩ := getS2 X0 hx hZ hown (host := "") (Or.inl (hw _ (List.mem_of_getElem? (i := 35) rfl))) Via.refl e0 S_DESCRIBE_CONFIGS (g := (mkF m 149 #[.val (.int p1)] [])) rfl (hb hby d1_149)
                                  obtain ⟨fs, hr, hrun, hended, hW, hsame⟩ := X48.leave (v := some (.ref w_DESCRIBE_CONFIGS)) (fun h => by rw [Bd.returns] at h; cases h)
                                  refine ⟨_, _, pre47 _ ?_, hrun, hended, _, _, rfl, ?_, ⟨_, rfl⟩, hW, hsame.mono (by decide) (by decide)⟩
                                  · show Steps p.tables e below (s₁.setTop (mkF m 146 #[.val (.int p1)] [(.int (15 : Int32)), (.int p1)])) _
                                    refine XS.icmpNo X0.here hx rfl (hb hby d1_146) rfl (teq hc146_46).2 ?_
                                    show Steps p.tables e below (s₁.setTop (mkF m 149 #[.val (.int p1)] [])) _
                                    refine st48 _ ?_
                                    show Steps p.tables e below (T48.setTop (mkF m 152 #[.val (.int p1)] [(.ref w_DESCRIBE_CONFIGS)])) _
                                    jvm_step X48.here [X48.here.top, hx, (hb hby d1_152), X48.method', Bd.returns, Value.isRef, FieldType.isReference]
                                    first | (intro acts; rw [hr _ acts rfl rfl rfl]) | rw [hr _ _ rfl rfl rfl]
                                    exact Steps.refl _
                                  · show Q_rm1 Z p1 w_PRODUCE w_FETCH w_LIST_OFFSETS w_METADATA w_OFFSET_COMMIT w_OFFSET_FETCH w_FIND_COORDINATOR w_JOIN_GROUP w_HEARTBEAT w_LEAVE_GROUP w_SYNC_GROUP w_API_VERSIONS w_CREATE_TOPICS w_INIT_PRODUCER_ID w_OFFSET_FOR_LEADER_EPOCH w_DESCRIBE_CONFIGS w_ELECT_LEADERS w_ALTER_PARTITION w_BROKER_REGISTRATION w_BROKER_HEARTBEAT w_ALLOCATE_PRODUCER_IDS h0 n0 _ T48.heap _
                                    rw [e48]
                                    exact ⟨w_DESCRIBE_CONFIGS, rfl, N0, rfl, E_w_DESCRIBE_CONFIGS, (by rw [own_ff, if_neg hc1_1, if_neg hc10_4, if_neg hc19_7, if_neg hc28_10, if_neg hc37_13, if_neg hc46_16, if_neg hc56_19, if_neg hc66_22, if_neg hc76_25, if_neg hc86_28, if_neg hc96_31, if_neg hc106_34, if_neg hc116_37, if_neg hc126_40, if_neg hc136_43, if_pos hc146_46]; exact F_firstFlexibleVersion_w_DESCRIBE_CONFIGS)⟩
                                · have pre50 : ∀ t, Steps p.tables e below (s₁.setTop (mkF m 156 #[.val (.int p1)] [(.int (16 : Int32)), (.int p1)])) t → Steps p.tables e below (s₁.setTop (entryFrame m #[(.int p1)] 1)) t := fun t kt => by
                                    refine pre47 t ?_
                                    show Steps p.tables e below (s₁.setTop (mkF m 146 #[.val (.int p1)] [(.int (15 : Int32)), (.int p1)])) _
                                    refine XS.icmpYes X0.here hx rfl (pc0 := 146) (pc' := 153) rfl (hb hby d1_146) rfl (feq hc146_46).2 (by decide) (by decide) ?_
                                    show Steps p.tables e below (s₁.setTop (mkF m 153 #[.val (.int p1)] [])) _
                                    refine XS.iloadN X0.here hx rfl (hb hby d1_153) rfl ?_
                                    show Steps p.tables e below (s₁.setTop (mkF m 154 #[.val (.int p1)] [(.int p1)])) _
                                    refine XS.bipush X0.here hx rfl (hb hby d1_154) ?_
                                    exact kt
                                  by_cases hc156_49 : p1 = (16 : Int32)
                                  · obtain ⟨T51, X51, e51, st51⟩ := getS2 X0 hx hZ hown (host := "") (Or.inl (hw _ (List.mem_of_getElem? (i := 53) rfl))) Via.refl e0 S_ELECT_LEADERS (g := (mkF m 159 #[.val (.int p1)] [])) rfl (hb hby d1_159)
                                    obtain ⟨fs, hr, hrun, hended, hW, hsame⟩ := X51.leave (v := some (.ref w_ELECT_LEADERS)) (fun h => by rw [Bd.returns] at h; cases h)
                                    refine ⟨_, _, pre50 _ ?_, hrun, hended, _, _, rfl, ?_, ⟨_, rfl⟩, hW, hsame.mono (by decide) (by decide)⟩
                                    · show Steps p.tables e below (s₁.setTop (mkF m 156 #[.val (.int p1)] [(.int (16 : Int32)), (.int p1)])) _
                                      refine XS.icmpNo X0.here hx rfl (hb hby d1_156) rfl (teq hc156_49).2 ?_
                                      show Steps p.tables e below (s₁.setTop (mkF m 159 #[.val (.int p1)] [])) _
                                      refine st51 _ ?_
                                      show Steps p.tables e below (T51.setTop (mkF m 162 #[.val (.int p1)] [(.ref w_ELECT_LEADERS)])) _
                                      jvm_step X51.here [X51.here.top, hx, (hb hby d1_162), X51.method', Bd.returns, Value.isRef, FieldType.isReference]
                                      first | (intro acts; rw [hr _ acts rfl rfl rfl]) | rw [hr _ _ rfl rfl rfl]
                                      exact Steps.refl _
                                    · show Q_rm1 Z p1 w_PRODUCE w_FETCH w_LIST_OFFSETS w_METADATA w_OFFSET_COMMIT w_OFFSET_FETCH w_FIND_COORDINATOR w_JOIN_GROUP w_HEARTBEAT w_LEAVE_GROUP w_SYNC_GROUP w_API_VERSIONS w_CREATE_TOPICS w_INIT_PRODUCER_ID w_OFFSET_FOR_LEADER_EPOCH w_DESCRIBE_CONFIGS w_ELECT_LEADERS w_ALTER_PARTITION w_BROKER_REGISTRATION w_BROKER_HEARTBEAT w_ALLOCATE_PRODUCER_IDS h0 n0 _ T51.heap _
                                      rw [e51]
                                      exact ⟨w_ELECT_LEADERS, rfl, N0, rfl, E_w_ELECT_LEADERS, (by rw [own_ff, if_neg hc1_1, if_neg hc10_4, if_neg hc19_7, if_neg hc28_10, if_neg hc37_13, if_neg hc46_16, if_neg hc56_19, if_neg hc66_22, if_neg hc76_25, if_neg hc86_28, if_neg hc96_31, if_neg hc106_34, if_neg hc116_37, if_neg hc126_40, if_neg hc136_43, if_neg hc146_46, if_pos hc156_49]; exact F_firstFlexibleVersion_w_ELECT_LEADERS)⟩
                                  · have pre53 : ∀ t, Steps p.tables e below (s₁.setTop (mkF m 166 #[.val (.int p1)] [(.int (17 : Int32)), (.int p1)])) t → Steps p.tables e below (s₁.setTop (entryFrame m #[(.int p1)] 1)) t := fun t kt => by
                                      refine pre50 t ?_
                                      show Steps p.tables e below (s₁.setTop (mkF m 156 #[.val (.int p1)] [(.int (16 : Int32)), (.int p1)])) _
                                      refine XS.icmpYes X0.here hx rfl (pc0 := 156) (pc' := 163) rfl (hb hby d1_156) rfl (feq hc156_49).2 (by decide) (by decide) ?_
                                      show Steps p.tables e below (s₁.setTop (mkF m 163 #[.val (.int p1)] [])) _
                                      refine XS.iloadN X0.here hx rfl (hb hby d1_163) rfl ?_
                                      show Steps p.tables e below (s₁.setTop (mkF m 164 #[.val (.int p1)] [(.int p1)])) _
                                      refine XS.bipush X0.here hx rfl (hb hby d1_164) ?_
                                      exact kt
                                    by_cases hc166_52 : p1 = (17 : Int32)
                                    · obtain ⟨T54, X54, e54, st54⟩ := getS2 X0 hx hZ hown (host := "") (Or.inl (hw _ (List.mem_of_getElem? (i := 55) rfl))) Via.refl e0 S_ALTER_PARTITION (g := (mkF m 169 #[.val (.int p1)] [])) rfl (hb hby d1_169)
                                      obtain ⟨fs, hr, hrun, hended, hW, hsame⟩ := X54.leave (v := some (.ref w_ALTER_PARTITION)) (fun h => by rw [Bd.returns] at h; cases h)
                                      refine ⟨_, _, pre53 _ ?_, hrun, hended, _, _, rfl, ?_, ⟨_, rfl⟩, hW, hsame.mono (by decide) (by decide)⟩
                                      · show Steps p.tables e below (s₁.setTop (mkF m 166 #[.val (.int p1)] [(.int (17 : Int32)), (.int p1)])) _
                                        refine XS.icmpNo X0.here hx rfl (hb hby d1_166) rfl (teq hc166_52).2 ?_
                                        show Steps p.tables e below (s₁.setTop (mkF m 169 #[.val (.int p1)] [])) _
                                        refine st54 _ ?_
                                        show Steps p.tables e below (T54.setTop (mkF m 172 #[.val (.int p1)] [(.ref w_ALTER_PARTITION)])) _
                                        jvm_step X54.here [X54.here.top, hx, (hb hby d1_172), X54.method', Bd.returns, Value.isRef, FieldType.isReference]
                                        first | (intro acts; rw [hr _ acts rfl rfl rfl]) | rw [hr _ _ rfl rfl rfl]
                                        exact Steps.refl _
                                      · show Q_rm1 Z p1 w_PRODUCE w_FETCH w_LIST_OFFSETS w_METADATA w_OFFSET_COMMIT w_OFFSET_FETCH w_FIND_COORDINATOR w_JOIN_GROUP w_HEARTBEAT w_LEAVE_GROUP w_SYNC_GROUP w_API_VERSIONS w_CREATE_TOPICS w_INIT_PRODUCER_ID w_OFFSET_FOR_LEADER_EPOCH w_DESCRIBE_CONFIGS w_ELECT_LEADERS w_ALTER_PARTITION w_BROKER_REGISTRATION w_BROKER_HEARTBEAT w_ALLOCATE_PRODUCER_IDS h0 n0 _ T54.heap _
                                        rw [e54]
                                        exact ⟨w_ALTER_PARTITION, rfl, N0, rfl, E_w_ALTER_PARTITION, (by rw [own_ff, if_neg hc1_1, if_neg hc10_4, if_neg hc19_7, if_neg hc28_10, if_neg hc37_13, if_neg hc46_16, if_neg hc56_19, if_neg hc66_22, if_neg hc76_25, if_neg hc86_28, if_neg hc96_31, if_neg hc106_34, if_neg hc116_37, if_neg hc126_40, if_neg hc136_43, if_neg hc146_46, if_neg hc156_49, if_pos hc166_52]; exact F_firstFlexibleVersion_w_ALTER_PARTITION)⟩
                                    · have pre56 : ∀ t, Steps p.tables e below (s₁.setTop (mkF m 176 #[.val (.int p1)] [(.int (18 : Int32)), (.int p1)])) t → Steps p.tables e below (s₁.setTop (entryFrame m #[(.int p1)] 1)) t := fun t kt => by
                                        refine pre53 t ?_
                                        show Steps p.tables e below (s₁.setTop (mkF m 166 #[.val (.int p1)] [(.int (17 : Int32)), (.int p1)])) _
                                        refine XS.icmpYes X0.here hx rfl (pc0 := 166) (pc' := 173) rfl (hb hby d1_166) rfl (feq hc166_52).2 (by decide) (by decide) ?_
                                        show Steps p.tables e below (s₁.setTop (mkF m 173 #[.val (.int p1)] [])) _
                                        refine XS.iloadN X0.here hx rfl (hb hby d1_173) rfl ?_
                                        show Steps p.tables e below (s₁.setTop (mkF m 174 #[.val (.int p1)] [(.int p1)])) _
                                        refine XS.bipush X0.here hx rfl (hb hby d1_174) ?_
                                        exact kt
                                      by_cases hc176_55 : p1 = (18 : Int32)
                                      · obtain ⟨T57, X57, e57, st57⟩ := getS2 X0 hx hZ hown (host := "") (Or.inl (hw _ (List.mem_of_getElem? (i := 31) rfl))) Via.refl e0 S_BROKER_REGISTRATION (g := (mkF m 179 #[.val (.int p1)] [])) rfl (hb hby d1_179)
                                        obtain ⟨fs, hr, hrun, hended, hW, hsame⟩ := X57.leave (v := some (.ref w_BROKER_REGISTRATION)) (fun h => by rw [Bd.returns] at h; cases h)
                                        refine ⟨_, _, pre56 _ ?_, hrun, hended, _, _, rfl, ?_, ⟨_, rfl⟩, hW, hsame.mono (by decide) (by decide)⟩
                                        · show Steps p.tables e below (s₁.setTop (mkF m 176 #[.val (.int p1)] [(.int (18 : Int32)), (.int p1)])) _
                                          refine XS.icmpNo X0.here hx rfl (hb hby d1_176) rfl (teq hc176_55).2 ?_
                                          show Steps p.tables e below (s₁.setTop (mkF m 179 #[.val (.int p1)] [])) _
                                          refine st57 _ ?_
                                          show Steps p.tables e below (T57.setTop (mkF m 182 #[.val (.int p1)] [(.ref w_BROKER_REGISTRATION)])) _
                                          jvm_step X57.here [X57.here.top, hx, (hb hby d1_182), X57.method', Bd.returns, Value.isRef, FieldType.isReference]
                                          first | (intro acts; rw [hr _ acts rfl rfl rfl]) | rw [hr _ _ rfl rfl rfl]
                                          exact Steps.refl _
                                        · show Q_rm1 Z p1 w_PRODUCE w_FETCH w_LIST_OFFSETS w_METADATA w_OFFSET_COMMIT w_OFFSET_FETCH w_FIND_COORDINATOR w_JOIN_GROUP w_HEARTBEAT w_LEAVE_GROUP w_SYNC_GROUP w_API_VERSIONS w_CREATE_TOPICS w_INIT_PRODUCER_ID w_OFFSET_FOR_LEADER_EPOCH w_DESCRIBE_CONFIGS w_ELECT_LEADERS w_ALTER_PARTITION w_BROKER_REGISTRATION w_BROKER_HEARTBEAT w_ALLOCATE_PRODUCER_IDS h0 n0 _ T57.heap _
                                          rw [e57]
                                          exact ⟨w_BROKER_REGISTRATION, rfl, N0, rfl, E_w_BROKER_REGISTRATION, (by rw [own_ff, if_neg hc1_1, if_neg hc10_4, if_neg hc19_7, if_neg hc28_10, if_neg hc37_13, if_neg hc46_16, if_neg hc56_19, if_neg hc66_22, if_neg hc76_25, if_neg hc86_28, if_neg hc96_31, if_neg hc106_34, if_neg hc116_37, if_neg hc126_40, if_neg hc136_43, if_neg hc146_46, if_neg hc156_49, if_neg hc166_52, if_pos hc176_55]; exact F_firstFlexibleVersion_w_BROKER_REGISTRATION)⟩
                                      · have pre59 : ∀ t, Steps p.tables e below (s₁.setTop (mkF m 186 #[.val (.int p1)] [(.int (19 : Int32)), (.int p1)])) t → Steps p.tables e below (s₁.setTop (entryFrame m #[(.int p1)] 1)) t := fun t kt => by
                                          refine pre56 t ?_
                                          show Steps p.tables e below (s₁.setTop (mkF m 176 #[.val (.int p1)] [(.int (18 : Int32)), (.int p1)])) _
                                          refine XS.icmpYes X0.here hx rfl (pc0 := 176) (pc' := 183) rfl (hb hby d1_176) rfl (feq hc176_55).2 (by decide) (by decide) ?_
                                          show Steps p.tables e below (s₁.setTop (mkF m 183 #[.val (.int p1)] [])) _
                                          refine XS.iloadN X0.here hx rfl (hb hby d1_183) rfl ?_
                                          show Steps p.tables e below (s₁.setTop (mkF m 184 #[.val (.int p1)] [(.int p1)])) _
                                          refine XS.bipush X0.here hx rfl (hb hby d1_184) ?_
                                          exact kt
                                        by_cases hc186_58 : p1 = (19 : Int32)
                                        · obtain ⟨T60, X60, e60, st60⟩ := getS2 X0 hx hZ hown (host := "") (Or.inl (hw _ (List.mem_of_getElem? (i := 39) rfl))) Via.refl e0 S_BROKER_HEARTBEAT (g := (mkF m 189 #[.val (.int p1)] [])) rfl (hb hby d1_189)
                                          obtain ⟨fs, hr, hrun, hended, hW, hsame⟩ := X60.leave (v := some (.ref w_BROKER_HEARTBEAT)) (fun h => by rw [Bd.returns] at h; cases h)
                                          refine ⟨_, _, pre59 _ ?_, hrun, hended, _, _, rfl, ?_, ⟨_, rfl⟩, hW, hsame.mono (by decide) (by decide)⟩
                                          · show Steps p.tables e below (s₁.setTop (mkF m 186 #[.val (.int p1)] [(.int (19 : Int32)), (.int p1)])) _
                                            refine XS.icmpNo X0.here hx rfl (hb hby d1_186) rfl (teq hc186_58).2 ?_
                                            show Steps p.tables e below (s₁.setTop (mkF m 189 #[.val (.int p1)] [])) _
                                            refine st60 _ ?_
                                            show Steps p.tables e below (T60.setTop (mkF m 192 #[.val (.int p1)] [(.ref w_BROKER_HEARTBEAT)])) _
                                            jvm_step X60.here [X60.here.top, hx, (hb hby d1_192), X60.method', Bd.returns, Value.isRef, FieldType.isReference]
                                            first | (intro acts; rw [hr _ acts rfl rfl rfl]) | rw [hr _ _ rfl rfl rfl]
                                            exact Steps.refl _
                                          · show Q_rm1 Z p1 w_PRODUCE w_FETCH w_LIST_OFFSETS w_METADATA w_OFFSET_COMMIT w_OFFSET_FETCH w_FIND_COORDINATOR w_JOIN_GROUP w_HEARTBEAT w_LEAVE_GROUP w_SYNC_GROUP w_API_VERSIONS w_CREATE_TOPICS w_INIT_PRODUCER_ID w_OFFSET_FOR_LEADER_EPOCH w_DESCRIBE_CONFIGS w_ELECT_LEADERS w_ALTER_PARTITION w_BROKER_REGISTRATION w_BROKER_HEARTBEAT w_ALLOCATE_PRODUCER_IDS h0 n0 _ T60.heap _
                                            rw [e60]
                                            exact ⟨w_BROKER_HEARTBEAT, rfl, N0, rfl, E_w_BROKER_HEARTBEAT, (by rw [own_ff, if_neg hc1_1, if_neg hc10_4, if_neg hc19_7, if_neg hc28_10, if_neg hc37_13, if_neg hc46_16, if_neg hc56_19, if_neg hc66_22, if_neg hc76_25, if_neg hc86_28, if_neg hc96_31, if_neg hc106_34, if_neg hc116_37, if_neg hc126_40, if_neg hc136_43, if_neg hc146_46, if_neg hc156_49, if_neg hc166_52, if_neg hc176_55, if_pos hc186_58]; exact F_firstFlexibleVersion_w_BROKER_HEARTBEAT)⟩
                                        · obtain ⟨T61, X61, e61, st61⟩ := getS2 X0 hx hZ hown (host := "") (Or.inl (hw _ (List.mem_of_getElem? (i := 43) rfl))) Via.refl e0 S_ALLOCATE_PRODUCER_IDS (g := (mkF m 193 #[.val (.int p1)] [])) rfl (hb hby d1_193)
                                          obtain ⟨fs, hr, hrun, hended, hW, hsame⟩ := X61.leave (v := some (.ref w_ALLOCATE_PRODUCER_IDS)) (fun h => by rw [Bd.returns] at h; cases h)
                                          refine ⟨_, _, pre59 _ ?_, hrun, hended, _, _, rfl, ?_, ⟨_, rfl⟩, hW, hsame.mono (by decide) (by decide)⟩
                                          · show Steps p.tables e below (s₁.setTop (mkF m 186 #[.val (.int p1)] [(.int (19 : Int32)), (.int p1)])) _
                                            refine XS.icmpYes X0.here hx rfl (pc0 := 186) (pc' := 193) rfl (hb hby d1_186) rfl (feq hc186_58).2 (by decide) (by decide) ?_
                                            show Steps p.tables e below (s₁.setTop (mkF m 193 #[.val (.int p1)] [])) _
                                            refine st61 _ ?_
                                            show Steps p.tables e below (T61.setTop (mkF m 196 #[.val (.int p1)] [(.ref w_ALLOCATE_PRODUCER_IDS)])) _
                                            jvm_step X61.here [X61.here.top, hx, (hb hby d1_196), X61.method', Bd.returns, Value.isRef, FieldType.isReference]
                                            first | (intro acts; rw [hr _ acts rfl rfl rfl]) | rw [hr _ _ rfl rfl rfl]
                                            exact Steps.refl _
                                          · show Q_rm1 Z p1 w_PRODUCE w_FETCH w_LIST_OFFSETS w_METADATA w_OFFSET_COMMIT w_OFFSET_FETCH w_FIND_COORDINATOR w_JOIN_GROUP w_HEARTBEAT w_LEAVE_GROUP w_SYNC_GROUP w_API_VERSIONS w_CREATE_TOPICS w_INIT_PRODUCER_ID w_OFFSET_FOR_LEADER_EPOCH w_DESCRIBE_CONFIGS w_ELECT_LEADERS w_ALTER_PARTITION w_BROKER_REGISTRATION w_BROKER_HEARTBEAT w_ALLOCATE_PRODUCER_IDS h0 n0 _ T61.heap _
                                            rw [e61]
                                            exact ⟨w_ALLOCATE_PRODUCER_IDS, rfl, N0, rfl, E_w_ALLOCATE_PRODUCER_IDS, (by rw [own_ff, if_neg hc1_1, if_neg hc10_4, if_neg hc19_7, if_neg hc28_10, if_neg hc37_13, if_neg hc46_16, if_neg hc56_19, if_neg hc66_22, if_neg hc76_25, if_neg hc86_28, if_neg hc96_31, if_neg hc106_34, if_neg hc116_37, if_neg hc126_40, if_neg hc136_43, if_neg hc146_46, if_neg hc156_49, if_neg hc166_52, if_neg hc176_55, if_neg hc186_58]; exact F_firstFlexibleVersion_w_ALLOCATE_PRODUCER_IDS)⟩
theorem d2_0 : decode method_3_code 0 = .ok (.bipush 21, 2) := by decide +kernel
theorem d2_2 : decode method_3_code 2 = .ok (.newarray .int, 2) := by decide +kernel
theorem d2_4 : decode method_3_code 4 = .ok (.dup, 1) := by decide +kernel
theorem d2_5 : decode method_3_code 5 = .ok (.iconst 0, 1) := by decide +kernel
theorem d2_6 : decode method_3_code 6 = .ok (.bipush 9, 2) := by decide +kernel
theorem d2_8 : decode method_3_code 8 = .ok (.iastore, 1) := by decide +kernel
theorem d2_9 : decode method_3_code 9 = .ok (.dup, 1) := by decide +kernel
theorem d2_10 : decode method_3_code 10 = .ok (.iconst 1, 1) := by decide +kernel
theorem d2_11 : decode method_3_code 11 = .ok (.bipush 12, 2) := by decide +kernel
theorem d2_13 : decode method_3_code 13 = .ok (.iastore, 1) := by decide +kernel
theorem d2_14 : decode method_3_code 14 = .ok (.dup, 1) := by decide +kernel
theorem d2_15 : decode method_3_code 15 = .ok (.iconst 2, 1) := by decide +kernel
theorem d2_16 : decode method_3_code 16 = .ok (.bipush 6, 2) := by decide +kernel
theorem d2_18 : decode method_3_code 18 = .ok (.iastore, 1) := by decide +kernel
theorem d2_19 : decode method_3_code 19 = .ok (.dup, 1) := by decide +kernel
theorem d2_20 : decode method_3_code 20 = .ok (.iconst 3, 1) := by decide +kernel
theorem d2_21 : decode method_3_code 21 = .ok (.bipush 9, 2) := by decide +kernel
theorem d2_23 : decode method_3_code 23 = .ok (.iastore, 1) := by decide +kernel
theorem d2_24 : decode method_3_code 24 = .ok (.dup, 1) := by decide +kernel
theorem d2_25 : decode method_3_code 25 = .ok (.iconst 4, 1) := by decide +kernel
theorem d2_26 : decode method_3_code 26 = .ok (.bipush 8, 2) := by decide +kernel
theorem d2_28 : decode method_3_code 28 = .ok (.iastore, 1) := by decide +kernel
theorem d2_29 : decode method_3_code 29 = .ok (.dup, 1) := by decide +kernel
theorem d2_30 : decode method_3_code 30 = .ok (.iconst 5, 1) := by decide +kernel
theorem d2_31 : decode method_3_code 31 = .ok (.bipush 6, 2) := by decide +kernel
theorem d2_33 : decode method_3_code 33 = .ok (.iastore, 1) := by decide +kernel
theorem d2_34 : decode method_3_code 34 = .ok (.dup, 1) := by decide +kernel
theorem d2_35 : decode method_3_code 35 = .ok (.bipush 6, 2) := by decide +kernel
theorem d2_37 : decode method_3_code 37 = .ok (.iconst 3, 1) := by decide +kernel
theorem d2_38 : decode method_3_code 38 = .ok (.iastore, 1) := by decide +kernel
theorem d2_39 : decode method_3_code 39 = .ok (.dup, 1) := by decide +kernel
theorem d2_40 : decode method_3_code 40 = .ok (.bipush 7, 2) := by decide +kernel
theorem d2_42 : decode method_3_code 42 = .ok (.bipush 6, 2) := by decide +kernel
theorem d2_44 : decode method_3_code 44 = .ok (.iastore, 1) := by decide +kernel
theorem d2_45 : decode method_3_code 45 = .ok (.dup, 1) := by decide +kernel
theorem d2_46 : decode method_3_code 46 = .ok (.bipush 8, 2) := by decide +kernel
theorem d2_48 : decode method_3_code 48 = .ok (.iconst 4, 1) := by decide +kernel
theorem d2_49 : decode method_3_code 49 = .ok (.iastore, 1) := by decide +kernel
theorem d2_50 : decode method_3_code 50 = .ok (.dup, 1) := by decide +kernel
theorem d2_51 : decode method_3_code 51 = .ok (.bipush 9, 2) := by decide +kernel
theorem d2_53 : decode method_3_code 53 = .ok (.iconst 4, 1) := by decide +kernel
theorem d2_54 : decode method_3_code 54 = .ok (.iastore, 1) := by decide +kernel
theorem d2_55 : decode method_3_code 55 = .ok (.dup, 1) := by decide +kernel
theorem d2_56 : decode method_3_code 56 = .ok (.bipush 10, 2) := by decide +kernel
theorem d2_58 : decode method_3_code 58 = .ok (.iconst 4, 1) := by decide +kernel
theorem d2_59 : decode method_3_code 59 = .ok (.iastore, 1) := by decide +kernel
theorem d2_60 : decode method_3_code 60 = .ok (.dup, 1) := by decide +kernel
theorem d2_61 : decode method_3_code 61 = .ok (.bipush 11, 2) := by decide +kernel
theorem d2_63 : decode method_3_code 63 = .ok (.iconst 3, 1) := by decide +kernel
theorem d2_64 : decode method_3_code 64 = .ok (.iastore, 1) := by decide +kernel
theorem d2_65 : decode method_3_code 65 = .ok (.dup, 1) := by decide +kernel
theorem d2_66 : decode method_3_code 66 = .ok (.bipush 12, 2) := by decide +kernel
theorem d2_68 : decode method_3_code 68 = .ok (.iconst 5, 1) := by decide +kernel
theorem d2_69 : decode method_3_code 69 = .ok (.iastore, 1) := by decide +kernel
theorem d2_70 : decode method_3_code 70 = .ok (.dup, 1) := by decide +kernel
theorem d2_71 : decode method_3_code 71 = .ok (.bipush 13, 2) := by decide +kernel
theorem d2_73 : decode method_3_code 73 = .ok (.iconst 2, 1) := by decide +kernel
theorem d2_74 : decode method_3_code 74 = .ok (.iastore, 1) := by decide +kernel
theorem d2_75 : decode method_3_code 75 = .ok (.dup, 1) := by decide +kernel
theorem d2_76 : decode method_3_code 76 = .ok (.bipush 14, 2) := by decide +kernel
theorem d2_78 : decode method_3_code 78 = .ok (.iconst 4, 1) := by decide +kernel
theorem d2_79 : decode method_3_code 79 = .ok (.iastore, 1) := by decide +kernel
theorem d2_80 : decode method_3_code 80 = .ok (.dup, 1) := by decide +kernel
theorem d2_81 : decode method_3_code 81 = .ok (.bipush 15, 2) := by decide +kernel
theorem d2_83 : decode method_3_code 83 = .ok (.iconst 4, 1) := by decide +kernel
theorem d2_84 : decode method_3_code 84 = .ok (.iastore, 1) := by decide +kernel
theorem d2_85 : decode method_3_code 85 = .ok (.dup, 1) := by decide +kernel
theorem d2_86 : decode method_3_code 86 = .ok (.bipush 16, 2) := by decide +kernel
theorem d2_88 : decode method_3_code 88 = .ok (.iconst 2, 1) := by decide +kernel
theorem d2_89 : decode method_3_code 89 = .ok (.iastore, 1) := by decide +kernel
theorem d2_90 : decode method_3_code 90 = .ok (.dup, 1) := by decide +kernel
theorem d2_91 : decode method_3_code 91 = .ok (.bipush 17, 2) := by decide +kernel
theorem d2_93 : decode method_3_code 93 = .ok (.iconst 0, 1) := by decide +kernel
theorem d2_94 : decode method_3_code 94 = .ok (.iastore, 1) := by decide +kernel
theorem d2_95 : decode method_3_code 95 = .ok (.dup, 1) := by decide +kernel
theorem d2_96 : decode method_3_code 96 = .ok (.bipush 18, 2) := by decide +kernel
theorem d2_98 : decode method_3_code 98 = .ok (.iconst 0, 1) := by decide +kernel
theorem d2_99 : decode method_3_code 99 = .ok (.iastore, 1) := by decide +kernel
theorem d2_100 : decode method_3_code 100 = .ok (.dup, 1) := by decide +kernel
theorem d2_101 : decode method_3_code 101 = .ok (.bipush 19, 2) := by decide +kernel
theorem d2_103 : decode method_3_code 103 = .ok (.iconst 0, 1) := by decide +kernel
theorem d2_104 : decode method_3_code 104 = .ok (.iastore, 1) := by decide +kernel
theorem d2_105 : decode method_3_code 105 = .ok (.dup, 1) := by decide +kernel
theorem d2_106 : decode method_3_code 106 = .ok (.bipush 20, 2) := by decide +kernel
theorem d2_108 : decode method_3_code 108 = .ok (.iconst 0, 1) := by decide +kernel
theorem d2_109 : decode method_3_code 109 = .ok (.iastore, 1) := by decide +kernel
theorem d2_110 : decode method_3_code 110 = .ok (.astore_n 1, 1) := by decide +kernel
theorem d2_111 : decode method_3_code 111 = .ok (.aload_n 1, 1) := by decide +kernel
theorem d2_112 : decode method_3_code 112 = .ok (.iload_n 0, 1) := by decide +kernel
theorem d2_113 : decode method_3_code 113 = .ok (.iaload, 1) := by decide +kernel
theorem d2_114 : decode method_3_code 114 = .ok (.ireturn, 1) := by decide +kernel
theorem ef_rm2 (m : MethodId) (p1 : Int32) : entryFrame m #[(.int p1)] 2 = mkF m 0 #[.val (.int p1), .unset] [] := by first | (simp [entryFrame, mkF, argsToLocals, Value.category]; done) | rfl
def Q_rm2 (Z : State) (p1 : Int32) (h0 : Heap) (n0 : Nat) (v : Option Value) (h : Heap) (L : List Loc) : Prop := v = some (.int (own_ff p1)) ∧ Fr n0 L ∧ Keep h0 h []
set_option maxRecDepth 65536 in
set_option maxHeartbeats 40000000 in
theorem rm2 (l : Launch) (Z : State) (a0 : Array Value) (hw : ∀ d ∈ tables_1, d.before a0 Z = true) (ws : List Jvm.Cond) (p1 : Int32) (h0 : Heap) (n0 : Nat) (Z0 : n0 ≤ h0.size) (hk0 : 0 ≤ p1.toInt) (hk1 : p1.toInt < 21) :
    MetFree l (⟨"com/example/alviso/alviso/protocol/ApiKeyIsFlexiblePinLaw", "firstFlexible", "(I)I"⟩ : MethodName) (head1 (Jvm.Cond.code (⟨"com/example/alviso/alviso/protocol/ApiKeyIsFlexiblePinLaw", "firstFlexible", "(I)I"⟩ : MethodName) method_3_code 2 (some .int) :: ws) ({ frames := 0, cells := 1, slots := 21, locals := 0 } : Room)) (fun a U => a = #[(.int p1)] ∧ Z.Warmed39 U.vm ∧ U.heap = h0) (fun _ _ _ _ _ => True) (fun _ U o U' => ∃ v L, o = .returned v ∧ Q_rm2 Z p1 h0 n0 v U'.heap L ∧ FrameEnd U o U' L ({ frames := 0, cells := 1, slots := 21, locals := 0 } : Room).cells ({ frames := 0, cells := 1, slots := 21, locals := 0 } : Room).slots) := by
  refine MetFree.of_bodySF (plainFor_of_name pn_com_example_alviso_alviso_protocol_ApiKeyIsFlexiblePinLaw) hisR ?_
  intro p e s m args below meth c s₁ Bd hml0 hP hK
  obtain ⟨rfl, hZ, hh⟩ := hP
  have hx := Bd.exec
  have hby := Bd.bytes
  have hml : c.maxLocals = 2 := hml0
  have hown : s.vm.findClass "com/example/alviso/alviso/protocol/ApiKeyIsFlexiblePinLaw" = some m.cls := findClass_of_methodNamed Bd.named
  have hnm := (name_of_methodNamed Bd.named Bd.method).1
  have X0 : Stand p l e ({ frames := 0, cells := 1, slots := 21, locals := 0 } : Room) s m #[(.int p1)] below meth c s₁ [] 0 0 := Stand.of_body Bd
  have e0 : s₁.heap = h0 := by rw [← hh, Bd.state]; rfl
  have N0 := Fr.nil n0
  have pre0 : ∀ t, Steps p.tables e below (s₁.setTop (mkF m 0 #[.val (.int p1), .unset] [])) t → Steps p.tables e below (s₁.setTop (entryFrame m #[(.int p1)] 2)) t := fun t k => castTop (ef_rm2 m p1) k
  obtain ⟨T1, h1, k1, X1, e1, E1, A1, st1⟩ := newP X0 hx hZ (hw _ (List.mem_of_getElem? (i := 11) rfl)) e0 (g := (mkF m 2 #[.val (.int p1), .unset] [(.int (21 : Int32))])) rfl (hb hby d2_2) rfl (by decide) (cap := 21) (by decide) (by decide) (by decide) (by decide)
  obtain ⟨b1, g1⟩ : ∃ z, z = h0.size := ⟨_, rfl⟩
  rw [← g1] at A1 st1
  have g_b1 : n0 ≤ b1 := Nat.le_trans Z0 (Nat.le_of_eq g1.symm)
  have sz_b1 : h0.size ≤ b1 := Nat.le_trans (Keep.refl h0 []).1 (Nat.le_of_eq g1.symm)
  have K2 : Keep h0 h1 [] := (Keep.refl h0 []).ext E1
  have V_b1 : Arv Z h1 b1 k1 .int (21 : Int32) [(.int (0 : Int32)), (.int (0 : Int32)), (.int (0 : Int32)), (.int (0 : Int32)), (.int (0 : Int32)), (.int (0 : Int32)), (.int (0 : Int32)), (.int (0 : Int32)), (.int (0 : Int32)), (.int (0 : Int32)), (.int (0 : Int32)), (.int (0 : Int32)), (.int (0 : Int32)), (.int (0 : Int32)), (.int (0 : Int32)), (.int (0 : Int32)), (.int (0 : Int32)), (.int (0 : Int32)), (.int (0 : Int32)), (.int (0 : Int32)), (.int (0 : Int32))] (.int (0 : Int32)) := (Arv.new A1 (by decide)).pad (pad_rep [] (.int (0 : Int32)) 21)
  obtain ⟨c3, Ac3, qc3, Sc3, Nc3, Hc3, Gc3⟩ := id V_b1
  obtain ⟨T4, h4, X4, e4, W4, st4⟩ := stI X1 hx hZ e1 Ac3 (j := (0 : Int32)) (inb_of Sc3 ⟨by decide, by decide⟩) (g := (mkF m 8 #[.val (.int p1), .unset] [(.int (9 : Int32)), (.int (0 : Int32)), (.ref b1), (.ref b1)])) rfl rfl (hb hby d2_8)
  have K5 : Keep h0 h4 [] := K2.wr W4 (Or.inr sz_b1)
  have N6 := Fr.snoc X4 N0 g_b1
  have Vw4 := Arv.set Ac3 qc3 Sc3 Nc3 Hc3 Gc3 rfl W4 0 rfl (Nat.le_of_ble_eq_true rfl)
  change Arv Z h4 b1 k1 .int (21 : Int32) [(.int (9 : Int32)), (.int (0 : Int32)), (.int (0 : Int32)), (.int (0 : Int32)), (.int (0 : Int32)), (.int (0 : Int32)), (.int (0 : Int32)), (.int (0 : Int32)), (.int (0 : Int32)), (.int (0 : Int32)), (.int (0 : Int32)), (.int (0 : Int32)), (.int (0 : Int32)), (.int (0 : Int32)), (.int (0 : Int32)), (.int (0 : Int32)), (.int (0 : Int32)), (.int (0 : Int32)), (.int (0 : Int32)), (.int (0 : Int32)), (.int (0 : Int32))] (.int (0 : Int32)) at Vw4
  obtain ⟨c7, Ac7, qc7, Sc7, Nc7, Hc7, Gc7⟩ := id Vw4
  obtain ⟨T8, h8, X8, e8, W8, st8⟩ := stI X4 hx hZ e4 Ac7 (j := (1 : Int32)) (inb_of Sc7 ⟨by decide, by decide⟩) (g := (mkF m 13 #[.val (.int p1), .unset] [(.int (12 : Int32)), (.int (1 : Int32)), (.ref b1), (.ref b1)])) rfl rfl (hb hby d2_13)
  have K9 : Keep h0 h8 [] := K5.wr W8 (Or.inr sz_b1)
  have N10 := Fr.snoc X8 N6 g_b1
  have Vw8 := Arv.set Ac7 qc7 Sc7 Nc7 Hc7 Gc7 rfl W8 1 rfl (Nat.le_of_ble_eq_true rfl)
  change Arv Z h8 b1 k1 .int (21 : Int32) [(.int (9 : Int32)), (.int (12 : Int32)), (.int (0 : Int32)), (.int (0 : Int32)), (.int (0 : Int32)), (.int (0 : Int32)), (.int (0 : Int32)), (.int (0 : Int32)), (.int (0 : Int32)), (.int (0 : Int32)), (.int (0 : Int32)), (.int (0 : Int32)), (.int (0 : Int32)), (.int (0 : Int32)), (.int (0 : Int32)), (.int (0 : Int32)), (.int (0 : Int32)), (.int (0 : Int32)), (.int (0 : Int32)), (.int (0 : Int32)), (.int (0 : Int32))] (.int (0 : Int32)) at Vw8
  obtain ⟨c11, Ac11, qc11, Sc11, Nc11, Hc11, Gc11⟩ := id Vw8
  obtain ⟨T12, h12, X12, e12, W12, st12⟩ := stI X8 hx hZ e8 Ac11 (j := (2 : Int32)) (inb_of Sc11 ⟨by decide, by decide⟩) (g := (mkF m 18 #[.val (.int p1), .unset] [(.int (6 : Int32)), (.int (2 : Int32)), (.ref b1), (.ref b1)])) rfl rfl (hb hby d2_18)
  have K13 : Keep h0 h12 [] := K9.wr W12 (Or.inr sz_b1)
  have N14 := Fr.snoc X12 N10 g_b1
  have Vw12 := Arv.set Ac11 qc11 Sc11 Nc11 Hc11 Gc11 rfl W12 2 rfl (Nat.le_of_ble_eq_true rfl)
  change Arv Z h12 b1 k1 .int (21 : Int32) [(.int (9 : Int32)), (.int (12 : Int32)), (.int (6 : Int32)), (.int (0 : Int32)), (.int (0 : Int32)), (.int (0 : Int32)), (.int (0 : Int32)), (.int (0 : Int32)), (.int (0 : Int32)), (.int (0 : Int32)), (.int (0 : Int32)), (.int (0 : Int32)), (.int (0 : Int32)), (.int (0 : Int32)), (.int (0 : Int32)), (.int (0 : Int32)), (.int (0 : Int32)), (.int (0 : Int32)), (.int (0 : Int32)), (.int (0 : Int32)), (.int (0 : Int32))] (.int (0 : Int32)) at Vw12
  obtain ⟨c15, Ac15, qc15, Sc15, Nc15, Hc15, Gc15⟩ := id Vw12
  obtain ⟨T16, h16, X16, e16, W16, st16⟩ := stI X12 hx hZ e12 Ac15 (j := (3 : Int32)) (inb_of Sc15 ⟨by decide, by decide⟩) (g := (mkF m 23 #[.val (.int p1), .unset] [(.int (9 : Int32)), (.int (3 : Int32)), (.ref b1), (.ref b1)])) rfl rfl (hb hby d2_23)
  have K17 : Keep h0 h16 [] := K13.wr W16 (Or.inr sz_b1)
  have N18 := Fr.snoc X16 N14 g_b1
  have Vw16 := Arv.set Ac15 qc15 Sc15 Nc15 Hc15 Gc15 rfl W16 3 rfl (Nat.le_of_ble_eq_true rfl)
  change Arv Z h16 b1 k1 .int (21 : Int32) [(.int (9 : Int32)), (.int (12 : Int32)), (.int (6 : Int32)), (.int (9 : Int32)), (.int (0 : Int32)), (.int (0 : Int32)), (.int (0 : Int32)), (.int (0 : Int32)), (.int (0 : Int32)), (.int (0 : Int32)), (.int (0 : Int32)), (.int (0 : Int32)), (.int (0 : Int32)), (.int (0 : Int32)), (.int (0 : Int32)), (.int (0 : Int32)), (.int (0 : Int32)), (.int (0 : Int32)), (.int (0 : Int32)), (.int (0 : Int32)), (.int (0 : Int32))] (.int (0 : Int32)) at Vw16
  obtain ⟨c19, Ac19, qc19, Sc19, Nc19, Hc19, Gc19⟩ := id Vw16
  obtain ⟨T20, h20, X20, e20, W20, st20⟩ := stI X16 hx hZ e16 Ac19 (j := (4 : Int32)) (inb_of Sc19 ⟨by decide, by decide⟩) (g := (mkF m 28 #[.val (.int p1), .unset] [(.int (8 : Int32)), (.int (4 : Int32)), (.ref b1), (.ref b1)])) rfl rfl (hb hby d2_28)
  have K21 : Keep h0 h20 [] := K17.wr W20 (Or.inr sz_b1)
  have N22 := Fr.snoc X20 N18 g_b1
  have Vw20 := Arv.set Ac19 qc19 Sc19 Nc19 Hc19 Gc19 rfl W20 4 rfl (Nat.le_of_ble_eq_true rfl)
  change Arv Z h20 b1 k1 .int (21 : Int32) [(.int (9 : Int32)), (.int (12 : Int32)), (.int (6 : Int32)), (.int (9 : Int32)), (.int (8 : Int32)), (.int (0 : Int32)), (.int (0 : Int32)), (.int (0 : Int32)), (.int (0 : Int32)), (.int (0 : Int32)), (.int (0 : Int32)), (.int (0 : Int32)), (.int (0 : Int32)), (.int (0 : Int32)), (.int (0 : Int32)), (.int (0 : Int32)), (.int (0 : Int32)), (.int (0 : Int32)), (.int (0 : Int32)), (.int (0 : Int32)), (.int (0 : Int32))] (.int (0 : Int32)) at Vw20
  obtain ⟨c23, Ac23, qc23, Sc23, Nc23, Hc23, Gc23⟩ := id Vw20
  obtain ⟨T24, h24, X24, e24, W24, st24⟩ := stI X20 hx hZ e20 Ac23 (j := (5 : Int32)) (inb_of Sc23 ⟨by decide, by decide⟩) (g := (mkF m 33 #[.val (.int p1), .unset] [(.int (6 : Int32)), (.int (5 : Int32)), (.ref b1), (.ref b1)])) rfl rfl (hb hby d2_33)
  have K25 : Keep h0 h24 [] := K21.wr W24 (Or.inr sz_b1)
  have N26 := Fr.snoc X24 N22 g_b1
  have Vw24 := Arv.set Ac23 qc23 Sc23 Nc23 Hc23 Gc23 rfl W24 5 rfl (Nat.le_of_ble_eq_true rfl)
  change Arv Z h24 b1 k1 .int (21 : Int32) [(.int (9 : Int32)), (.int (12 : Int32)), (.int (6 : Int32)), (.int (9 : Int32)), (.int (8 : Int32)), (.int (6 : Int32)), (.int (0 : Int32)), (.int (0 : Int32)), (.int (0 : Int32)), (.int (0 : Int32)), (.int (0 : Int32)), (.int (0 : Int32)), (.int (0 : Int32)), (.int (0 : Int32)), (.int (0 : Int32)), (.int (0 : Int32)), (.int (0 : Int32)), (.int (0 : Int32)), (.int (0 : Int32)), (.int (0 : Int32)), (.int (0 : Int32))] (.int (0 : Int32)) at Vw24
  obtain ⟨c27, Ac27, qc27, Sc27, Nc27, Hc27, Gc27⟩ := id Vw24
  obtain ⟨T28, h28, X28, e28, W28, st28⟩ := stI X24 hx hZ e24 Ac27 (j := (6 : Int32)) (inb_of Sc27 ⟨by decide, by decide⟩) (g := (mkF m 38 #[.val (.int p1), .unset] [(.int (3 : Int32)), (.int (6 : Int32)), (.ref b1), (.ref b1)])) rfl rfl (hb hby d2_38)
  have K29 : Keep h0 h28 [] := K25.wr W28 (Or.inr sz_b1)
  have N30 := Fr.snoc X28 N26 g_b1
  have Vw28 := Arv.set Ac27 qc27 Sc27 Nc27 Hc27 Gc27 rfl W28 6 rfl (Nat.le_of_ble_eq_true rfl)
  change Arv Z h28 b1 k1 .int (21 : Int32) [(.int (9 : Int32)), (.int (12 : Int32)), (.int (6 : Int32)), (.int (9 : Int32)), (.int (8 : Int32)), (.int (6 : Int32)), (.int (3 : Int32)), (.int (0 : Int32)), (.int (0 : Int32)), (.int (0 : Int32)), (.int (0 : Int32)), (.int (0 : Int32)), (.int (0 : Int32)), (.int (0 : Int32)), (.int (0 : Int32)), (.int (0 : Int32)), (.int (0 : Int32)), (.int (0 : Int32)), (.int (0 : Int32)), (.int (0 : Int32)), (.int (0 : Int32))] (.int (0 : Int32)) at Vw28
  obtain ⟨c31, Ac31, qc31, Sc31, Nc31, Hc31, Gc31⟩ := id Vw28
  obtain ⟨T32, h32, X32, e32, W32, st32⟩ := stI X28 hx hZ e28 Ac31 (j := (7 : Int32)) (inb_of Sc31 ⟨by decide, by decide⟩) (g := (mkF m 44 #[.val (.int p1), .unset] [(.int (6 : Int32)), (.int (7 : Int32)), (.ref b1), (.ref b1)])) rfl rfl (hb hby d2_44)
  have K33 : Keep h0 h32 [] := K29.wr W32 (Or.inr sz_b1)
  have N34 := Fr.snoc X32 N30 g_b1
  have Vw32 := Arv.set Ac31 qc31 Sc31 Nc31 Hc31 Gc31 rfl W32 7 rfl (Nat.le_of_ble_eq_true rfl)
  change Arv Z h32 b1 k1 .int (21 : Int32) [(.int (9 : Int32)), (.int (12 : Int32)), (.int (6 : Int32)), (.int (9 : Int32)), (.int (8 : Int32)), (.int (6 : Int32)), (.int (3 : Int32)), (.int (6 : Int32)), (.int (0 : Int32)), (.int (0 : Int32)), (.int (0 : Int32)), (.int (0 : Int32)), (.int (0 : Int32)), (.int (0 : Int32)), (.int (0 : Int32)), (.int (0 : Int32)), (.int (0 : Int32)), (.int (0 : Int32)), (.int (0 : Int32)), (.int (0 : Int32)), (.int (0 : Int32))] (.int (0 : Int32)) at Vw32
  obtain ⟨c35, Ac35, qc35, Sc35, Nc35, Hc35, Gc35⟩ := id Vw32
  obtain ⟨T36, h36, X36, e36, W36, st36⟩ := stI X32 hx hZ e32 Ac35 (j := (8 : Int32)) (inb_of Sc35 ⟨by decide, by decide⟩) (g := (mkF m 49 #[.val (.int p1), .unset] [(.int (4 : Int32)), (.int (8 : Int32)), (.ref b1), (.ref b1)])) rfl rfl (hb hby d2_49)
  have K37 : Keep h0 h36 [] := K33.wr W36 (Or.inr sz_b1)
  have N38 := Fr.snoc X36 N34 g_b1
  have Vw36 := Arv.set Ac35 qc35 Sc35 Nc35 Hc35 Gc35 rfl W36 8 rfl (Nat.le_of_ble_eq_true rfl)
  change Arv Z h36 b1 k1 .int (21 : Int32) [(.int (9 : Int32)), (.int (12 : Int32)), (.int (6 : Int32)), (.int (9 : Int32)), (.int (8 : Int32)), (.int (6 : Int32)), (.int (3 : Int32)), (.int (6 : Int32)), (.int (4 : Int32)), (.int (0 : Int32)), (.int (0 : Int32)), (.int (0 : Int32)), (.int (0 : Int32)), (.int (0 : Int32)), (.int (0 : Int32)), (.int (0 : Int32)), (.int (0 : Int32)), (.int (0 : Int32)), (.int (0 : Int32)), (.int (0 : Int32)), (.int (0 : Int32))] (.int (0 : Int32)) at Vw36
  obtain ⟨c39, Ac39, qc39, Sc39, Nc39, Hc39, Gc39⟩ := id Vw36
  obtain ⟨T40, h40, X40, e40, W40, st40⟩ := stI X36 hx hZ e36 Ac39 (j := (9 : Int32)) (inb_of Sc39 ⟨by decide, by decide⟩) (g := (mkF m 54 #[.val (.int p1), .unset] [(.int (4 : Int32)), (.int (9 : Int32)), (.ref b1), (.ref b1)])) rfl rfl (hb hby d2_54)
  have K41 : Keep h0 h40 [] := K37.wr W40 (Or.inr sz_b1)
  have N42 := Fr.snoc X40 N38 g_b1
  have Vw40 := Arv.set Ac39 qc39 Sc39 Nc39 Hc39 Gc39 rfl W40 9 rfl (Nat.le_of_ble_eq_true rfl)
  change Arv Z h40 b1 k1 .int (21 : Int32) [(.int (9 : Int32)), (.int (12 : Int32)), (.int (6 : Int32)), (.int (9 : Int32)), (.int (8 : Int32)), (.int (6 : Int32)), (.int (3 : Int32)), (.int (6 : Int32)), (.int (4 : Int32)), (.int (4 : Int32)), (.int (0 : Int32)), (.int (0 : Int32)), (.int (0 : Int32)), (.int (0 : Int32)), (.int (0 : Int32)), (.int (0 : Int32)), (.int (0 : Int32)), (.int (0 : Int32)), (.int (0 : Int32)), (.int (0 : Int32)), (.int (0 : Int32))] (.int (0 : Int32)) at Vw40
  obtain ⟨c43, Ac43, qc43, Sc43, Nc43, Hc43, Gc43⟩ := id Vw40
  obtain ⟨T44, h44, X44, e44, W44, st44⟩ := stI X40 hx hZ e40 Ac43 (j := (10 : Int32)) (inb_of Sc43 ⟨by decide, by decide⟩) (g := (mkF m 59 #[.val (.int p1), .unset] [(.int (4 : Int32)), (.int (10 : Int32)), (.ref b1), (.ref b1)])) rfl rfl (hb hby d2_59)
  have K45 : Keep h0 h44 [] := K41.wr W44 (Or.inr sz_b1)
  have N46 := Fr.snoc X44 N42 g_b1
  have Vw44 := Arv.set Ac43 qc43 Sc43 Nc43 Hc43 Gc43 rfl W44 10 rfl (Nat.le_of_ble_eq_true rfl)
  change Arv Z h44 b1 k1 .int (21 : Int32) [(.int (9 : Int32)), (.int (12 : Int32)), (.int (6 : Int32)), (.int (9 : Int32)), (.int (8 : Int32)), (.int (6 : Int32)), (.int (3 : Int32)), (.int (6 : Int32)), (.int (4 : Int32)), (.int (4 : Int32)), (.int (4 : Int32)), (.int (0 : Int32)), (.int (0 : Int32)), (.int (0 : Int32)), (.int (0 : Int32)), (.int (0 : Int32)), (.int (0 : Int32)), (.int (0 : Int32)), (.int (0 : Int32)), (.int (0 : Int32)), (.int (0 : Int32))] (.int (0 : Int32)) at Vw44
  obtain ⟨c47, Ac47, qc47, Sc47, Nc47, Hc47, Gc47⟩ := id Vw44
  obtain ⟨T48, h48, X48, e48, W48, st48⟩ := stI X44 hx hZ e44 Ac47 (j := (11 : Int32)) (inb_of Sc47 ⟨by decide, by decide⟩) (g := (mkF m 64 #[.val (.int p1), .unset] [(.int (3 : Int32)), (.int (11 : Int32)), (.ref b1), (.ref b1)])) rfl rfl (hb hby d2_64)
  have K49 : Keep h0 h48 [] := K45.wr W48 (Or.inr sz_b1)
  have N50 := Fr.snoc X48 N46 g_b1
  have Vw48 := Arv.set Ac47 qc47 Sc47 Nc47 Hc47 Gc47 rfl W48 11 rfl (Nat.le_of_ble_eq_true rfl)
  change Arv Z h48 b1 k1 .int (21 : Int32) [(.int (9 : Int32)), (.int (12 : Int32)), (.int (6 : Int32)), (.int (9 : Int32)), (.int (8 : Int32)), (.int (6 : Int32)), (.int (3 : Int32)), (.int (6 : Int32)), (.int (4 : Int32)), (.int (4 : Int32)), (.int (4 : Int32)), (.int (3 : Int32)), (.int (0 : Int32)), (.int (0 : Int32)), (.int (0 : Int32)), (.int (0 : Int32)), (.int (0 : Int32)), (.int (0 : Int32)), (.int (0 : Int32)), (.int (0 : Int32)), (.int (0 : Int32))] (.int (0 : Int32)) at Vw48
  obtain ⟨c51, Ac51, qc51, Sc51, Nc51, Hc51, Gc51⟩ := id Vw48
  obtain ⟨T52, h52, X52, e52, W52, st52⟩ := stI X48 hx hZ e48 Ac51 (j := (12 : Int32)) (inb_of Sc51 ⟨by decide, by decide⟩) (g := (mkF m 69 #[.val (.int p1), .unset] [(.int (5 : Int32)), (.int (12 : Int32)), (.ref b1), (.ref b1)])) rfl rfl (hb hby d2_69)
  have K53 : Keep h0 h52 [] := K49.wr W52 (Or.inr sz_b1)
  have N54 := Fr.snoc X52 N50 g_b1
  have Vw52 := Arv.set Ac51 qc51 Sc51 Nc51 Hc51 Gc51 rfl W52 12 rfl (Nat.le_of_ble_eq_true rfl)
  change Arv Z h52 b1 k1 .int (21 : Int32) [(.int (9 : Int32)), (.int (12 : Int32)), (.int (6 : Int32)), (.int (9 : Int32)), (.int (8 : Int32)), (.int (6 : Int32)), (.int (3 : Int32)), (.int (6 : Int32)), (.int (4 : Int32)), (.int (4 : Int32)), (.int (4 : Int32)), (.int (3 : Int32)), (.int (5 : Int32)), (.int (0 : Int32)), (.int (0 : Int32)), (.int (0 : Int32)), (.int (0 : Int32)), (.int (0 : Int32)), (.int (0 : Int32)), (.int (0 : Int32)), (.int (0 : Int32))] (.int (0 : Int32)) at Vw52
  obtain ⟨c55, Ac55, qc55, Sc55, Nc55, Hc55, Gc55⟩ := id Vw52
  obtain ⟨T56, h56, X56, e56, W56, st56⟩ := stI X52 hx hZ e52 Ac55 (j := (13 : Int32)) (inb_of Sc55 ⟨by decide, by decide⟩) (g := (mkF m 74 #[.val (.int p1), .unset] [(.int (2 : Int32)), (.int (13 : Int32)), (.ref b1), (.ref b1)])) rfl rfl (hb hby d2_74)
  have K57 : Keep h0 h56 [] := K53.wr W56 (Or.inr sz_b1)
  have N58 := Fr.snoc X56 N54 g_b1
  have Vw56 := Arv.set Ac55 qc55 Sc55 Nc55 Hc55 Gc55 rfl W56 13 rfl (Nat.le_of_ble_eq_true rfl)
  change Arv Z h56 b1 k1 .int (21 : Int32) [(.int (9 : Int32)), (.int (12 : Int32)), (.int (6 : Int32)), (.int (9 : Int32)), (.int (8 : Int32)), (.int (6 : Int32)), (.int (3 : Int32)), (.int (6 : Int32)), (.int (4 : Int32)), (.int (4 : Int32)), (.int (4 : Int32)), (.int (3 : Int32)), (.int (5 : Int32)), (.int (2 : Int32)), (.int (0 : Int32)), (.int (0 : Int32)), (.int (0 : Int32)), (.int (0 : Int32)), (.int (0 : Int32)), (.int (0 : Int32)), (.int (0 : Int32))] (.int (0 : Int32)) at Vw56
  obtain ⟨c59, Ac59, qc59, Sc59, Nc59, Hc59, Gc59⟩ := id Vw56
  obtain ⟨T60, h60, X60, e60, W60, st60⟩ := stI X56 hx hZ e56 Ac59 (j := (14 : Int32)) (inb_of Sc59 ⟨by decide, by decide⟩) (g := (mkF m 79 #[.val (.int p1), .unset] [(.int (4 : Int32)), (.int (14 : Int32)), (.ref b1), (.ref b1)])) rfl rfl (hb hby d2_79)
  have K61 : Keep h0 h60 [] := K57.wr W60 (Or.inr sz_b1)
  have N62 := Fr.snoc X60 N58 g_b1
  have Vw60 := Arv.set Ac59 qc59 Sc59 Nc59 Hc59 Gc59 rfl W60 14 rfl (Nat.le_of_ble_eq_true rfl)
  change Arv Z h60 b1 k1 .int (21 : Int32) [(.int (9 : Int32)), (.int (12 : Int32)), (.int (6 : Int32)), (.int (9 : Int32)), (.int (8 : Int32)), (.int (6 : Int32)), (.int (3 : Int32)), (.int (6 : Int32)), (.int (4 : Int32)), (.int (4 : Int32)), (.int (4 : Int32)), (.int (3 : Int32)), (.int (5 : Int32)), (.int (2 : Int32)), (.int (4 : Int32)), (.int (0 : Int32)), (.int (0 : Int32)), (.int (0 : Int32)), (.int (0 : Int32)), (.int (0 : Int32)), (.int (0 : Int32))] (.int (0 : Int32)) at Vw60
  obtain ⟨c63, Ac63, qc63, Sc63, Nc63, Hc63, Gc63⟩ := id Vw60
  obtain ⟨T64, h64, X64, e64, W64, st64⟩ := stI X60 hx hZ e60 Ac63 (j := (15 : Int32)) (inb_of Sc63 ⟨by decide, by decide⟩) (g := (mkF m 84 #[.val (.int p1), .unset] [(.int (4 : Int32)), (.int (15 : Int32)), (.ref b1), (.ref b1)])) rfl rfl (hb hby d2_84)
  have K65 : Keep h0 h64 [] := K61.wr W64 (Or.inr sz_b1)
  have N66 := Fr.snoc X64 N62 g_b1
  have Vw64 := Arv.set Ac63 qc63 Sc63 Nc63 Hc63 Gc63 rfl W64 15 rfl (Nat.le_of_ble_eq_true rfl)
  change Arv Z h64 b1 k1 .int (21 : Int32) [(.int (9 : Int32)), (.int (12 : Int32)), (.int (6 : Int32)), (.int (9 : Int32)), (.int (8 : Int32)), (.int (6 : Int32)), (.int (3 : Int32)), (.int (6 : Int32)), (.int (4 : Int32)), (.int (4 : Int32)), (.int (4 : Int32)), (.int (3 : Int32)), (.int (5 : Int32)), (.int (2 : Int32)), (.int (4 : Int32)), (.int (4 : Int32)), (.int (0 : Int32)), (.int (0 : Int32)), (.int (0 : Int32)), (.int (0 : Int32)), (.int (0 : Int32))] (.int (0 : Int32)) at Vw64
  obtain ⟨c67, Ac67, qc67, Sc67, Nc67, Hc67, Gc67⟩ := id Vw64
  obtain ⟨T68, h68, X68, e68, W68, st68⟩ := stI X64 hx hZ e64 Ac67 (j := (16 : Int32)) (inb_of Sc67 ⟨by decide, by decide⟩) (g := (mkF m 89 #[.val (.int p1), .unset] [(.int (2 : Int32)), (.int (16 : Int32)), (.ref b1), (.ref b1)])) rfl rfl (hb hby d2_89)
  have K69 : Keep h0 h68 [] := K65.wr W68 (Or.inr sz_b1)
  have N70 := Fr.snoc X68 N66 g_b1
  have Vw68 := Arv.set Ac67 qc67 Sc67 Nc67 Hc67 Gc67 rfl W68 16 rfl (Nat.le_of_ble_eq_true rfl)
  change Arv Z h68 b1 k1 .int (21 : Int32) [(.int (9 : Int32)), (.int (12 : Int32)), (.int (6 : Int32)), (.int (9 : Int32)), (.int (8 : Int32)), (.int (6 : Int32)), (.int (3 : Int32)), (.int (6 : Int32)), (.int (4 : Int32)), (.int (4 : Int32)), (.int (4 : Int32)), (.int (3 : Int32)), (.int (5 : Int32)), (.int (2 : Int32)), (.int (4 : Int32)), (.int (4 : Int32)), (.int (2 : Int32)), (.int (0 : Int32)), (.int (0 : Int32)), (.int (0 : Int32)), (.int (0 : Int32))] (.int (0 : Int32)) at Vw68
  obtain ⟨c71, Ac71, qc71, Sc71, Nc71, Hc71, Gc71⟩ := id Vw68
  obtain ⟨T72, h72, X72, e72, W72, st72⟩ := stI X68 hx hZ e68 Ac71 (j := (17 : Int32)) (inb_of Sc71 ⟨by decide, by decide⟩) (g := (mkF m 94 #[.val (.int p1), .unset] [(.int (0 : Int32)), (.int (17 : Int32)), (.ref b1), (.ref b1)])) rfl rfl (hb hby d2_94)
  have K73 : Keep h0 h72 [] := K69.wr W72 (Or.inr sz_b1)
  have N74 := Fr.snoc X72 N70 g_b1
  have Vw72 := Arv.set Ac71 qc71 Sc71 Nc71 Hc71 Gc71 rfl W72 17 rfl (Nat.le_of_ble_eq_true rfl)
  change Arv Z h72 b1 k1 .int (21 : Int32) [(.int (9 : Int32)), (.int (12 : Int32)), (.int (6 : Int32)), (.int (9 : Int32)), (.int (8 : Int32)), (.int (6 : Int32)), (.int (3 : Int32)), (.int (6 : Int32)), (.int (4 : Int32)), (.int (4 : Int32)), (.int (4 : Int32)), (.int (3 : Int32)), (.int (5 : Int32)), (.int (2 : Int32)), (.int (4 : Int32)), (.int (4 : Int32)), (.int (2 : Int32)), (.int (0 : Int32)), (.int (0 : Int32)), (.int (0 : Int32)), (.int (0 : Int32))] (.int (0 : Int32)) at Vw72
  obtain ⟨c75, Ac75, qc75, Sc75, Nc75, Hc75, Gc75⟩ := id Vw72
  obtain ⟨T76, h76, X76, e76, W76, st76⟩ := stI X72 hx hZ e72 Ac75 (j := (18 : Int32)) (inb_of Sc75 ⟨by decide, by decide⟩) (g := (mkF m 99 #[.val (.int p1), .unset] [(.int (0 : Int32)), (.int (18 : Int32)), (.ref b1), (.ref b1)])) rfl rfl (hb hby d2_99)
  have K77 : Keep h0 h76 [] := K73.wr W76 (Or.inr sz_b1)
  have N78 := Fr.snoc X76 N74 g_b1
  have Vw76 := Arv.set Ac75 qc75 Sc75 Nc75 Hc75 Gc75 rfl W76 18 rfl (Nat.le_of_ble_eq_true rfl)
  change Arv Z h76 b1 k1 .int (21 : Int32) [(.int (9 : Int32)), (.int (12 : Int32)), (.int (6 : Int32)), (.int (9 : Int32)), (.int (8 : Int32)), (.int (6 : Int32)), (.int (3 : Int32)), (.int (6 : Int32)), (.int (4 : Int32)), (.int (4 : Int32)), (.int (4 : Int32)), (.int (3 : Int32)), (.int (5 : Int32)), (.int (2 : Int32)), (.int (4 : Int32)), (.int (4 : Int32)), (.int (2 : Int32)), (.int (0 : Int32)), (.int (0 : Int32)), (.int (0 : Int32)), (.int (0 : Int32))] (.int (0 : Int32)) at Vw76
  obtain ⟨c79, Ac79, qc79, Sc79, Nc79, Hc79, Gc79⟩ := id Vw76
  obtain ⟨T80, h80, X80, e80, W80, st80⟩ := stI X76 hx hZ e76 Ac79 (j := (19 : Int32)) (inb_of Sc79 ⟨by decide, by decide⟩) (g := (mkF m 104 #[.val (.int p1), .unset] [(.int (0 : Int32)), (.int (19 : Int32)), (.ref b1), (.ref b1)])) rfl rfl (hb hby d2_104)
  have K81 : Keep h0 h80 [] := K77.wr W80 (Or.inr sz_b1)
  have N82 := Fr.snoc X80 N78 g_b1
  have Vw80 := Arv.set Ac79 qc79 Sc79 Nc79 Hc79 Gc79 rfl W80 19 rfl (Nat.le_of_ble_eq_true rfl)
  change Arv Z h80 b1 k1 .int (21 : Int32) [(.int (9 : Int32)), (.int (12 : Int32)), (.int (6 : Int32)), (.int (9 : Int32)), (.int (8 : Int32)), (.int (6 : Int32)), (.int (3 : Int32)), (.int (6 : Int32)), (.int (4 : Int32)), (.int (4 : Int32)), (.int (4 : Int32)), (.int (3 : Int32)), (.int (5 : Int32)), (.int (2 : Int32)), (.int (4 : Int32)), (.int (4 : Int32)), (.int (2 : Int32)), (.int (0 : Int32)), (.int (0 : Int32)), (.int (0 : Int32)), (.int (0 : Int32))] (.int (0 : Int32)) at Vw80
  obtain ⟨c83, Ac83, qc83, Sc83, Nc83, Hc83, Gc83⟩ := id Vw80
  obtain ⟨T84, h84, X84, e84, W84, st84⟩ := stI X80 hx hZ e80 Ac83 (j := (20 : Int32)) (inb_of Sc83 ⟨by decide, by decide⟩) (g := (mkF m 109 #[.val (.int p1), .unset] [(.int (0 : Int32)), (.int (20 : Int32)), (.ref b1), (.ref b1)])) rfl rfl (hb hby d2_109)
  have K85 : Keep h0 h84 [] := K81.wr W84 (Or.inr sz_b1)
  have N86 := Fr.snoc X84 N82 g_b1
  have Vw84 := Arv.set Ac83 qc83 Sc83 Nc83 Hc83 Gc83 rfl W84 20 rfl (Nat.le_of_ble_eq_true rfl)
  change Arv Z h84 b1 k1 .int (21 : Int32) [(.int (9 : Int32)), (.int (12 : Int32)), (.int (6 : Int32)), (.int (9 : Int32)), (.int (8 : Int32)), (.int (6 : Int32)), (.int (3 : Int32)), (.int (6 : Int32)), (.int (4 : Int32)), (.int (4 : Int32)), (.int (4 : Int32)), (.int (3 : Int32)), (.int (5 : Int32)), (.int (2 : Int32)), (.int (4 : Int32)), (.int (4 : Int32)), (.int (2 : Int32)), (.int (0 : Int32)), (.int (0 : Int32)), (.int (0 : Int32)), (.int (0 : Int32))] (.int (0 : Int32)) at Vw84
  obtain ⟨c87, Ac87, qc87, Sc87, Nc87, Hc87, Gc87⟩ := id Vw84
  have hinc87 := inb_of Sc87 (j := p1) (own_in hk0 hk1)
  obtain ⟨fs, hr, hrun, hended, hW, hsame⟩ := X84.leave (v := some (.int (own_ff p1))) (fun h => by rw [Bd.returns] at h; cases h)
  refine ⟨_, _, pre0 _ ?_, hrun, hended, _, _, rfl, ?_, ⟨_, rfl⟩, hW, hsame.mono (by decide) (by decide)⟩
  · show Steps p.tables e below (s₁.setTop (mkF m 0 #[.val (.int p1), .unset] [])) _
    refine XS.bipush X0.here hx rfl (hb hby d2_0) ?_
    show Steps p.tables e below (s₁.setTop (mkF m 2 #[.val (.int p1), .unset] [(.int (21 : Int32))])) _
    refine st1 _ ?_
    show Steps p.tables e below (T1.setTop (mkF m 4 #[.val (.int p1), .unset] [(.ref b1)])) _
    refine XS.dup X1.here hx rfl (hb hby d2_4) rfl rfl ?_
    show Steps p.tables e below (T1.setTop (mkF m 5 #[.val (.int p1), .unset] [(.ref b1), (.ref b1)])) _
    refine XS.iconst X1.here hx rfl (hb hby d2_5) ?_
    show Steps p.tables e below (T1.setTop (mkF m 6 #[.val (.int p1), .unset] [(.int (0 : Int32)), (.ref b1), (.ref b1)])) _
    refine XS.bipush X1.here hx rfl (hb hby d2_6) ?_
    show Steps p.tables e below (T1.setTop (mkF m 8 #[.val (.int p1), .unset] [(.int (9 : Int32)), (.int (0 : Int32)), (.ref b1), (.ref b1)])) _
    refine st4 _ ?_
    show Steps p.tables e below (T4.setTop (mkF m 9 #[.val (.int p1), .unset] [(.ref b1)])) _
    refine XS.dup X4.here hx rfl (hb hby d2_9) rfl rfl ?_
    show Steps p.tables e below (T4.setTop (mkF m 10 #[.val (.int p1), .unset] [(.ref b1), (.ref b1)])) _
    refine XS.iconst X4.here hx rfl (hb hby d2_10) ?_
    show Steps p.tables e below (T4.setTop (mkF m 11 #[.val (.int p1), .unset] [(.int (1 : Int32)), (.ref b1), (.ref b1)])) _
    refine XS.bipush X4.here hx rfl (hb hby d2_11) ?_
    show Steps p.tables e below (T4.setTop (mkF m 13 #[.val (.int p1), .unset] [(.int (12 : Int32)), (.int (1 : Int32)), (.ref b1), (.ref b1)])) _
    refine st8 _ ?_
    show Steps p.tables e below (T8.setTop (mkF m 14 #[.val (.int p1), .unset] [(.ref b1)])) _
    refine XS.dup X8.here hx rfl (hb hby d2_14) rfl rfl ?_
    show Steps p.tables e below (T8.setTop (mkF m 15 #[.val (.int p1), .unset] [(.ref b1), (.ref b1)])) _
    refine XS.iconst X8.here hx rfl (hb hby d2_15) ?_
    show Steps p.tables e below (T8.setTop (mkF m 16 #[.val (.int p1), .unset] [(.int (2 : Int32)), (.ref b1), (.ref b1)])) _
    refine XS.bipush X8.here hx rfl (hb hby d2_16) ?_
    show Steps p.tables e below (T8.setTop (mkF m 18 #[.val (.int p1), .unset] [(.int (6 : Int32)), (.int (2 : Int32)), (.ref b1), (.ref b1)])) _
    refine st12 _ ?_
    show Steps p.tables e below (T12.setTop (mkF m 19 #[.val (.int p1), .unset] [(.ref b1)])) _
    refine XS.dup X12.here hx rfl (hb hby d2_19) rfl rfl ?_
    show Steps p.tables e below (T12.setTop (mkF m 20 #[.val (.int p1), .unset] [(.ref b1), (.ref b1)])) _
    refine XS.iconst X12.here hx rfl (hb hby d2_20) ?_
    show Steps p.tables e below (T12.setTop (mkF m 21 #[.val (.int p1), .unset] [(.int (3 : Int32)), (.ref b1), (.ref b1)])) _
    refine XS.bipush X12.here hx rfl (hb hby d2_21) ?_
    show Steps p.tables e below (T12.setTop (mkF m 23 #[.val (.int p1), .unset] [(.int (9 : Int32)), (.int (3 : Int32)), (.ref b1), (.ref b1)])) _
    refine st16 _ ?_
    show Steps p.tables e below (T16.setTop (mkF m 24 #[.val (.int p1), .unset] [(.ref b1)])) _
    refine XS.dup X16.here hx rfl (hb hby d2_24) rfl rfl ?_
    show Steps p.tables e below (T16.setTop (mkF m 25 #[.val (.int p1), .unset] [(.ref b1), (.ref b1)])) _
    refine XS.iconst X16.here hx rfl (hb hby d2_25) ?_
    show Steps p.tables e below (T16.setTop (mkF m 26 #[.val (.int p1), .unset] [(.int (4 : Int32)), (.ref b1), (.ref b1)])) _
    refine XS.bipush X16.here hx rfl (hb hby d2_26) ?_
    show Steps p.tables e below (T16.setTop (mkF m 28 #[.val (.int p1), .unset] [(.int (8 : Int32)), (.int (4 : Int32)), (.ref b1), (.ref b1)])) _
    refine st20 _ ?_
    show Steps p.tables e below (T20.setTop (mkF m 29 #[.val (.int p1), .unset] [(.ref b1)])) _
    refine XS.dup X20.here hx rfl (hb hby d2_29) rfl rfl ?_
    show Steps p.tables e below (T20.setTop (mkF m 30 #[.val (.int p1), .unset] [(.ref b1), (.ref b1)])) _
    refine XS.iconst X20.here hx rfl (hb hby d2_30) ?_
    show Steps p.tables e below (T20.setTop (mkF m 31 #[.val (.int p1), .unset] [(.int (5 : Int32)), (.ref b1), (.ref b1)])) _
    refine XS.bipush X20.here hx rfl (hb hby d2_31) ?_
    show Steps p.tables e below (T20.setTop (mkF m 33 #[.val (.int p1), .unset] [(.int (6 : Int32)), (.int (5 : Int32)), (.ref b1), (.ref b1)])) _
    refine st24 _ ?_
    show Steps p.tables e below (T24.setTop (mkF m 34 #[.val (.int p1), .unset] [(.ref b1)])) _
    refine XS.dup X24.here hx rfl (hb hby d2_34) rfl rfl ?_
    show Steps p.tables e below (T24.setTop (mkF m 35 #[.val (.int p1), .unset] [(.ref b1), (.ref b1)])) _
    refine XS.bipush X24.here hx rfl (hb hby d2_35) ?_
    show Steps p.tables e below (T24.setTop (mkF m 37 #[.val (.int p1), .unset] [(.int (6 : Int32)), (.ref b1), (.ref b1)])) _
    refine XS.iconst X24.here hx rfl (hb hby d2_37) ?_
    show Steps p.tables e below (T24.setTop (mkF m 38 #[.val (.int p1), .unset] [(.int (3 : Int32)), (.int (6 : Int32)), (.ref b1), (.ref b1)])) _
    refine st28 _ ?_
    show Steps p.tables e below (T28.setTop (mkF m 39 #[.val (.int p1), .unset] [(.ref b1)])) _
    refine XS.dup X28.here hx rfl (hb hby d2_39) rfl rfl ?_
    show Steps p.tables e below (T28.setTop (mkF m 40 #[.val (.int p1), .unset] [(.ref b1), (.ref b1)])) _
    refine XS.bipush X28.here hx rfl (hb hby d2_40) ?_
    show Steps p.tables e below (T28.setTop (mkF m 42 #[.val (.int p1), .unset] [(.int (7 : Int32)), (.ref b1), (.ref b1)])) _
    refine XS.bipush X28.here hx rfl (hb hby d2_42) ?_
    show Steps p.tables e below (T28.setTop (mkF m 44 #[.val (.int p1), .unset] [(.int (6 : Int32)), (.int (7 : Int32)), (.ref b1), (.ref b1)])) _
    refine st32 _ ?_
    show Steps p.tables e below (T32.setTop (mkF m 45 #[.val (.int p1), .unset] [(.ref b1)])) _
    refine XS.dup X32.here hx rfl (hb hby d2_45) rfl rfl ?_
    show Steps p.tables e below (T32.setTop (mkF m 46 #[.val (.int p1), .unset] [(.ref b1), (.ref b1)])) _
    refine XS.bipush X32.here hx rfl (hb hby d2_46) ?_
    show Steps p.tables e below (T32.setTop (mkF m 48 #[.val (.int p1), .unset] [(.int (8 : Int32)), (.ref b1), (.ref b1)])) _
    refine XS.iconst X32.here hx rfl (hb hby d2_48) ?_
    show Steps p.tables e below (T32.setTop (mkF m 49 #[.val (.int p1), .unset] [(.int (4 : Int32)), (.int (8 : Int32)), (.ref b1), (.ref b1)])) _
    refine st36 _ ?_
    show Steps p.tables e below (T36.setTop (mkF m 50 #[.val (.int p1), .unset] [(.ref b1)])) _
    refine XS.dup X36.here hx rfl (hb hby d2_50) rfl rfl ?_
    show Steps p.tables e below (T36.setTop (mkF m 51 #[.val (.int p1), .unset] [(.ref b1), (.ref b1)])) _
    refine XS.bipush X36.here hx rfl (hb hby d2_51) ?_
    show Steps p.tables e below (T36.setTop (mkF m 53 #[.val (.int p1), .unset] [(.int (9 : Int32)), (.ref b1), (.ref b1)])) _
    refine XS.iconst X36.here hx rfl (hb hby d2_53) ?_
    show Steps p.tables e below (T36.setTop (mkF m 54 #[.val (.int p1), .unset] [(.int (4 : Int32)), (.int (9 : Int32)), (.ref b1), (.ref b1)])) _
    refine st40 _ ?_
    show Steps p.tables e below (T40.setTop (mkF m 55 #[.val (.int p1), .unset] [(.ref b1)])) _
    refine XS.dup X40.here hx rfl (hb hby d2_55) rfl rfl ?_
    show Steps p.tables e below (T40.setTop (mkF m 56 #[.val (.int p1), .unset] [(.ref b1), (.ref b1)])) _
    refine XS.bipush X40.here hx rfl (hb hby d2_56) ?_
    show Steps p.tables e below (T40.setTop (mkF m 58 #[.val (.int p1), .unset] [(.int (10 : Int32)), (.ref b1), (.ref b1)])) _
    refine XS.iconst X40.here hx rfl (hb hby d2_58) ?_
    show Steps p.tables e below (T40.setTop (mkF m 59 #[.val (.int p1), .unset] [(.int (4 : Int32)), (.int (10 : Int32)), (.ref b1), (.ref b1)])) _
    refine st44 _ ?_
    show Steps p.tables e below (T44.setTop (mkF m 60 #[.val (.int p1), .unset] [(.ref b1)])) _
    refine XS.dup X44.here hx rfl (hb hby d2_60) rfl rfl ?_
    show Steps p.tables e below (T44.setTop (mkF m 61 #[.val (.int p1), .unset] [(.ref b1), (.ref b1)])) _
    refine XS.bipush X44.here hx rfl (hb hby d2_61) ?_
    show Steps p.tables e below (T44.setTop (mkF m 63 #[.val (.int p1), .unset] [(.int (11 : Int32)), (.ref b1), (.ref b1)])) _
    refine XS.iconst X44.here hx rfl (hb hby d2_63) ?_
    show Steps p.tables e below (T44.setTop (mkF m 64 #[.val (.int p1), .unset] [(.int (3 : Int32)), (.int (11 : Int32)), (.ref b1), (.ref b1)])) _
    refine st48 _ ?_
    show Steps p.tables e below (T48.setTop (mkF m 65 #[.val (.int p1), .unset] [(.ref b1)])) _
    refine XS.dup X48.here hx rfl (hb hby d2_65) rfl rfl ?_
    show Steps p.tables e below (T48.setTop (mkF m 66 #[.val (.int p1), .unset] [(.ref b1), (.ref b1)])) _
    refine XS.bipush X48.here hx rfl (hb hby d2_66) ?_
    show Steps p.tables e below (T48.setTop (mkF m 68 #[.val (.int p1), .unset] [(.int (12 : Int32)), (.ref b1), (.ref b1)])) _
    refine XS.iconst X48.here hx rfl (hb hby d2_68) ?_
    show Steps p.tables e below (T48.setTop (mkF m 69 #[.val (.int p1), .unset] [(.int (5 : Int32)), (.int (12 : Int32)), (.ref b1), (.ref b1)])) _
    refine st52 _ ?_
    show Steps p.tables e below (T52.setTop (mkF m 70 #[.val (.int p1), .unset] [(.ref b1)])) _
    refine XS.dup X52.here hx rfl (hb hby d2_70) rfl rfl ?_
    show Steps p.tables e below (T52.setTop (mkF m 71 #[.val (.int p1), .unset] [(.ref b1), (.ref b1)])) _
    refine XS.bipush X52.here hx rfl (hb hby d2_71) ?_
    show Steps p.tables e below (T52.setTop (mkF m 73 #[.val (.int p1), .unset] [(.int (13 : Int32)), (.ref b1), (.ref b1)])) _
    refine XS.iconst X52.here hx rfl (hb hby d2_73) ?_
    show Steps p.tables e below (T52.setTop (mkF m 74 #[.val (.int p1), .unset] [(.int (2 : Int32)), (.int (13 : Int32)), (.ref b1), (.ref b1)])) _
    refine st56 _ ?_
    show Steps p.tables e below (T56.setTop (mkF m 75 #[.val (.int p1), .unset] [(.ref b1)])) _
    refine XS.dup X56.here hx rfl (hb hby d2_75) rfl rfl ?_
    show Steps p.tables e below (T56.setTop (mkF m 76 #[.val (.int p1), .unset] [(.ref b1), (.ref b1)])) _
    refine XS.bipush X56.here hx rfl (hb hby d2_76) ?_
    show Steps p.tables e below (T56.setTop (mkF m 78 #[.val (.int p1), .unset] [(.int (14 : Int32)), (.ref b1), (.ref b1)])) _
    refine XS.iconst X56.here hx rfl (hb hby d2_78) ?_
    show Steps p.tables e below (T56.setTop (mkF m 79 #[.val (.int p1), .unset] [(.int (4 : Int32)), (.int (14 : Int32)), (.ref b1), (.ref b1)])) _
    refine st60 _ ?_
    show Steps p.tables e below (T60.setTop (mkF m 80 #[.val (.int p1), .unset] [(.ref b1)])) _
    refine XS.dup X60.here hx rfl (hb hby d2_80) rfl rfl ?_
    show Steps p.tables e below (T60.setTop (mkF m 81 #[.val (.int p1), .unset] [(.ref b1), (.ref b1)])) _
    refine XS.bipush X60.here hx rfl (hb hby d2_81) ?_
    show Steps p.tables e below (T60.setTop (mkF m 83 #[.val (.int p1), .unset] [(.int (15 : Int32)), (.ref b1), (.ref b1)])) _
    refine XS.iconst X60.here hx rfl (hb hby d2_83) ?_
    show Steps p.tables e below (T60.setTop (mkF m 84 #[.val (.int p1), .unset] [(.int (4 : Int32)), (.int (15 : Int32)), (.ref b1), (.ref b1)])) _
    refine st64 _ ?_
    show Steps p.tables e below (T64.setTop (mkF m 85 #[.val (.int p1), .unset] [(.ref b1)])) _
    refine XS.dup X64.here hx rfl (hb hby d2_85) rfl rfl ?_
    show Steps p.tables e below (T64.setTop (mkF m 86 #[.val (.int p1), .unset] [(.ref b1), (.ref b1)])) _
    refine XS.bipush X64.here hx rfl (hb hby d2_86) ?_
    show Steps p.tables e below (T64.setTop (mkF m 88 #[.val (.int p1), .unset] [(.int (16 : Int32)), (.ref b1), (.ref b1)])) _
    refine XS.iconst X64.here hx rfl (hb hby d2_88) ?_
    show Steps p.tables e below (T64.setTop (mkF m 89 #[.val (.int p1), .unset] [(.int (2 : Int32)), (.int (16 : Int32)), (.ref b1), (.ref b1)])) _
    refine st68 _ ?_
    show Steps p.tables e below (T68.setTop (mkF m 90 #[.val (.int p1), .unset] [(.ref b1)])) _
    refine XS.dup X68.here hx rfl (hb hby d2_90) rfl rfl ?_
    show Steps p.tables e below (T68.setTop (mkF m 91 #[.val (.int p1), .unset] [(.ref b1), (.ref b1)])) _
    refine XS.bipush X68.here hx rfl (hb hby d2_91) ?_
    show Steps p.tables e below (T68.setTop (mkF m 93 #[.val (.int p1), .unset] [(.int (17 : Int32)), (.ref b1), (.ref b1)])) _
    refine XS.iconst X68.here hx rfl (hb hby d2_93) ?_
    show Steps p.tables e below (T68.setTop (mkF m 94 #[.val (.int p1), .unset] [(.int (0 : Int32)), (.int (17 : Int32)), (.ref b1), (.ref b1)])) _
    refine st72 _ ?_
    show Steps p.tables e below (T72.setTop (mkF m 95 #[.val (.int p1), .unset] [(.ref b1)])) _
    refine XS.dup X72.here hx rfl (hb hby d2_95) rfl rfl ?_
    show Steps p.tables e below (T72.setTop (mkF m 96 #[.val (.int p1), .unset] [(.ref b1), (.ref b1)])) _
    refine XS.bipush X72.here hx rfl (hb hby d2_96) ?_
    show Steps p.tables e below (T72.setTop (mkF m 98 #[.val (.int p1), .unset] [(.int (18 : Int32)), (.ref b1), (.ref b1)])) _
    refine XS.iconst X72.here hx rfl (hb hby d2_98) ?_
    show Steps p.tables e below (T72.setTop (mkF m 99 #[.val (.int p1), .unset] [(.int (0 : Int32)), (.int (18 : Int32)), (.ref b1), (.ref b1)])) _
    refine st76 _ ?_
    show Steps p.tables e below (T76.setTop (mkF m 100 #[.val (.int p1), .unset] [(.ref b1)])) _
    refine XS.dup X76.here hx rfl (hb hby d2_100) rfl rfl ?_
    show Steps p.tables e below (T76.setTop (mkF m 101 #[.val (.int p1), .unset] [(.ref b1), (.ref b1)])) _
    refine XS.bipush X76.here hx rfl (hb hby d2_101) ?_
    show Steps p.tables e below (T76.setTop (mkF m 103 #[.val (.int p1), .unset] [(.int (19 : Int32)), (.ref b1), (.ref b1)])) _
    refine XS.iconst X76.here hx rfl (hb hby d2_103) ?_
    show Steps p.tables e below (T76.setTop (mkF m 104 #[.val (.int p1), .unset] [(.int (0 : Int32)), (.int (19 : Int32)), (.ref b1), (.ref b1)])) _
    refine st80 _ ?_
    show Steps p.tables e below (T80.setTop (mkF m 105 #[.val (.int p1), .unset] [(.ref b1)])) _
    refine XS.dup X80.here hx rfl (hb hby d2_105) rfl rfl ?_
    show Steps p.tables e below (T80.setTop (mkF m 106 #[.val (.int p1), .unset] [(.ref b1), (.ref b1)])) _
    refine XS.bipush X80.here hx rfl (hb hby d2_106) ?_
    show Steps p.tables e below (T80.setTop (mkF m 108 #[.val (.int p1), .unset] [(.int (20 : Int32)), (.ref b1), (.ref b1)])) _
    refine XS.iconst X80.here hx rfl (hb hby d2_108) ?_
    show Steps p.tables e below (T80.setTop (mkF m 109 #[.val (.int p1), .unset] [(.int (0 : Int32)), (.int (20 : Int32)), (.ref b1), (.ref b1)])) _
    refine st84 _ ?_
    show Steps p.tables e below (T84.setTop (mkF m 110 #[.val (.int p1), .unset] [(.ref b1)])) _
    refine XS.astoreN X84.here hx rfl (hb hby d2_110) rfl rfl (l' := #[.val (.int p1), .val (.ref b1)]) rfl ?_
    show Steps p.tables e below (T84.setTop (mkF m 111 #[.val (.int p1), .val (.ref b1)] [])) _
    refine XS.aloadN X84.here hx rfl (hb hby d2_111) rfl rfl ?_
    show Steps p.tables e below (T84.setTop (mkF m 112 #[.val (.int p1), .val (.ref b1)] [(.ref b1)])) _
    refine XS.iloadN X84.here hx rfl (hb hby d2_112) rfl ?_
    show Steps p.tables e below (T84.setTop (mkF m 113 #[.val (.int p1), .val (.ref b1)] [(.int p1), (.ref b1)])) _
    refine X84.iaload hx (j := p1) (v := (.int (own_ff p1))) (by rw [e84]; exact Ac87.1) (State.isArrayOf_alike hZ.alike Ac87.2.1) Ac87.2.2 hinc87 (Has.at Hc87 hinc87 (own_tab hk0 hk1)) (g := (mkF m 113 #[.val (.int p1), .val (.ref b1)] [(.int p1), (.ref b1)])) rfl rfl (hb hby d2_113) _ ?_
    show Steps p.tables e below (T84.setTop (mkF m 114 #[.val (.int p1), .val (.ref b1)] [(.int (own_ff p1))])) _
    exact retI X84 hx Bd.returns (hb hby d2_114) hr
  · show Q_rm2 Z p1 h0 n0 _ T84.heap _
    rw [e84]
    exact ⟨rfl, N86, K85⟩
theorem d3_0 : decode prog_9_method_9_code 0 = .ok (.iload_n 1, 1) := by decide +kernel
theorem d3_1 : decode prog_9_method_9_code 1 = .ok (.aload_n 0, 1) := by decide +kernel
theorem d3_2 : decode prog_9_method_9_code 2 = .ok (.getfield 96, 3) := by decide +kernel
theorem d3_5 : decode prog_9_method_9_code 5 = .ok (.if_icmp .lt 7, 3) := by decide +kernel
theorem d3_12 : decode prog_9_method_9_code 12 = .ok (.iconst 0, 1) := by decide +kernel
theorem d3_8 : decode prog_9_method_9_code 8 = .ok (.iconst 1, 1) := by decide +kernel
theorem d3_9 : decode prog_9_method_9_code 9 = .ok (.goto 4, 3) := by decide +kernel
theorem d3_13 : decode prog_9_method_9_code 13 = .ok (.ireturn, 1) := by decide +kernel
theorem pn_com_example_alviso_alviso_protocol_ApiKey : plainName "com/example/alviso/alviso/protocol/ApiKey" = true := by first | (simp [plainName, overriddenIn]; done) | decide +kernel
def own_isf (p2 : Int32) (p3 : Int32) : Int32 := (if p2 < p3 then (0 : Int32) else (1 : Int32))
theorem ef_rm3 (m : MethodId) (a1 : Addr) (p2 : Int32) : entryFrame m #[(.ref a1), (.int p2)] 2 = mkF m 0 #[.val (.ref a1), .val (.int p2)] [] := by first | (simp [entryFrame, mkF, argsToLocals, Value.category]; done) | rfl
def Q_rm3 (Z : State) (a1 : Addr) (p2 : Int32) (p3 : Int32) (h0 : Heap) (n0 : Nat) (v : Option Value) (h : Heap) (L : List Loc) : Prop := v = some (.int (own_isf p2 p3)) ∧ Fr n0 L ∧ h = h0
set_option maxRecDepth 65536 in
set_option maxHeartbeats 40000000 in
theorem rm3 (l : Launch) (Z : State) (a0 : Array Value) (hw : ∀ d ∈ tables_1, d.before a0 Z = true) (ws : List Jvm.Cond) (a1 : Addr) (p2 : Int32) (p3 : Int32) (h0 : Heap) (n0 : Nat) (Z0 : n0 ≤ h0.size) (F_firstFlexibleVersion_a1 : Fld Z h0 a1 "com/example/alviso/alviso/protocol/ApiKey" "firstFlexibleVersion" "S" (.int p3)) :
    MetFree l (⟨"com/example/alviso/alviso/protocol/ApiKey", "isFlexible", "(S)Z"⟩ : MethodName) (head1 (Jvm.Cond.code (⟨"com/example/alviso/alviso/protocol/ApiKey", "isFlexible", "(S)Z"⟩ : MethodName) prog_9_method_9_code 2 (some .boolean) :: ws) ({ frames := 0, cells := 0, slots := 0, locals := 0 } : Room)) (fun a U => a = #[(.ref a1), (.int p2)] ∧ Z.Warmed39 U.vm ∧ U.heap = h0) (fun _ _ _ _ _ => True) (fun _ U o U' => ∃ v L, o = .returned v ∧ Q_rm3 Z a1 p2 p3 h0 n0 v U'.heap L ∧ FrameEnd U o U' L ({ frames := 0, cells := 0, slots := 0, locals := 0 } : Room).cells ({ frames := 0, cells := 0, slots := 0, locals := 0 } : Room).slots) := by
  refine MetFree.of_bodySF (plainFor_of_name pn_com_example_alviso_alviso_protocol_ApiKey) hisR ?_
  intro p e s m args below meth c s₁ Bd hml0 hP hK
  obtain ⟨rfl, hZ, hh⟩ := hP
  have hx := Bd.exec
  have hby := Bd.bytes
  have hml : c.maxLocals = 2 := hml0
  have hown : s.vm.findClass "com/example/alviso/alviso/protocol/ApiKey" = some m.cls := findClass_of_methodNamed Bd.named
  have hnm := (name_of_methodNamed Bd.named Bd.method).1
  have X0 : Stand p l e ({ frames := 0, cells := 0, slots := 0, locals := 0 } : Room) s m #[(.ref a1), (.int p2)] below meth c s₁ [] 0 0 := Stand.of_body Bd
  have e0 : s₁.heap = h0 := by rw [← hh, Bd.state]; rfl
  have N0 := Fr.nil n0
  have pre0 : ∀ t, Steps p.tables e below (s₁.setTop (mkF m 0 #[.val (.ref a1), .val (.int p2)] [])) t → Steps p.tables e below (s₁.setTop (entryFrame m #[(.ref a1), (.int p2)] 2)) t := fun t k => castTop (ef_rm3 m a1 p2) k
  obtain ⟨T1, X1, e1, st1⟩ := getF X0 hx hZ hown (host := "") (Or.inl (hw _ (List.mem_of_getElem? (i := 17) rfl))) Via.refl e0 F_firstFlexibleVersion_a1 (g := (mkF m 2 #[.val (.ref a1), .val (.int p2)] [(.ref a1), (.int p2)])) rfl rfl (hb hby d3_2)
  have pre3 : ∀ t, Steps p.tables e below (T1.setTop (mkF m 5 #[.val (.ref a1), .val (.int p2)] [(.int p3), (.int p2)])) t → Steps p.tables e below (s₁.setTop (entryFrame m #[(.ref a1), (.int p2)] 2)) t := fun t kt => by
    refine pre0 t ?_
    show Steps p.tables e below (s₁.setTop (mkF m 0 #[.val (.ref a1), .val (.int p2)] [])) _
    refine XS.iloadN X0.here hx rfl (hb hby d3_0) rfl ?_
    show Steps p.tables e below (s₁.setTop (mkF m 1 #[.val (.ref a1), .val (.int p2)] [(.int p2)])) _
    refine XS.aloadN X0.here hx rfl (hb hby d3_1) rfl rfl ?_
    show Steps p.tables e below (s₁.setTop (mkF m 2 #[.val (.ref a1), .val (.int p2)] [(.ref a1), (.int p2)])) _
    refine st1 _ ?_
    exact kt
  by_cases hc5_2 : p2 < p3
  · obtain ⟨fs, hr, hrun, hended, hW, hsame⟩ := X1.leave (v := some (.int (0 : Int32))) (fun h => by rw [Bd.returns] at h; cases h)
    refine ⟨_, _, pre3 _ ?_, hrun, hended, _, _, rfl, ?_, ⟨_, rfl⟩, hW, hsame.mono (by decide) (by decide)⟩
    · show Steps p.tables e below (T1.setTop (mkF m 5 #[.val (.ref a1), .val (.int p2)] [(.int p3), (.int p2)])) _
      refine XS.icmpYes X1.here hx rfl (pc0 := 5) (pc' := 12) rfl (hb hby d3_5) rfl (tlt hc5_2).1 (by decide) (by decide) ?_
      show Steps p.tables e below (T1.setTop (mkF m 12 #[.val (.ref a1), .val (.int p2)] [])) _
      refine XS.iconst X1.here hx rfl (hb hby d3_12) ?_
      show Steps p.tables e below (T1.setTop (mkF m 13 #[.val (.ref a1), .val (.int p2)] [(.int (0 : Int32))])) _
      exact retN X1 hx (t := .boolean) Bd.returns (by simp) (hb hby d3_13) hr
    · show Q_rm3 Z a1 p2 p3 h0 n0 _ T1.heap _
      rw [e1]
      exact ⟨by rw [own_isf, if_pos hc5_2], N0, rfl⟩
  · obtain ⟨fs, hr, hrun, hended, hW, hsame⟩ := X1.leave (v := some (.int (1 : Int32))) (fun h => by rw [Bd.returns] at h; cases h)
    refine ⟨_, _, pre3 _ ?_, hrun, hended, _, _, rfl, ?_, ⟨_, rfl⟩, hW, hsame.mono (by decide) (by decide)⟩
    · show Steps p.tables e below (T1.setTop (mkF m 5 #[.val (.ref a1), .val (.int p2)] [(.int p3), (.int p2)])) _
      refine XS.icmpNo X1.here hx rfl (hb hby d3_5) rfl (flt hc5_2).1 ?_
      show Steps p.tables e below (T1.setTop (mkF m 8 #[.val (.ref a1), .val (.int p2)] [])) _
      refine XS.iconst X1.here hx rfl (hb hby d3_8) ?_
      show Steps p.tables e below (T1.setTop (mkF m 9 #[.val (.ref a1), .val (.int p2)] [(.int (1 : Int32))])) _
      refine XS.goto X1.here hx rfl (pc0 := 9) (pc' := 13) rfl (hb hby d3_9) (by decide) (by decide) ?_
      show Steps p.tables e below (T1.setTop (mkF m 13 #[.val (.ref a1), .val (.int p2)] [(.int (1 : Int32))])) _
      exact retN X1 hx (t := .boolean) Bd.returns (by simp) (hb hby d3_13) hr
    · show Q_rm3 Z a1 p2 p3 h0 n0 _ T1.heap _
      rw [e1]
      exact ⟨by rw [own_isf, if_neg hc5_2], N0, rfl⟩
theorem own_s16 {x : Int32} (h0 : -32768 ≤ x.toInt) (h1 : x.toInt ≤ 32767) : x.toInt16.toInt32 = x := by
  apply Int32.toInt_inj.mp
  rw [Int16.toInt_toInt32, Int32.toInt_toInt16]
  exact Int.bmod_eq_of_le (by omega) (by omega)
theorem own_at {f : Int32} (h0 : 0 ≤ f.toInt) (h1 : f.toInt ≤ 12) : ¬ (own_isf (f.toInt16.toInt32) f = (0 : Int32)) := by
  rw [own_s16 (by omega) (by omega), own_isf, if_neg (by rw [Int32.lt_iff_toInt_lt]; omega)]; decide
theorem own_below {f : Int32} (h0 : 0 ≤ f.toInt) (h1 : f.toInt ≤ 12) : own_isf ((f - (1 : Int32)).toInt16.toInt32) f = (0 : Int32) := by
  have e1 : (1 : Int32).toInt = 1 := by decide
  have e : (f - (1 : Int32)).toInt = f.toInt - 1 := by rw [Jvm.Kit.i32_sub (by omega) (by omega), e1]
  rw [own_s16 (by omega) (by omega), own_isf, if_pos (by rw [Int32.lt_iff_toInt_lt]; omega)]
theorem pd__28I_29Lcom_2fexample_2falviso_2falviso_2fprotocol_2fApiKey_3b : parseMethodDescriptor "(I)Lcom/example/alviso/alviso/protocol/ApiKey;" = some ⟨[.int], some (.object "com/example/alviso/alviso/protocol/ApiKey")⟩ := by decide +kernel
theorem pd__28I_29I : parseMethodDescriptor "(I)I" = some ⟨[.int], some .int⟩ := by decide +kernel
theorem pd__28S_29Z : parseMethodDescriptor "(S)Z" = some ⟨[.short], some .boolean⟩ := by decide +kernel
theorem ef_rm0 (m : MethodId) (p1 : Int32) (p2 : Int32) : entryFrame m #[(.int p1), (.int p2)] maxLocals = mkF m 0 #[.val (.int p1), .val (.int p2), .unset, .unset, .unset, .unset, .unset, .unset, .unset, .unset] [] := by first | (simp [entryFrame, mkF, argsToLocals, Value.category, maxLocals]; done) | rfl
def Q_rm0 (Z : State) (p1 : Int32) (p2 : Int32) (w_PRODUCE : Addr) (w_FETCH : Addr) (w_LIST_OFFSETS : Addr) (w_METADATA : Addr) (w_OFFSET_COMMIT : Addr) (w_OFFSET_FETCH : Addr) (w_FIND_COORDINATOR : Addr) (w_JOIN_GROUP : Addr) (w_HEARTBEAT : Addr) (w_LEAVE_GROUP : Addr) (w_SYNC_GROUP : Addr) (w_API_VERSIONS : Addr) (w_CREATE_TOPICS : Addr) (w_INIT_PRODUCER_ID : Addr) (w_OFFSET_FOR_LEADER_EPOCH : Addr) (w_DESCRIBE_CONFIGS : Addr) (w_ELECT_LEADERS : Addr) (w_ALTER_PARTITION : Addr) (w_BROKER_REGISTRATION : Addr) (w_BROKER_HEARTBEAT : Addr) (w_ALLOCATE_PRODUCER_IDS : Addr) (h0 : Heap) (n0 : Nat) (v : Option Value) (h : Heap) (L : List Loc) : Prop := v = some (.int (1 : Int32)) ∧ Fr n0 L
set_option maxRecDepth 65536 in
set_option maxHeartbeats 40000000 in
theorem rm0 (l : Launch) (Z : State) (a0 : Array Value) (hw : ∀ d ∈ tables_1, d.before a0 Z = true) (ws : List Jvm.Cond) (p1 : Int32) (p2 : Int32) (w_PRODUCE : Addr) (w_FETCH : Addr) (w_LIST_OFFSETS : Addr) (w_METADATA : Addr) (w_OFFSET_COMMIT : Addr) (w_OFFSET_FETCH : Addr) (w_FIND_COORDINATOR : Addr) (w_JOIN_GROUP : Addr) (w_HEARTBEAT : Addr) (w_LEAVE_GROUP : Addr) (w_SYNC_GROUP : Addr) (w_API_VERSIONS : Addr) (w_CREATE_TOPICS : Addr) (w_INIT_PRODUCER_ID : Addr) (w_OFFSET_FOR_LEADER_EPOCH : Addr) (w_DESCRIBE_CONFIGS : Addr) (w_ELECT_LEADERS : Addr) (w_ALTER_PARTITION : Addr) (w_BROKER_REGISTRATION : Addr) (w_BROKER_HEARTBEAT : Addr) (w_ALLOCATE_PRODUCER_IDS : Addr) (h0 : Heap) (n0 : Nat) (Z0 : n0 ≤ h0.size) (S_PRODUCE : Sta Z h0 "com/example/alviso/alviso/protocol/ApiKey" "PRODUCE" "Lcom/example/alviso/alviso/protocol/ApiKey;" (.ref w_PRODUCE)) (S_FETCH : Sta Z h0 "com/example/alviso/alviso/protocol/ApiKey" "FETCH" "Lcom/example/alviso/alviso/protocol/ApiKey;" (.ref w_FETCH)) (S_LIST_OFFSETS : Sta Z h0 "com/example/alviso/alviso/protocol/ApiKey" "LIST_OFFSETS" "Lcom/example/alviso/alviso/protocol/ApiKey;" (.ref w_LIST_OFFSETS)) (S_METADATA : Sta Z h0 "com/example/alviso/alviso/protocol/ApiKey" "METADATA" "Lcom/example/alviso/alviso/protocol/ApiKey;" (.ref w_METADATA)) (S_OFFSET_COMMIT : Sta Z h0 "com/example/alviso/alviso/protocol/ApiKey" "OFFSET_COMMIT" "Lcom/example/alviso/alviso/protocol/ApiKey;" (.ref w_OFFSET_COMMIT)) (S_OFFSET_FETCH : Sta Z h0 "com/example/alviso/alviso/protocol/ApiKey" "OFFSET_FETCH" "Lcom/example/alviso/alviso/protocol/ApiKey;" (.ref w_OFFSET_FETCH)) (S_FIND_COORDINATOR : Sta Z h0 "com/example/alviso/alviso/protocol/ApiKey" "FIND_COORDINATOR" "Lcom/example/alviso/alviso/protocol/ApiKey;" (.ref w_FIND_COORDINATOR)) (S_JOIN_GROUP : Sta Z h0 "com/example/alviso/alviso/protocol/ApiKey" "JOIN_GROUP" "Lcom/example/alviso/alviso/protocol/ApiKey;" (.ref w_JOIN_GROUP)) (S_HEARTBEAT : Sta Z h0 "com/example/alviso/alviso/protocol/ApiKey" "HEARTBEAT" "Lcom/example/alviso/alviso/protocol/ApiKey;" (.ref w_HEARTBEAT)) (S_LEAVE_GROUP : Sta Z h0 "com/example/alviso/alviso/protocol/ApiKey" "LEAVE_GROUP" "Lcom/example/alviso/alviso/protocol/ApiKey;" (.ref w_LEAVE_GROUP)) (S_SYNC_GROUP : Sta Z h0 "com/example/alviso/alviso/protocol/ApiKey" "SYNC_GROUP" "Lcom/example/alviso/alviso/protocol/ApiKey;" (.ref w_SYNC_GROUP)) (S_API_VERSIONS : Sta Z h0 "com/example/alviso/alviso/protocol/ApiKey" "API_VERSIONS" "Lcom/example/alviso/alviso/protocol/ApiKey;" (.ref w_API_VERSIONS)) (S_CREATE_TOPICS : Sta Z h0 "com/example/alviso/alviso/protocol/ApiKey" "CREATE_TOPICS" "Lcom/example/alviso/alviso/protocol/ApiKey;" (.ref w_CREATE_TOPICS)) (S_INIT_PRODUCER_ID : Sta Z h0 "com/example/alviso/alviso/protocol/ApiKey" "INIT_PRODUCER_ID" "Lcom/example/alviso/alviso/protocol/ApiKey;" (.ref w_INIT_PRODUCER_ID)) (S_OFFSET_FOR_LEADER_EPOCH : Sta Z h0 "com/example/alviso/alviso/protocol/ApiKey" "OFFSET_FOR_LEADER_EPOCH" "Lcom/example/alviso/alviso/protocol/ApiKey;" (.ref w_OFFSET_FOR_LEADER_EPOCH)) (S_DESCRIBE_CONFIGS : Sta Z h0 "com/example/alviso/alviso/protocol/ApiKey" "DESCRIBE_CONFIGS" "Lcom/example/alviso/alviso/protocol/ApiKey;" (.ref w_DESCRIBE_CONFIGS)) (S_ELECT_LEADERS : Sta Z h0 "com/example/alviso/alviso/protocol/ApiKey" "ELECT_LEADERS" "Lcom/example/alviso/alviso/protocol/ApiKey;" (.ref w_ELECT_LEADERS)) (S_ALTER_PARTITION : Sta Z h0 "com/example/alviso/alviso/protocol/ApiKey" "ALTER_PARTITION" "Lcom/example/alviso/alviso/protocol/ApiKey;" (.ref w_ALTER_PARTITION)) (S_BROKER_REGISTRATION : Sta Z h0 "com/example/alviso/alviso/protocol/ApiKey" "BROKER_REGISTRATION" "Lcom/example/alviso/alviso/protocol/ApiKey;" (.ref w_BROKER_REGISTRATION)) (S_BROKER_HEARTBEAT : Sta Z h0 "com/example/alviso/alviso/protocol/ApiKey" "BROKER_HEARTBEAT" "Lcom/example/alviso/alviso/protocol/ApiKey;" (.ref w_BROKER_HEARTBEAT)) (S_ALLOCATE_PRODUCER_IDS : Sta Z h0 "com/example/alviso/alviso/protocol/ApiKey" "ALLOCATE_PRODUCER_IDS" "Lcom/example/alviso/alviso/protocol/ApiKey;" (.ref w_ALLOCATE_PRODUCER_IDS)) (E_w_PRODUCE : Exa Z h0 w_PRODUCE "com/example/alviso/alviso/protocol/ApiKey") (E_w_FETCH : Exa Z h0 w_FETCH "com/example/alviso/alviso/protocol/ApiKey") (E_w_LIST_OFFSETS : Exa Z h0 w_LIST_OFFSETS "com/example/alviso/alviso/protocol/ApiKey") (E_w_METADATA : Exa Z h0 w_METADATA "com/example/alviso/alviso/protocol/ApiKey") (E_w_OFFSET_COMMIT : Exa Z h0 w_OFFSET_COMMIT "com/example/alviso/alviso/protocol/ApiKey") (E_w_OFFSET_FETCH : Exa Z h0 w_OFFSET_FETCH "com/example/alviso/alviso/protocol/ApiKey") (E_w_FIND_COORDINATOR : Exa Z h0 w_FIND_COORDINATOR "com/example/alviso/alviso/protocol/ApiKey") (E_w_JOIN_GROUP : Exa Z h0 w_JOIN_GROUP "com/example/alviso/alviso/protocol/ApiKey") (E_w_HEARTBEAT : Exa Z h0 w_HEARTBEAT "com/example/alviso/alviso/protocol/ApiKey") (E_w_LEAVE_GROUP : Exa Z h0 w_LEAVE_GROUP "com/example/alviso/alviso/protocol/ApiKey") (E_w_SYNC_GROUP : Exa Z h0 w_SYNC_GROUP "com/example/alviso/alviso/protocol/ApiKey") (E_w_API_VERSIONS : Exa Z h0 w_API_VERSIONS "com/example/alviso/alviso/protocol/ApiKey") (E_w_CREATE_TOPICS : Exa Z h0 w_CREATE_TOPICS "com/example/alviso/alviso/protocol/ApiKey") (E_w_INIT_PRODUCER_ID : Exa Z h0 w_INIT_PRODUCER_ID "com/example/alviso/alviso/protocol/ApiKey") (E_w_OFFSET_FOR_LEADER_EPOCH : Exa Z h0 w_OFFSET_FOR_LEADER_EPOCH "com/example/alviso/alviso/protocol/ApiKey") (E_w_DESCRIBE_CONFIGS : Exa Z h0 w_DESCRIBE_CONFIGS "com/example/alviso/alviso/protocol/ApiKey") (E_w_ELECT_LEADERS : Exa Z h0 w_ELECT_LEADERS "com/example/alviso/alviso/protocol/ApiKey") (E_w_ALTER_PARTITION : Exa Z h0 w_ALTER_PARTITION "com/example/alviso/alviso/protocol/ApiKey") (E_w_BROKER_REGISTRATION : Exa Z h0 w_BROKER_REGISTRATION "com/example/alviso/alviso/protocol/ApiKey") (E_w_BROKER_HEARTBEAT : Exa Z h0 w_BROKER_HEARTBEAT "com/example/alviso/alviso/protocol/ApiKey") (E_w_ALLOCATE_PRODUCER_IDS : Exa Z h0 w_ALLOCATE_PRODUCER_IDS "com/example/alviso/alviso/protocol/ApiKey") (F_firstFlexibleVersion_w_PRODUCE : Fld Z h0 w_PRODUCE "com/example/alviso/alviso/protocol/ApiKey" "firstFlexibleVersion" "S" (.int (9 : Int32))) (F_firstFlexibleVersion_w_FETCH : Fld Z h0 w_FETCH "com/example/alviso/alviso/protocol/ApiKey" "firstFlexibleVersion" "S" (.int (12 : Int32))) (F_firstFlexibleVersion_w_LIST_OFFSETS : Fld Z h0 w_LIST_OFFSETS "com/example/alviso/alviso/protocol/ApiKey" "firstFlexibleVersion" "S" (.int (6 : Int32))) (F_firstFlexibleVersion_w_METADATA : Fld Z h0 w_METADATA "com/example/alviso/alviso/protocol/ApiKey" "firstFlexibleVersion" "S" (.int (9 : Int32))) (F_firstFlexibleVersion_w_OFFSET_COMMIT : Fld Z h0 w_OFFSET_COMMIT "com/example/alviso/alviso/protocol/ApiKey" "firstFlexibleVersion" "S" (.int (8 : Int32))) (F_firstFlexibleVersion_w_OFFSET_FETCH : Fld Z h0 w_OFFSET_FETCH "com/example/alviso/alviso/protocol/ApiKey" "firstFlexibleVersion" "S" (.int (6 : Int32))) (F_firstFlexibleVersion_w_FIND_COORDINATOR : Fld Z h0 w_FIND_COORDINATOR "com/example/alviso/alviso/protocol/ApiKey" "firstFlexibleVersion" "S" (.int (3 : Int32))) (F_firstFlexibleVersion_w_JOIN_GROUP : Fld Z h0 w_JOIN_GROUP "com/example/alviso/alviso/protocol/ApiKey" "firstFlexibleVersion" "S" (.int (6 : Int32))) (F_firstFlexibleVersion_w_HEARTBEAT : Fld Z h0 w_HEARTBEAT "com/example/alviso/alviso/protocol/ApiKey" "firstFlexibleVersion" "S" (.int (4 : Int32))) (F_firstFlexibleVersion_w_LEAVE_GROUP : Fld Z h0 w_LEAVE_GROUP "com/example/alviso/alviso/protocol/ApiKey" "firstFlexibleVersion" "S" (.int (4 : Int32))) (F_firstFlexibleVersion_w_SYNC_GROUP : Fld Z h0 w_SYNC_GROUP "com/example/alviso/alviso/protocol/ApiKey" "firstFlexibleVersion" "S" (.int (4 : Int32))) (F_firstFlexibleVersion_w_API_VERSIONS : Fld Z h0 w_API_VERSIONS "com/example/alviso/alviso/protocol/ApiKey" "firstFlexibleVersion" "S" (.int (3 : Int32))) (F_firstFlexibleVersion_w_CREATE_TOPICS : Fld Z h0 w_CREATE_TOPICS "com/example/alviso/alviso/protocol/ApiKey" "firstFlexibleVersion" "S" (.int (5 : Int32))) (F_firstFlexibleVersion_w_INIT_PRODUCER_ID : Fld Z h0 w_INIT_PRODUCER_ID "com/example/alviso/alviso/protocol/ApiKey" "firstFlexibleVersion" "S" (.int (2 : Int32))) (F_firstFlexibleVersion_w_OFFSET_FOR_LEADER_EPOCH : Fld Z h0 w_OFFSET_FOR_LEADER_EPOCH "com/example/alviso/alviso/protocol/ApiKey" "firstFlexibleVersion" "S" (.int (4 : Int32))) (F_firstFlexibleVersion_w_DESCRIBE_CONFIGS : Fld Z h0 w_DESCRIBE_CONFIGS "com/example/alviso/alviso/protocol/ApiKey" "firstFlexibleVersion" "S" (.int (4 : Int32))) (F_firstFlexibleVersion_w_ELECT_LEADERS : Fld Z h0 w_ELECT_LEADERS "com/example/alviso/alviso/protocol/ApiKey" "firstFlexibleVersion" "S" (.int (2 : Int32))) (F_firstFlexibleVersion_w_ALTER_PARTITION : Fld Z h0 w_ALTER_PARTITION "com/example/alviso/alviso/protocol/ApiKey" "firstFlexibleVersion" "S" (.int (0 : Int32))) (F_firstFlexibleVersion_w_BROKER_REGISTRATION : Fld Z h0 w_BROKER_REGISTRATION "com/example/alviso/alviso/protocol/ApiKey" "firstFlexibleVersion" "S" (.int (0 : Int32))) (F_firstFlexibleVersion_w_BROKER_HEARTBEAT : Fld Z h0 w_BROKER_HEARTBEAT "com/example/alviso/alviso/protocol/ApiKey" "firstFlexibleVersion" "S" (.int (0 : Int32))) (F_firstFlexibleVersion_w_ALLOCATE_PRODUCER_IDS : Fld Z h0 w_ALLOCATE_PRODUCER_IDS "com/example/alviso/alviso/protocol/ApiKey" "firstFlexibleVersion" "S" (.int (0 : Int32))) :
    MetFree l x (head1 (Jvm.Cond.code x code maxLocals ret :: ws) room_1) (fun a U => a = #[(.int p1), (.int p2)] ∧ Z.Warmed39 U.vm ∧ U.heap = h0) (fun _ _ _ _ _ => True) (fun _ U o U' => ∃ v L, o = .returned v ∧ Q_rm0 Z p1 p2 w_PRODUCE w_FETCH w_LIST_OFFSETS w_METADATA w_OFFSET_COMMIT w_OFFSET_FETCH w_FIND_COORDINATOR w_JOIN_GROUP w_HEARTBEAT w_LEAVE_GROUP w_SYNC_GROUP w_API_VERSIONS w_CREATE_TOPICS w_INIT_PRODUCER_ID w_OFFSET_FOR_LEADER_EPOCH w_DESCRIBE_CONFIGS w_ELECT_LEADERS w_ALTER_PARTITION w_BROKER_REGISTRATION w_BROKER_HEARTBEAT w_ALLOCATE_PRODUCER_IDS h0 n0 v U'.heap L ∧ FrameEnd U o U' L room_1.cells room_1.slots) := by
  refine MetFree.of_bodySF (plainFor_of_name pn_com_example_alviso_alviso_protocol_ApiKeyIsFlexiblePinLaw) hisR ?_
  intro p e s m args below meth c s₁ Bd hml0 hP hK
  obtain ⟨rfl, hZ, hh⟩ := hP
  have hx := Bd.exec
  have hby := Bd.bytes
  have hml : c.maxLocals = 10 := hml0
  have hown : s.vm.findClass "com/example/alviso/alviso/protocol/ApiKeyIsFlexiblePinLaw" = some m.cls := findClass_of_methodNamed Bd.named
  have hnm := (name_of_methodNamed Bd.named Bd.method).1
  have X0 : Stand p l e room_1 s m #[(.int p1), (.int p2)] below meth c s₁ [] 0 0 := Stand.of_body Bd
  have e0 : s₁.heap = h0 := by rw [← hh, Bd.state]; rfl
  have N0 := Fr.nil n0
  have pre0 : ∀ t, Steps p.tables e below (s₁.setTop (mkF m 0 #[.val (.int p1), .val (.int p2), .unset, .unset, .unset, .unset, .unset, .unset, .unset, .unset] [])) t → Steps p.tables e below (s₁.setTop (entryFrame m #[(.int p1), (.int p2)] maxLocals)) t := fun t k => castTop (ef_rm0 m p1 p2) k
  obtain ⟨_, _, ⟨T1, L1, k1, n1⟩, -, X1, ⟨Lc1, hQ1, l1, y1, z1⟩, st1⟩ := Jvm.LawKit.callS X0 hx (y := (⟨"com/example/alviso/alviso/protocol/ApiKeyIsFlexiblePinLaw", "pick", "(I)Lcom/example/alviso/alviso/protocol/ApiKey;"⟩ : MethodName)) hown (mvT hZ (hw _ (List.mem_of_getElem? (i := 1) rfl))) (mvT hZ (hw _ (List.mem_of_getElem? (i := 2) rfl))) (mvT hZ (hw _ (List.mem_of_getElem? (i := 3) rfl))) (mvT hZ (hw _ (List.mem_of_getElem? (i := 4) rfl))) (by decide) (backOf (W := 0) (rm1 l Z a0 hw [] ((p1 &&& (2147483647 : Int32)) % (21 : Int32)) w_PRODUCE w_FETCH w_LIST_OFFSETS w_METADATA w_OFFSET_COMMIT w_OFFSET_FETCH w_FIND_COORDINATOR w_JOIN_GROUP w_HEARTBEAT w_LEAVE_GROUP w_SYNC_GROUP w_API_VERSIONS w_CREATE_TOPICS w_INIT_PRODUCER_ID w_OFFSET_FOR_LEADER_EPOCH w_DESCRIBE_CONFIGS w_ELECT_LEADERS w_ALTER_PARTITION w_BROKER_REGISTRATION w_BROKER_HEARTBEAT w_ALLOCATE_PRODUCER_IDS h0 n0 Z0 S_PRODUCE S_FETCH S_LIST_OFFSETS S_METADATA S_OFFSET_COMMIT S_OFFSET_FETCH S_FIND_COORDINATOR S_JOIN_GROUP S_HEARTBEAT S_LEAVE_GROUP S_SYNC_GROUP S_API_VERSIONS S_CREATE_TOPICS S_INIT_PRODUCER_ID S_OFFSET_FOR_LEADER_EPOCH S_DESCRIBE_CONFIGS S_ELECT_LEADERS S_ALTER_PARTITION S_BROKER_REGISTRATION S_BROKER_HEARTBEAT S_ALLOCATE_PRODUCER_IDS E_w_PRODUCE E_w_FETCH E_w_LIST_OFFSETS E_w_METADATA E_w_OFFSET_COMMIT E_w_OFFSET_FETCH E_w_FIND_COORDINATOR E_w_JOIN_GROUP E_w_HEARTBEAT E_w_LEAVE_GROUP E_w_SYNC_GROUP E_w_API_VERSIONS E_w_CREATE_TOPICS E_w_INIT_PRODUCER_ID E_w_OFFSET_FOR_LEADER_EPOCH E_w_DESCRIBE_CONFIGS E_w_ELECT_LEADERS E_w_ALTER_PARTITION E_w_BROKER_REGISTRATION E_w_BROKER_HEARTBEAT E_w_ALLOCATE_PRODUCER_IDS F_firstFlexibleVersion_w_PRODUCE F_firstFlexibleVersion_w_FETCH F_firstFlexibleVersion_w_LIST_OFFSETS F_firstFlexibleVersion_w_METADATA F_firstFlexibleVersion_w_OFFSET_COMMIT F_firstFlexibleVersion_w_OFFSET_FETCH F_firstFlexibleVersion_w_FIND_COORDINATOR F_firstFlexibleVersion_w_JOIN_GROUP F_firstFlexibleVersion_w_HEARTBEAT F_firstFlexibleVersion_w_LEAVE_GROUP F_firstFlexibleVersion_w_SYNC_GROUP F_firstFlexibleVersion_w_API_VERSIONS F_firstFlexibleVersion_w_CREATE_TOPICS F_firstFlexibleVersion_w_INIT_PRODUCER_ID F_firstFlexibleVersion_w_OFFSET_FOR_LEADER_EPOCH F_firstFlexibleVersion_w_DESCRIBE_CONFIGS F_firstFlexibleVersion_w_ELECT_LEADERS F_firstFlexibleVersion_w_ALTER_PARTITION F_firstFlexibleVersion_w_BROKER_REGISTRATION F_firstFlexibleVersion_w_BROKER_HEARTBEAT F_firstFlexibleVersion_w_ALLOCATE_PRODUCER_IDS) hZ (hw _ (List.mem_of_getElem? (i := 4) rfl)) (hw _ (List.mem_of_getElem? (i := 3) rfl)) (by decide) (by decide)) (g := (mkF m 9 #[.val (.int p1), .val (.int p2), .val (.int ((p1 &&& (2147483647 : Int32)) % (21 : Int32))), .unset, .unset, .unset, .unset, .unset, .unset, .unset] [(.int ((p1 &&& (2147483647 : Int32)) % (21 : Int32)))])) rfl (by rw [hml]; rfl) (argsL := [(.int ((p1 &&& (2147483647 : Int32)) % (21 : Int32)))]) (rest := []) (lenOf pd__28I_29Lcom_2fexample_2falviso_2falviso_2fprotocol_2fApiKey_3b rfl) rfl (by show 2 * 0 + _ ≤ _; exact Nat.le_of_eq rfl) (hb hby at_9) (fun _ _ => ⟨rfl, e0, (by decide : 0 + 0 ≤ _), (by decide : 0 + 0 ≤ _)⟩)
  dsimp only [Pt.U, Pt.locs, Pt.cells, Pt.slots] at X1 l1 y1 z1 st1 hQ1
  subst l1 y1 z1
  obtain ⟨r_1, rfl, N1q, e1, t1_0, t1_1⟩ := hQ1
  have N1 := Fr.app N0 N1q
  rw [e1] at t1_0 t1_1
  obtain ⟨_, _, ⟨T2, L2, k2, n2⟩, -, X2, ⟨Lc2, hQ2, l2, y2, z2⟩, st2⟩ := Jvm.LawKit.callS X1 hx (y := (⟨"com/example/alviso/alviso/protocol/ApiKeyIsFlexiblePinLaw", "firstFlexible", "(I)I"⟩ : MethodName)) hown (mvT hZ (hw _ (List.mem_of_getElem? (i := 8) rfl))) (mvT hZ (hw _ (List.mem_of_getElem? (i := 9) rfl))) (mvT hZ (hw _ (List.mem_of_getElem? (i := 3) rfl))) (mvT hZ (hw _ (List.mem_of_getElem? (i := 10) rfl))) (by decide) (backOf (W := 0) (rm2 l Z a0 hw [] ((p1 &&& (2147483647 : Int32)) % (21 : Int32)) h0 n0 Z0 (own_m p1).1 (own_m p1).2) hZ (hw _ (List.mem_of_getElem? (i := 10) rfl)) (hw _ (List.mem_of_getElem? (i := 3) rfl)) (by decide) (by decide)) (g := (mkF m 14 #[.val (.int p1), .val (.int p2), .val (.int ((p1 &&& (2147483647 : Int32)) % (21 : Int32))), .val (.ref r_1), .unset, .unset, .unset, .unset, .unset, .unset] [(.int ((p1 &&& (2147483647 : Int32)) % (21 : Int32)))])) rfl (by rw [hml]; rfl) (argsL := [(.int ((p1 &&& (2147483647 : Int32)) % (21 : Int32)))]) (rest := []) (lenOf pd__28I_29I rfl) rfl (by show 2 * 0 + _ ≤ _; exact Nat.le_of_eq rfl) (hb hby at_14) (fun _ _ => ⟨rfl, e1, (by decide : 0 + 1 ≤ _), (by decide : 0 + 21 ≤ _)⟩)
  dsimp only [Pt.U, Pt.locs, Pt.cells, Pt.slots] at X2 l2 y2 z2 st2 hQ2
  subst l2 y2 z2
  obtain ⟨rfl, N2q, K2q⟩ := hQ2
  have N2 := Fr.app N1 N2q
  have K2 : Keep h0 T2.heap [] := (Keep.refl h0 []).trans K2q all0
  have f3 : Fld Z T2.heap r_1 "com/example/alviso/alviso/protocol/ApiKey" "firstFlexibleVersion" "S" (.int (own_ff ((p1 &&& (2147483647 : Int32)) % (21 : Int32)))) := (t1_1.keep K2q nin0)
  have f5 : Exa Z T2.heap r_1 "com/example/alviso/alviso/protocol/ApiKey" := (t1_0.keep K2q)
  obtain ⟨cq4, kq4, q4a, q4b, q4c⟩ := isOf hZ rfl f5
  obtain ⟨_, _, ⟨T4, L4, k4, n4⟩, -, X4, ⟨Lc4, hQ4, l4, y4, z4⟩, st4⟩ := X2.virtualBack hx (y := (⟨"com/example/alviso/alviso/protocol/ApiKey", "isFlexible", "(S)Z"⟩ : MethodName)) (z := (⟨"com/example/alviso/alviso/protocol/ApiKey", "isFlexible", "(S)Z"⟩ : MethodName)) hown (mvT hZ (hw _ (List.mem_of_getElem? (i := 12) rfl))) (mvT hZ (hw _ (List.mem_of_getElem? (i := 13) rfl))) (notFace_of_selects (args := #[]) (mvT hZ (hw _ (List.mem_of_getElem? (i := 15) rfl)))) (mvT hZ (hw _ (List.mem_of_getElem? (i := 15) rfl))) (mvT hZ (hw _ (List.mem_of_getElem? (i := 14) rfl))) (by decide) (backOf (W := 0) (rm3 l Z a0 hw [] r_1 (p2.toInt16.toInt32) (own_ff ((p1 &&& (2147483647 : Int32)) % (21 : Int32))) T2.heap n0 (Nat.le_trans Z0 K2.1) f3) hZ (hw _ (List.mem_of_getElem? (i := 16) rfl)) (hw _ (List.mem_of_getElem? (i := 6) rfl)) (by decide) (by decide)) q4a q4c (g := (mkF m 26 #[.val (.int p1), .val (.int p2), .val (.int ((p1 &&& (2147483647 : Int32)) % (21 : Int32))), .val (.ref r_1), .val (.int (own_ff ((p1 &&& (2147483647 : Int32)) % (21 : Int32)))), .val (.int (p2.toInt16.toInt32)), .unset, .unset, .unset, .unset] [(.int (p2.toInt16.toInt32)), (.ref r_1)])) rfl (by rw [hml]; rfl) (Steps.refl _) (argsL := [(.int (p2.toInt16.toInt32))]) (rest := []) (lenOf pd__28S_29Z rfl) rfl (by show 2 * 0 + _ ≤ _; exact Nat.le_of_eq rfl) (hb hby at_26) (fun _ _ => ⟨rfl, rfl, (by decide : 1 + 0 ≤ _), (by decide : 21 + 0 ≤ _)⟩)
  dsimp only [Pt.U, Pt.locs, Pt.cells, Pt.slots] at X4 l4 y4 z4 st4 hQ4
  subst l4 y4 z4
  obtain ⟨rfl, N4q, e4⟩ := hQ4
  have N4 := Fr.app N2 N4q
  obtain ⟨cq6, kq6, q6a, q6b, q6c⟩ := isOf hZ e4 f5
  obtain ⟨_, _, ⟨T6, L6, k6, n6⟩, -, X6, ⟨Lc6, hQ6, l6, y6, z6⟩, st6⟩ := X4.virtualBack hx (y := (⟨"com/example/alviso/alviso/protocol/ApiKey", "isFlexible", "(S)Z"⟩ : MethodName)) (z := (⟨"com/example/alviso/alviso/protocol/ApiKey", "isFlexible", "(S)Z"⟩ : MethodName)) hown (mvT hZ (hw _ (List.mem_of_getElem? (i := 12) rfl))) (mvT hZ (hw _ (List.mem_of_getElem? (i := 13) rfl))) (notFace_of_selects (args := #[]) (mvT hZ (hw _ (List.mem_of_getElem? (i := 15) rfl)))) (mvT hZ (hw _ (List.mem_of_getElem? (i := 15) rfl))) (mvT hZ (hw _ (List.mem_of_getElem? (i := 14) rfl))) (by decide) (backOf (W := 0) (rm3 l Z a0 hw [] r_1 ((own_ff ((p1 &&& (2147483647 : Int32)) % (21 : Int32))).toInt16.toInt32) (own_ff ((p1 &&& (2147483647 : Int32)) % (21 : Int32))) T2.heap n0 (Nat.le_trans Z0 K2.1) f3) hZ (hw _ (List.mem_of_getElem? (i := 16) rfl)) (hw _ (List.mem_of_getElem? (i := 6) rfl)) (by decide) (by decide)) q6a q6c (g := (mkF m 35 #[.val (.int p1), .val (.int p2), .val (.int ((p1 &&& (2147483647 : Int32)) % (21 : Int32))), .val (.ref r_1), .val (.int (own_ff ((p1 &&& (2147483647 : Int32)) % (21 : Int32)))), .val (.int (p2.toInt16.toInt32)), .val (.int (own_isf (p2.toInt16.toInt32) (own_ff ((p1 &&& (2147483647 : Int32)) % (21 : Int32))))), .unset, .unset, .unset] [(.int ((own_ff ((p1 &&& (2147483647 : Int32)) % (21 : Int32))).toInt16.toInt32)), (.ref r_1)])) rfl (by rw [hml]; rfl) (Steps.refl _) (argsL := [(.int ((own_ff ((p1 &&& (2147483647 : Int32)) % (21 : Int32))).toInt16.toInt32))]) (rest := []) (lenOf pd__28S_29Z rfl) rfl (by show 2 * 0 + _ ≤ _; exact Nat.le_of_eq rfl) (hb hby at_35) (fun _ _ => ⟨rfl, e4, (by decide : 1 + 0 ≤ _), (by decide : 21 + 0 ≤ _)⟩)
  dsimp only [Pt.U, Pt.locs, Pt.cells, Pt.slots] at X6 l6 y6 z6 st6 hQ6
  subst l6 y6 z6
  obtain ⟨rfl, N6q, e6⟩ := hQ6
  have N6 := Fr.app N4 N6q
  obtain ⟨cq7, kq7, q7a, q7b, q7c⟩ := isOf hZ e6 f5
  obtain ⟨_, _, ⟨T7, L7, k7, n7⟩, -, X7, ⟨Lc7, hQ7, l7, y7, z7⟩, st7⟩ := X6.virtualBack hx (y := (⟨"com/example/alviso/alviso/protocol/ApiKey", "isFlexible", "(S)Z"⟩ : MethodName)) (z := (⟨"com/example/alviso/alviso/protocol/ApiKey", "isFlexible", "(S)Z"⟩ : MethodName)) hown (mvT hZ (hw _ (List.mem_of_getElem? (i := 12) rfl))) (mvT hZ (hw _ (List.mem_of_getElem? (i := 13) rfl))) (notFace_of_selects (args := #[]) (mvT hZ (hw _ (List.mem_of_getElem? (i := 15) rfl)))) (mvT hZ (hw _ (List.mem_of_getElem? (i := 15) rfl))) (mvT hZ (hw _ (List.mem_of_getElem? (i := 14) rfl))) (by decide) (backOf (W := 0) (rm3 l Z a0 hw [] r_1 (((own_ff ((p1 &&& (2147483647 : Int32)) % (21 : Int32))) - (1 : Int32)).toInt16.toInt32) (own_ff ((p1 &&& (2147483647 : Int32)) % (21 : Int32))) T2.heap n0 (Nat.le_trans Z0 K2.1) f3) hZ (hw _ (List.mem_of_getElem? (i := 16) rfl)) (hw _ (List.mem_of_getElem? (i := 6) rfl)) (by decide) (by decide)) q7a q7c (g := (mkF m 46 #[.val (.int p1), .val (.int p2), .val (.int ((p1 &&& (2147483647 : Int32)) % (21 : Int32))), .val (.ref r_1), .val (.int (own_ff ((p1 &&& (2147483647 : Int32)) % (21 : Int32)))), .val (.int (p2.toInt16.toInt32)), .val (.int (own_isf (p2.toInt16.toInt32) (own_ff ((p1 &&& (2147483647 : Int32)) % (21 : Int32))))), .val (.int (own_isf ((own_ff ((p1 &&& (2147483647 : Int32)) % (21 : Int32))).toInt16.toInt32) (own_ff ((p1 &&& (2147483647 : Int32)) % (21 : Int32))))), .unset, .unset] [(.int (((own_ff ((p1 &&& (2147483647 : Int32)) % (21 : Int32))) - (1 : Int32)).toInt16.toInt32)), (.ref r_1)])) rfl (by rw [hml]; rfl) (Steps.refl _) (argsL := [(.int (((own_ff ((p1 &&& (2147483647 : Int32)) % (21 : Int32))) - (1 : Int32)).toInt16.toInt32))]) (rest := []) (lenOf pd__28S_29Z rfl) rfl (by show 2 * 0 + _ ≤ _; exact Nat.le_of_eq rfl) (hb hby at_46) (fun _ _ => ⟨rfl, e6, (by decide : 1 + 0 ≤ _), (by decide : 21 + 0 ≤ _)⟩)
  dsimp only [Pt.U, Pt.locs, Pt.cells, Pt.slots] at X7 l7 y7 z7 st7 hQ7
  subst l7 y7 z7
  obtain ⟨rfl, N7q, e7⟩ := hQ7
  have N7 := Fr.app N6 N7q
  have pre8 : ∀ t, Steps p.tables e below (T7.setTop (mkF m 55 #[.val (.int p1), .val (.int p2), .val (.int ((p1 &&& (2147483647 : Int32)) % (21 : Int32))), .val (.ref r_1), .val (.int (own_ff ((p1 &&& (2147483647 : Int32)) % (21 : Int32)))), .val (.int (p2.toInt16.toInt32)), .val (.int (own_isf (p2.toInt16.toInt32) (own_ff ((p1 &&& (2147483647 : Int32)) % (21 : Int32))))), .val (.int (own_isf ((own_ff ((p1 &&& (2147483647 : Int32)) % (21 : Int32))).toInt16.toInt32) (own_ff ((p1 &&& (2147483647 : Int32)) % (21 : Int32))))), .val (.int (own_isf (((own_ff ((p1 &&& (2147483647 : Int32)) % (21 : Int32))) - (1 : Int32)).toInt16.toInt32) (own_ff ((p1 &&& (2147483647 : Int32)) % (21 : Int32))))), .unset] [(.int (own_ff ((p1 &&& (2147483647 : Int32)) % (21 : Int32)))), (.int (p2.toInt16.toInt32))])) t → Steps p.tables e below (s₁.setTop (entryFrame m #[(.int p1), (.int p2)] maxLocals)) t := fun t kt => by
    refine pre0 t ?_
    show Steps p.tables e below (s₁.setTop (mkF m 0 #[.val (.int p1), .val (.int p2), .unset, .unset, .unset, .unset, .unset, .unset, .unset, .unset] [])) _
    refine XS.iloadN X0.here hx rfl (hb hby at_0) rfl ?_
    show Steps p.tables e below (s₁.setTop (mkF m 1 #[.val (.int p1), .val (.int p2), .unset, .unset, .unset, .unset, .unset, .unset, .unset, .unset] [(.int p1)])) _
    refine X0.ldcInt hx hown (mvT hZ (hw _ (List.mem_of_getElem? (i := 0) rfl))) (g := (mkF m 1 #[.val (.int p1), .val (.int p2), .unset, .unset, .unset, .unset, .unset, .unset, .unset, .unset] [(.int p1)])) rfl (hb hby at_1) _ ?_
    show Steps p.tables e below (s₁.setTop (mkF m 3 #[.val (.int p1), .val (.int p2), .unset, .unset, .unset, .unset, .unset, .unset, .unset, .unset] [(.int (2147483647 : Int32)), (.int p1)])) _
    refine XS.iand X0.here hx rfl (hb hby at_3) rfl ?_
    show Steps p.tables e below (s₁.setTop (mkF m 4 #[.val (.int p1), .val (.int p2), .unset, .unset, .unset, .unset, .unset, .unset, .unset, .unset] [(.int (p1 &&& (2147483647 : Int32)))])) _
    refine XS.bipush X0.here hx rfl (hb hby at_4) ?_
    show Steps p.tables e below (s₁.setTop (mkF m 6 #[.val (.int p1), .val (.int p2), .unset, .unset, .unset, .unset, .unset, .unset, .unset, .unset] [(.int (21 : Int32)), (.int (p1 &&& (2147483647 : Int32)))])) _
    refine iremM (g := (mkF m 6 #[.val (.int p1), .val (.int p2), .unset, .unset, .unset, .unset, .unset, .unset, .unset, .unset] [(.int (21 : Int32)), (.int (p1 &&& (2147483647 : Int32)))])) X0 hx rfl (hb hby at_6) rfl (by decide) ?_
    show Steps p.tables e below (s₁.setTop (mkF m 7 #[.val (.int p1), .val (.int p2), .unset, .unset, .unset, .unset, .unset, .unset, .unset, .unset] [(.int ((p1 &&& (2147483647 : Int32)) % (21 : Int32)))])) _
    refine XS.istoreN X0.here hx rfl (hb hby at_7) rfl (l' := #[.val (.int p1), .val (.int p2), .val (.int ((p1 &&& (2147483647 : Int32)) % (21 : Int32))), .unset, .unset, .unset, .unset, .unset, .unset, .unset]) rfl ?_
    show Steps p.tables e below (s₁.setTop (mkF m 8 #[.val (.int p1), .val (.int p2), .val (.int ((p1 &&& (2147483647 : Int32)) % (21 : Int32))), .unset, .unset, .unset, .unset, .unset, .unset, .unset] [])) _
    refine XS.iloadN X0.here hx rfl (hb hby at_8) rfl ?_
    show Steps p.tables e below (s₁.setTop (mkF m 9 #[.val (.int p1), .val (.int p2), .val (.int ((p1 &&& (2147483647 : Int32)) % (21 : Int32))), .unset, .unset, .unset, .unset, .unset, .unset, .unset] [(.int ((p1 &&& (2147483647 : Int32)) % (21 : Int32)))])) _
    refine st1 _ ?_
    show Steps p.tables e below (T1.setTop (mkF m 12 #[.val (.int p1), .val (.int p2), .val (.int ((p1 &&& (2147483647 : Int32)) % (21 : Int32))), .unset, .unset, .unset, .unset, .unset, .unset, .unset] [(.ref r_1)])) _
    refine XS.astoreN X1.here hx rfl (hb hby at_12) rfl rfl (l' := #[.val (.int p1), .val (.int p2), .val (.int ((p1 &&& (2147483647 : Int32)) % (21 : Int32))), .val (.ref r_1), .unset, .unset, .unset, .unset, .unset, .unset]) rfl ?_
    show Steps p.tables e below (T1.setTop (mkF m 13 #[.val (.int p1), .val (.int p2), .val (.int ((p1 &&& (2147483647 : Int32)) % (21 : Int32))), .val (.ref r_1), .unset, .unset, .unset, .unset, .unset, .unset] [])) _
    refine XS.iloadN X1.here hx rfl (hb hby at_13) rfl ?_
    show Steps p.tables e below (T1.setTop (mkF m 14 #[.val (.int p1), .val (.int p2), .val (.int ((p1 &&& (2147483647 : Int32)) % (21 : Int32))), .val (.ref r_1), .unset, .unset, .unset, .unset, .unset, .unset] [(.int ((p1 &&& (2147483647 : Int32)) % (21 : Int32)))])) _
    refine st2 _ ?_
    show Steps p.tables e below (T2.setTop (mkF m 17 #[.val (.int p1), .val (.int p2), .val (.int ((p1 &&& (2147483647 : Int32)) % (21 : Int32))), .val (.ref r_1), .unset, .unset, .unset, .unset, .unset, .unset] [(.int (own_ff ((p1 &&& (2147483647 : Int32)) % (21 : Int32))))])) _
    refine XS.istore X2.here hx rfl (hb hby at_17) rfl (l' := #[.val (.int p1), .val (.int p2), .val (.int ((p1 &&& (2147483647 : Int32)) % (21 : Int32))), .val (.ref r_1), .val (.int (own_ff ((p1 &&& (2147483647 : Int32)) % (21 : Int32)))), .unset, .unset, .unset, .unset, .unset]) rfl ?_
    show Steps p.tables e below (T2.setTop (mkF m 19 #[.val (.int p1), .val (.int p2), .val (.int ((p1 &&& (2147483647 : Int32)) % (21 : Int32))), .val (.ref r_1), .val (.int (own_ff ((p1 &&& (2147483647 : Int32)) % (21 : Int32)))), .unset, .unset, .unset, .unset, .unset] [])) _
    refine XS.iloadN X2.here hx rfl (hb hby at_19) rfl ?_
    show Steps p.tables e below (T2.setTop (mkF m 20 #[.val (.int p1), .val (.int p2), .val (.int ((p1 &&& (2147483647 : Int32)) % (21 : Int32))), .val (.ref r_1), .val (.int (own_ff ((p1 &&& (2147483647 : Int32)) % (21 : Int32)))), .unset, .unset, .unset, .unset, .unset] [(.int p2)])) _
    refine XS.i2s X2.here hx rfl (hb hby at_20) rfl ?_
    show Steps p.tables e below (T2.setTop (mkF m 21 #[.val (.int p1), .val (.int p2), .val (.int ((p1 &&& (2147483647 : Int32)) % (21 : Int32))), .val (.ref r_1), .val (.int (own_ff ((p1 &&& (2147483647 : Int32)) % (21 : Int32)))), .unset, .unset, .unset, .unset, .unset] [(.int (p2.toInt16.toInt32))])) _
    refine XS.istore X2.here hx rfl (hb hby at_21) rfl (l' := #[.val (.int p1), .val (.int p2), .val (.int ((p1 &&& (2147483647 : Int32)) % (21 : Int32))), .val (.ref r_1), .val (.int (own_ff ((p1 &&& (2147483647 : Int32)) % (21 : Int32)))), .val (.int (p2.toInt16.toInt32)), .unset, .unset, .unset, .unset]) rfl ?_
    show Steps p.tables e below (T2.setTop (mkF m 23 #[.val (.int p1), .val (.int p2), .val (.int ((p1 &&& (2147483647 : Int32)) % (21 : Int32))), .val (.ref r_1), .val (.int (own_ff ((p1 &&& (2147483647 : Int32)) % (21 : Int32)))), .val (.int (p2.toInt16.toInt32)), .unset, .unset, .unset, .unset] [])) _
    refine XS.aloadN X2.here hx rfl (hb hby at_23) rfl rfl ?_
    show Steps p.tables e below (T2.setTop (mkF m 24 #[.val (.int p1), .val (.int p2), .val (.int ((p1 &&& (2147483647 : Int32)) % (21 : Int32))), .val (.ref r_1), .val (.int (own_ff ((p1 &&& (2147483647 : Int32)) % (21 : Int32)))), .val (.int (p2.toInt16.toInt32)), .unset, .unset, .unset, .unset] [(.ref r_1)])) _
    refine XS.iload X2.here hx rfl (hb hby at_24) rfl ?_
    show Steps p.tables e below (T2.setTop (mkF m 26 #[.val (.int p1), .val (.int p2), .val (.int ((p1 &&& (2147483647 : Int32)) % (21 : Int32))), .val (.ref r_1), .val (.int (own_ff ((p1 &&& (2147483647 : Int32)) % (21 : Int32)))), .val (.int (p2.toInt16.toInt32)), .unset, .unset, .unset, .unset] [(.int (p2.toInt16.toInt32)), (.ref r_1)])) _
    refine st4.trans ?_
    show Steps p.tables e below (T4.setTop (mkF m 29 #[.val (.int p1), .val (.int p2), .val (.int ((p1 &&& (2147483647 : Int32)) % (21 : Int32))), .val (.ref r_1), .val (.int (own_ff ((p1 &&& (2147483647 : Int32)) % (21 : Int32)))), .val (.int (p2.toInt16.toInt32)), .unset, .unset, .unset, .unset] [(.int (own_isf (p2.toInt16.toInt32) (own_ff ((p1 &&& (2147483647 : Int32)) % (21 : Int32)))))])) _
    refine XS.istore X4.here hx rfl (hb hby at_29) rfl (l' := #[.val (.int p1), .val (.int p2), .val (.int ((p1 &&& (2147483647 : Int32)) % (21 : Int32))), .val (.ref r_1), .val (.int (own_ff ((p1 &&& (2147483647 : Int32)) % (21 : Int32)))), .val (.int (p2.toInt16.toInt32)), .val (.int (own_isf (p2.toInt16.toInt32) (own_ff ((p1 &&& (2147483647 : Int32)) % (21 : Int32))))), .unset, .unset, .unset]) rfl ?_
    show Steps p.tables e below (T4.setTop (mkF m 31 #[.val (.int p1), .val (.int p2), .val (.int ((p1 &&& (2147483647 : Int32)) % (21 : Int32))), .val (.ref r_1), .val (.int (own_ff ((p1 &&& (2147483647 : Int32)) % (21 : Int32)))), .val (.int (p2.toInt16.toInt32)), .val (.int (own_isf (p2.toInt16.toInt32) (own_ff ((p1 &&& (2147483647 : Int32)) % (21 : Int32))))), .unset, .unset, .unset] [])) _
    refine XS.aloadN X4.here hx rfl (hb hby at_31) rfl rfl ?_
    show Steps p.tables e below (T4.setTop (mkF m 32 #[.val (.int p1), .val (.int p2), .val (.int ((p1 &&& (2147483647 : Int32)) % (21 : Int32))), .val (.ref r_1), .val (.int (own_ff ((p1 &&& (2147483647 : Int32)) % (21 : Int32)))), .val (.int (p2.toInt16.toInt32)), .val (.int (own_isf (p2.toInt16.toInt32) (own_ff ((p1 &&& (2147483647 : Int32)) % (21 : Int32))))), .unset, .unset, .unset] [(.ref r_1)])) _
    refine XS.iload X4.here hx rfl (hb hby at_32) rfl ?_
    show Steps p.tables e below (T4.setTop (mkF m 34 #[.val (.int p1), .val (.int p2), .val (.int ((p1 &&& (2147483647 : Int32)) % (21 : Int32))), .val (.ref r_1), .val (.int (own_ff ((p1 &&& (2147483647 : Int32)) % (21 : Int32)))), .val (.int (p2.toInt16.toInt32)), .val (.int (own_isf (p2.toInt16.toInt32) (own_ff ((p1 &&& (2147483647 : Int32)) % (21 : Int32))))), .unset, .unset, .unset] [(.int (own_ff ((p1 &&& (2147483647 : Int32)) % (21 : Int32)))), (.ref r_1)])) _
    refine XS.i2s X4.here hx rfl (hb hby at_34) rfl ?_
    show Steps p.tables e below (T4.setTop (mkF m 35 #[.val (.int p1), .val (.int p2), .val (.int ((p1 &&& (2147483647 : Int32)) % (21 : Int32))), .val (.ref r_1), .val (.int (own_ff ((p1 &&& (2147483647 : Int32)) % (21 : Int32)))), .val (.int (p2.toInt16.toInt32)), .val (.int (own_isf (p2.toInt16.toInt32) (own_ff ((p1 &&& (2147483647 : Int32)) % (21 : Int32))))), .unset, .unset, .unset] [(.int ((own_ff ((p1 &&& (2147483647 : Int32)) % (21 : Int32))).toInt16.toInt32)), (.ref r_1)])) _
    refine st6.trans ?_
    show Steps p.tables e below (T6.setTop (mkF m 38 #[.val (.int p1), .val (.int p2), .val (.int ((p1 &&& (2147483647 : Int32)) % (21 : Int32))), .val (.ref r_1), .val (.int (own_ff ((p1 &&& (2147483647 : Int32)) % (21 : Int32)))), .val (.int (p2.toInt16.toInt32)), .val (.int (own_isf (p2.toInt16.toInt32) (own_ff ((p1 &&& (2147483647 : Int32)) % (21 : Int32))))), .unset, .unset, .unset] [(.int (own_isf ((own_ff ((p1 &&& (2147483647 : Int32)) % (21 : Int32))).toInt16.toInt32) (own_ff ((p1 &&& (2147483647 : Int32)) % (21 : Int32)))))])) _
    refine XS.istore X6.here hx rfl (hb hby at_38) rfl (l' := #[.val (.int p1), .val (.int p2), .val (.int ((p1 &&& (2147483647 : Int32)) % (21 : Int32))), .val (.ref r_1), .val (.int (own_ff ((p1 &&& (2147483647 : Int32)) % (21 : Int32)))), .val (.int (p2.toInt16.toInt32)), .val (.int (own_isf (p2.toInt16.toInt32) (own_ff ((p1 &&& (2147483647 : Int32)) % (21 : Int32))))), .val (.int (own_isf ((own_ff ((p1 &&& (2147483647 : Int32)) % (21 : Int32))).toInt16.toInt32) (own_ff ((p1 &&& (2147483647 : Int32)) % (21 : Int32))))), .unset, .unset]) rfl ?_
    show Steps p.tables e below (T6.setTop (mkF m 40 #[.val (.int p1), .val (.int p2), .val (.int ((p1 &&& (2147483647 : Int32)) % (21 : Int32))), .val (.ref r_1), .val (.int (own_ff ((p1 &&& (2147483647 : Int32)) % (21 : Int32)))), .val (.int (p2.toInt16.toInt32)), .val (.int (own_isf (p2.toInt16.toInt32) (own_ff ((p1 &&& (2147483647 : Int32)) % (21 : Int32))))), .val (.int (own_isf ((own_ff ((p1 &&& (2147483647 : Int32)) % (21 : Int32))).toInt16.toInt32) (own_ff ((p1 &&& (2147483647 : Int32)) % (21 : Int32))))), .unset, .unset] [])) _
    refine XS.aloadN X6.here hx rfl (hb hby at_40) rfl rfl ?_
    show Steps p.tables e below (T6.setTop (mkF m 41 #[.val (.int p1), .val (.int p2), .val (.int ((p1 &&& (2147483647 : Int32)) % (21 : Int32))), .val (.ref r_1), .val (.int (own_ff ((p1 &&& (2147483647 : Int32)) % (21 : Int32)))), .val (.int (p2.toInt16.toInt32)), .val (.int (own_isf (p2.toInt16.toInt32) (own_ff ((p1 &&& (2147483647 : Int32)) % (21 : Int32))))), .val (.int (own_isf ((own_ff ((p1 &&& (2147483647 : Int32)) % (21 : Int32))).toInt16.toInt32) (own_ff ((p1 &&& (2147483647 : Int32)) % (21 : Int32))))), .unset, .unset] [(.ref r_1)])) _
    refine XS.iload X6.here hx rfl (hb hby at_41) rfl ?_
    show Steps p.tables e below (T6.setTop (mkF m 43 #[.val (.int p1), .val (.int p2), .val (.int ((p1 &&& (2147483647 : Int32)) % (21 : Int32))), .val (.ref r_1), .val (.int (own_ff ((p1 &&& (2147483647 : Int32)) % (21 : Int32)))), .val (.int (p2.toInt16.toInt32)), .val (.int (own_isf (p2.toInt16.toInt32) (own_ff ((p1 &&& (2147483647 : Int32)) % (21 : Int32))))), .val (.int (own_isf ((own_ff ((p1 &&& (2147483647 : Int32)) % (21 : Int32))).toInt16.toInt32) (own_ff ((p1 &&& (2147483647 : Int32)) % (21 : Int32))))), .unset, .unset] [(.int (own_ff ((p1 &&& (2147483647 : Int32)) % (21 : Int32)))), (.ref r_1)])) _
    refine XS.iconst X6.here hx rfl (hb hby at_43) ?_
    show Steps p.tables e below (T6.setTop (mkF m 44 #[.val (.int p1), .val (.int p2), .val (.int ((p1 &&& (2147483647 : Int32)) % (21 : Int32))), .val (.ref r_1), .val (.int (own_ff ((p1 &&& (2147483647 : Int32)) % (21 : Int32)))), .val (.int (p2.toInt16.toInt32)), .val (.int (own_isf (p2.toInt16.toInt32) (own_ff ((p1 &&& (2147483647 : Int32)) % (21 : Int32))))), .val (.int (own_isf ((own_ff ((p1 &&& (2147483647 : Int32)) % (21 : Int32))).toInt16.toInt32) (own_ff ((p1 &&& (2147483647 : Int32)) % (21 : Int32))))), .unset, .unset] [(.int (1 : Int32)), (.int (own_ff ((p1 &&& (2147483647 : Int32)) % (21 : Int32)))), (.ref r_1)])) _
    refine XS.isub X6.here hx rfl (hb hby at_44) rfl ?_
    show Steps p.tables e below (T6.setTop (mkF m 45 #[.val (.int p1), .val (.int p2), .val (.int ((p1 &&& (2147483647 : Int32)) % (21 : Int32))), .val (.ref r_1), .val (.int (own_ff ((p1 &&& (2147483647 : Int32)) % (21 : Int32)))), .val (.int (p2.toInt16.toInt32)), .val (.int (own_isf (p2.toInt16.toInt32) (own_ff ((p1 &&& (2147483647 : Int32)) % (21 : Int32))))), .val (.int (own_isf ((own_ff ((p1 &&& (2147483647 : Int32)) % (21 : Int32))).toInt16.toInt32) (own_ff ((p1 &&& (2147483647 : Int32)) % (21 : Int32))))), .unset, .unset] [(.int ((own_ff ((p1 &&& (2147483647 : Int32)) % (21 : Int32))) - (1 : Int32))), (.ref r_1)])) _
    refine XS.i2s X6.here hx rfl (hb hby at_45) rfl ?_
    show Steps p.tables e below (T6.setTop (mkF m 46 #[.val (.int p1), .val (.int p2), .val (.int ((p1 &&& (2147483647 : Int32)) % (21 : Int32))), .val (.ref r_1), .val (.int (own_ff ((p1 &&& (2147483647 : Int32)) % (21 : Int32)))), .val (.int (p2.toInt16.toInt32)), .val (.int (own_isf (p2.toInt16.toInt32) (own_ff ((p1 &&& (2147483647 : Int32)) % (21 : Int32))))), .val (.int (own_isf ((own_ff ((p1 &&& (2147483647 : Int32)) % (21 : Int32))).toInt16.toInt32) (own_ff ((p1 &&& (2147483647 : Int32)) % (21 : Int32))))), .unset, .unset] [(.int (((own_ff ((p1 &&& (2147483647 : Int32)) % (21 : Int32))) - (1 : Int32)).toInt16.toInt32)), (.ref r_1)])) _
    refine st7.trans ?_
    show Steps p.tables e below (T7.setTop (mkF m 49 #[.val (.int p1), .val (.int p2), .val (.int ((p1 &&& (2147483647 : Int32)) % (21 : Int32))), .val (.ref r_1), .val (.int (own_ff ((p1 &&& (2147483647 : Int32)) % (21 : Int32)))), .val (.int (p2.toInt16.toInt32)), .val (.int (own_isf (p2.toInt16.toInt32) (own_ff ((p1 &&& (2147483647 : Int32)) % (21 : Int32))))), .val (.int (own_isf ((own_ff ((p1 &&& (2147483647 : Int32)) % (21 : Int32))).toInt16.toInt32) (own_ff ((p1 &&& (2147483647 : Int32)) % (21 : Int32))))), .unset, .unset] [(.int (own_isf (((own_ff ((p1 &&& (2147483647 : Int32)) % (21 : Int32))) - (1 : Int32)).toInt16.toInt32) (own_ff ((p1 &&& (2147483647 : Int32)) % (21 : Int32)))))])) _
    refine XS.istore X7.here hx rfl (hb hby at_49) rfl (l' := #[.val (.int p1), .val (.int p2), .val (.int ((p1 &&& (2147483647 : Int32)) % (21 : Int32))), .val (.ref r_1), .val (.int (own_ff ((p1 &&& (2147483647 : Int32)) % (21 : Int32)))), .val (.int (p2.toInt16.toInt32)), .val (.int (own_isf (p2.toInt16.toInt32) (own_ff ((p1 &&& (2147483647 : Int32)) % (21 : Int32))))), .val (.int (own_isf ((own_ff ((p1 &&& (2147483647 : Int32)) % (21 : Int32))).toInt16.toInt32) (own_ff ((p1 &&& (2147483647 : Int32)) % (21 : Int32))))), .val (.int (own_isf (((own_ff ((p1 &&& (2147483647 : Int32)) % (21 : Int32))) - (1 : Int32)).toInt16.toInt32) (own_ff ((p1 &&& (2147483647 : Int32)) % (21 : Int32))))), .unset]) rfl ?_
    show Steps p.tables e below (T7.setTop (mkF m 51 #[.val (.int p1), .val (.int p2), .val (.int ((p1 &&& (2147483647 : Int32)) % (21 : Int32))), .val (.ref r_1), .val (.int (own_ff ((p1 &&& (2147483647 : Int32)) % (21 : Int32)))), .val (.int (p2.toInt16.toInt32)), .val (.int (own_isf (p2.toInt16.toInt32) (own_ff ((p1 &&& (2147483647 : Int32)) % (21 : Int32))))), .val (.int (own_isf ((own_ff ((p1 &&& (2147483647 : Int32)) % (21 : Int32))).toInt16.toInt32) (own_ff ((p1 &&& (2147483647 : Int32)) % (21 : Int32))))), .val (.int (own_isf (((own_ff ((p1 &&& (2147483647 : Int32)) % (21 : Int32))) - (1 : Int32)).toInt16.toInt32) (own_ff ((p1 &&& (2147483647 : Int32)) % (21 : Int32))))), .unset] [])) _
    refine XS.iload X7.here hx rfl (hb hby at_51) rfl ?_
    show Steps p.tables e below (T7.setTop (mkF m 53 #[.val (.int p1), .val (.int p2), .val (.int ((p1 &&& (2147483647 : Int32)) % (21 : Int32))), .val (.ref r_1), .val (.int (own_ff ((p1 &&& (2147483647 : Int32)) % (21 : Int32)))), .val (.int (p2.toInt16.toInt32)), .val (.int (own_isf (p2.toInt16.toInt32) (own_ff ((p1 &&& (2147483647 : Int32)) % (21 : Int32))))), .val (.int (own_isf ((own_ff ((p1 &&& (2147483647 : Int32)) % (21 : Int32))).toInt16.toInt32) (own_ff ((p1 &&& (2147483647 : Int32)) % (21 : Int32))))), .val (.int (own_isf (((own_ff ((p1 &&& (2147483647 : Int32)) % (21 : Int32))) - (1 : Int32)).toInt16.toInt32) (own_ff ((p1 &&& (2147483647 : Int32)) % (21 : Int32))))), .unset] [(.int (p2.toInt16.toInt32))])) _
    refine XS.iload X7.here hx rfl (hb hby at_53) rfl ?_
    exact kt
  by_cases hE : (p2.toInt16.toInt32) < (own_ff ((p1 &&& (2147483647 : Int32)) % (21 : Int32)))
  · obtain ⟨fs, hr, hrun, hended, hW, hsame⟩ := X7.leave (v := some (.int (1 : Int32))) (fun h => by rw [Bd.returns] at h; cases h)
    refine ⟨_, _, pre8 _ ?_, hrun, hended, _, _, rfl, ?_, ⟨_, rfl⟩, hW, hsame.mono (by decide) (by decide)⟩
    · show Steps p.tables e below (T7.setTop (mkF m 55 #[.val (.int p1), .val (.int p2), .val (.int ((p1 &&& (2147483647 : Int32)) % (21 : Int32))), .val (.ref r_1), .val (.int (own_ff ((p1 &&& (2147483647 : Int32)) % (21 : Int32)))), .val (.int (p2.toInt16.toInt32)), .val (.int (own_isf (p2.toInt16.toInt32) (own_ff ((p1 &&& (2147483647 : Int32)) % (21 : Int32))))), .val (.int (own_isf ((own_ff ((p1 &&& (2147483647 : Int32)) % (21 : Int32))).toInt16.toInt32) (own_ff ((p1 &&& (2147483647 : Int32)) % (21 : Int32))))), .val (.int (own_isf (((own_ff ((p1 &&& (2147483647 : Int32)) % (21 : Int32))) - (1 : Int32)).toInt16.toInt32) (own_ff ((p1 &&& (2147483647 : Int32)) % (21 : Int32))))), .unset] [(.int (own_ff ((p1 &&& (2147483647 : Int32)) % (21 : Int32)))), (.int (p2.toInt16.toInt32))])) _
      refine XS.icmpYes X7.here hx rfl (pc0 := 55) (pc' := 62) rfl (hb hby at_55) rfl (tlt hE).1 (by decide) (by decide) ?_
      show Steps p.tables e below (T7.setTop (mkF m 62 #[.val (.int p1), .val (.int p2), .val (.int ((p1 &&& (2147483647 : Int32)) % (21 : Int32))), .val (.ref r_1), .val (.int (own_ff ((p1 &&& (2147483647 : Int32)) % (21 : Int32)))), .val (.int (p2.toInt16.toInt32)), .val (.int (own_isf (p2.toInt16.toInt32) (own_ff ((p1 &&& (2147483647 : Int32)) % (21 : Int32))))), .val (.int (own_isf ((own_ff ((p1 &&& (2147483647 : Int32)) % (21 : Int32))).toInt16.toInt32) (own_ff ((p1 &&& (2147483647 : Int32)) % (21 : Int32))))), .val (.int (own_isf (((own_ff ((p1 &&& (2147483647 : Int32)) % (21 : Int32))) - (1 : Int32)).toInt16.toInt32) (own_ff ((p1 &&& (2147483647 : Int32)) % (21 : Int32))))), .unset] [])) _
      refine XS.iconst X7.here hx rfl (hb hby at_62) ?_
      show Steps p.tables e below (T7.setTop (mkF m 63 #[.val (.int p1), .val (.int p2), .val (.int ((p1 &&& (2147483647 : Int32)) % (21 : Int32))), .val (.ref r_1), .val (.int (own_ff ((p1 &&& (2147483647 : Int32)) % (21 : Int32)))), .val (.int (p2.toInt16.toInt32)), .val (.int (own_isf (p2.toInt16.toInt32) (own_ff ((p1 &&& (2147483647 : Int32)) % (21 : Int32))))), .val (.int (own_isf ((own_ff ((p1 &&& (2147483647 : Int32)) % (21 : Int32))).toInt16.toInt32) (own_ff ((p1 &&& (2147483647 : Int32)) % (21 : Int32))))), .val (.int (own_isf (((own_ff ((p1 &&& (2147483647 : Int32)) % (21 : Int32))) - (1 : Int32)).toInt16.toInt32) (own_ff ((p1 &&& (2147483647 : Int32)) % (21 : Int32))))), .unset] [(.int (0 : Int32))])) _
      refine XS.istore X7.here hx rfl (hb hby at_63) rfl (l' := #[.val (.int p1), .val (.int p2), .val (.int ((p1 &&& (2147483647 : Int32)) % (21 : Int32))), .val (.ref r_1), .val (.int (own_ff ((p1 &&& (2147483647 : Int32)) % (21 : Int32)))), .val (.int (p2.toInt16.toInt32)), .val (.int (own_isf (p2.toInt16.toInt32) (own_ff ((p1 &&& (2147483647 : Int32)) % (21 : Int32))))), .val (.int (own_isf ((own_ff ((p1 &&& (2147483647 : Int32)) % (21 : Int32))).toInt16.toInt32) (own_ff ((p1 &&& (2147483647 : Int32)) % (21 : Int32))))), .val (.int (own_isf (((own_ff ((p1 &&& (2147483647 : Int32)) % (21 : Int32))) - (1 : Int32)).toInt16.toInt32) (own_ff ((p1 &&& (2147483647 : Int32)) % (21 : Int32))))), .val (.int (0 : Int32))]) rfl ?_
      show Steps p.tables e below (T7.setTop (mkF m 65 #[.val (.int p1), .val (.int p2), .val (.int ((p1 &&& (2147483647 : Int32)) % (21 : Int32))), .val (.ref r_1), .val (.int (own_ff ((p1 &&& (2147483647 : Int32)) % (21 : Int32)))), .val (.int (p2.toInt16.toInt32)), .val (.int (own_isf (p2.toInt16.toInt32) (own_ff ((p1 &&& (2147483647 : Int32)) % (21 : Int32))))), .val (.int (own_isf ((own_ff ((p1 &&& (2147483647 : Int32)) % (21 : Int32))).toInt16.toInt32) (own_ff ((p1 &&& (2147483647 : Int32)) % (21 : Int32))))), .val (.int (own_isf (((own_ff ((p1 &&& (2147483647 : Int32)) % (21 : Int32))) - (1 : Int32)).toInt16.toInt32) (own_ff ((p1 &&& (2147483647 : Int32)) % (21 : Int32))))), .val (.int (0 : Int32))] [])) _
      refine XS.iload X7.here hx rfl (hb hby at_65) rfl ?_
      show Steps p.tables e below (T7.setTop (mkF m 67 #[.val (.int p1), .val (.int p2), .val (.int ((p1 &&& (2147483647 : Int32)) % (21 : Int32))), .val (.ref r_1), .val (.int (own_ff ((p1 &&& (2147483647 : Int32)) % (21 : Int32)))), .val (.int (p2.toInt16.toInt32)), .val (.int (own_isf (p2.toInt16.toInt32) (own_ff ((p1 &&& (2147483647 : Int32)) % (21 : Int32))))), .val (.int (own_isf ((own_ff ((p1 &&& (2147483647 : Int32)) % (21 : Int32))).toInt16.toInt32) (own_ff ((p1 &&& (2147483647 : Int32)) % (21 : Int32))))), .val (.int (own_isf (((own_ff ((p1 &&& (2147483647 : Int32)) % (21 : Int32))) - (1 : Int32)).toInt16.toInt32) (own_ff ((p1 &&& (2147483647 : Int32)) % (21 : Int32))))), .val (.int (0 : Int32))] [(.int (own_isf (p2.toInt16.toInt32) (own_ff ((p1 &&& (2147483647 : Int32)) % (21 : Int32)))))])) _
      refine XS.iload X7.here hx rfl (hb hby at_67) rfl ?_
      show Steps p.tables e below (T7.setTop (mkF m 69 #[.val (.int p1), .val (.int p2), .val (.int ((p1 &&& (2147483647 : Int32)) % (21 : Int32))), .val (.ref r_1), .val (.int (own_ff ((p1 &&& (2147483647 : Int32)) % (21 : Int32)))), .val (.int (p2.toInt16.toInt32)), .val (.int (own_isf (p2.toInt16.toInt32) (own_ff ((p1 &&& (2147483647 : Int32)) % (21 : Int32))))), .val (.int (own_isf ((own_ff ((p1 &&& (2147483647 : Int32)) % (21 : Int32))).toInt16.toInt32) (own_ff ((p1 &&& (2147483647 : Int32)) % (21 : Int32))))), .val (.int (own_isf (((own_ff ((p1 &&& (2147483647 : Int32)) % (21 : Int32))) - (1 : Int32)).toInt16.toInt32) (own_ff ((p1 &&& (2147483647 : Int32)) % (21 : Int32))))), .val (.int (0 : Int32))] [(.int (0 : Int32)), (.int (own_isf (p2.toInt16.toInt32) (own_ff ((p1 &&& (2147483647 : Int32)) % (21 : Int32)))))])) _
      refine XS.icmpNo X7.here hx rfl (hb hby at_69) rfl (teq ((if_pos hE) : (own_isf (p2.toInt16.toInt32) (own_ff ((p1 &&& (2147483647 : Int32)) % (21 : Int32)))) = (0 : Int32))).2 ?_
      show Steps p.tables e below (T7.setTop (mkF m 72 #[.val (.int p1), .val (.int p2), .val (.int ((p1 &&& (2147483647 : Int32)) % (21 : Int32))), .val (.ref r_1), .val (.int (own_ff ((p1 &&& (2147483647 : Int32)) % (21 : Int32)))), .val (.int (p2.toInt16.toInt32)), .val (.int (own_isf (p2.toInt16.toInt32) (own_ff ((p1 &&& (2147483647 : Int32)) % (21 : Int32))))), .val (.int (own_isf ((own_ff ((p1 &&& (2147483647 : Int32)) % (21 : Int32))).toInt16.toInt32) (own_ff ((p1 &&& (2147483647 : Int32)) % (21 : Int32))))), .val (.int (own_isf (((own_ff ((p1 &&& (2147483647 : Int32)) % (21 : Int32))) - (1 : Int32)).toInt16.toInt32) (own_ff ((p1 &&& (2147483647 : Int32)) % (21 : Int32))))), .val (.int (0 : Int32))] [])) _
      refine XS.iload X7.here hx rfl (hb hby at_72) rfl ?_
      show Steps p.tables e below (T7.setTop (mkF m 74 #[.val (.int p1), .val (.int p2), .val (.int ((p1 &&& (2147483647 : Int32)) % (21 : Int32))), .val (.ref r_1), .val (.int (own_ff ((p1 &&& (2147483647 : Int32)) % (21 : Int32)))), .val (.int (p2.toInt16.toInt32)), .val (.int (own_isf (p2.toInt16.toInt32) (own_ff ((p1 &&& (2147483647 : Int32)) % (21 : Int32))))), .val (.int (own_isf ((own_ff ((p1 &&& (2147483647 : Int32)) % (21 : Int32))).toInt16.toInt32) (own_ff ((p1 &&& (2147483647 : Int32)) % (21 : Int32))))), .val (.int (own_isf (((own_ff ((p1 &&& (2147483647 : Int32)) % (21 : Int32))) - (1 : Int32)).toInt16.toInt32) (own_ff ((p1 &&& (2147483647 : Int32)) % (21 : Int32))))), .val (.int (0 : Int32))] [(.int (own_isf ((own_ff ((p1 &&& (2147483647 : Int32)) % (21 : Int32))).toInt16.toInt32) (own_ff ((p1 &&& (2147483647 : Int32)) % (21 : Int32)))))])) _
      refine XS.ifNo X7.here hx rfl (hb hby at_74) rfl ((if0 _ _).trans (feq (own_at (own_ffb (own_m p1).1 (own_m p1).2).1 (own_ffb (own_m p1).1 (own_m p1).2).2 : ¬ ((own_isf ((own_ff ((p1 &&& (2147483647 : Int32)) % (21 : Int32))).toInt16.toInt32) (own_ff ((p1 &&& (2147483647 : Int32)) % (21 : Int32)))) = (0 : Int32)))).1) ?_
      show Steps p.tables e below (T7.setTop (mkF m 77 #[.val (.int p1), .val (.int p2), .val (.int ((p1 &&& (2147483647 : Int32)) % (21 : Int32))), .val (.ref r_1), .val (.int (own_ff ((p1 &&& (2147483647 : Int32)) % (21 : Int32)))), .val (.int (p2.toInt16.toInt32)), .val (.int (own_isf (p2.toInt16.toInt32) (own_ff ((p1 &&& (2147483647 : Int32)) % (21 : Int32))))), .val (.int (own_isf ((own_ff ((p1 &&& (2147483647 : Int32)) % (21 : Int32))).toInt16.toInt32) (own_ff ((p1 &&& (2147483647 : Int32)) % (21 : Int32))))), .val (.int (own_isf (((own_ff ((p1 &&& (2147483647 : Int32)) % (21 : Int32))) - (1 : Int32)).toInt16.toInt32) (own_ff ((p1 &&& (2147483647 : Int32)) % (21 : Int32))))), .val (.int (0 : Int32))] [])) _
      refine XS.iload X7.here hx rfl (hb hby at_77) rfl ?_
      show Steps p.tables e below (T7.setTop (mkF m 79 #[.val (.int p1), .val (.int p2), .val (.int ((p1 &&& (2147483647 : Int32)) % (21 : Int32))), .val (.ref r_1), .val (.int (own_ff ((p1 &&& (2147483647 : Int32)) % (21 : Int32)))), .val (.int (p2.toInt16.toInt32)), .val (.int (own_isf (p2.toInt16.toInt32) (own_ff ((p1 &&& (2147483647 : Int32)) % (21 : Int32))))), .val (.int (own_isf ((own_ff ((p1 &&& (2147483647 : Int32)) % (21 : Int32))).toInt16.toInt32) (own_ff ((p1 &&& (2147483647 : Int32)) % (21 : Int32))))), .val (.int (own_isf (((own_ff ((p1 &&& (2147483647 : Int32)) % (21 : Int32))) - (1 : Int32)).toInt16.toInt32) (own_ff ((p1 &&& (2147483647 : Int32)) % (21 : Int32))))), .val (.int (0 : Int32))] [(.int (own_isf (((own_ff ((p1 &&& (2147483647 : Int32)) % (21 : Int32))) - (1 : Int32)).toInt16.toInt32) (own_ff ((p1 &&& (2147483647 : Int32)) % (21 : Int32)))))])) _
      refine XS.ifNo X7.here hx rfl (hb hby at_79) rfl ((if0 _ _).trans (teq (own_below (own_ffb (own_m p1).1 (own_m p1).2).1 (own_ffb (own_m p1).1 (own_m p1).2).2 : (own_isf (((own_ff ((p1 &&& (2147483647 : Int32)) % (21 : Int32))) - (1 : Int32)).toInt16.toInt32) (own_ff ((p1 &&& (2147483647 : Int32)) % (21 : Int32)))) = (0 : Int32))).2) ?_
      show Steps p.tables e below (T7.setTop (mkF m 82 #[.val (.int p1), .val (.int p2), .val (.int ((p1 &&& (2147483647 : Int32)) % (21 : Int32))), .val (.ref r_1), .val (.int (own_ff ((p1 &&& (2147483647 : Int32)) % (21 : Int32)))), .val (.int (p2.toInt16.toInt32)), .val (.int (own_isf (p2.toInt16.toInt32) (own_ff ((p1 &&& (2147483647 : Int32)) % (21 : Int32))))), .val (.int (own_isf ((own_ff ((p1 &&& (2147483647 : Int32)) % (21 : Int32))).toInt16.toInt32) (own_ff ((p1 &&& (2147483647 : Int32)) % (21 : Int32))))), .val (.int (own_isf (((own_ff ((p1 &&& (2147483647 : Int32)) % (21 : Int32))) - (1 : Int32)).toInt16.toInt32) (own_ff ((p1 &&& (2147483647 : Int32)) % (21 : Int32))))), .val (.int (0 : Int32))] [])) _
      refine XS.iconst X7.here hx rfl (hb hby at_82) ?_
      show Steps p.tables e below (T7.setTop (mkF m 83 #[.val (.int p1), .val (.int p2), .val (.int ((p1 &&& (2147483647 : Int32)) % (21 : Int32))), .val (.ref r_1), .val (.int (own_ff ((p1 &&& (2147483647 : Int32)) % (21 : Int32)))), .val (.int (p2.toInt16.toInt32)), .val (.int (own_isf (p2.toInt16.toInt32) (own_ff ((p1 &&& (2147483647 : Int32)) % (21 : Int32))))), .val (.int (own_isf ((own_ff ((p1 &&& (2147483647 : Int32)) % (21 : Int32))).toInt16.toInt32) (own_ff ((p1 &&& (2147483647 : Int32)) % (21 : Int32))))), .val (.int (own_isf (((own_ff ((p1 &&& (2147483647 : Int32)) % (21 : Int32))) - (1 : Int32)).toInt16.toInt32) (own_ff ((p1 &&& (2147483647 : Int32)) % (21 : Int32))))), .val (.int (0 : Int32))] [(.int (1 : Int32))])) _
      refine XS.goto X7.here hx rfl (pc0 := 83) (pc' := 87) rfl (hb hby at_83) (by decide) (by decide) ?_
      show Steps p.tables e below (T7.setTop (mkF m 87 #[.val (.int p1), .val (.int p2), .val (.int ((p1 &&& (2147483647 : Int32)) % (21 : Int32))), .val (.ref r_1), .val (.int (own_ff ((p1 &&& (2147483647 : Int32)) % (21 : Int32)))), .val (.int (p2.toInt16.toInt32)), .val (.int (own_isf (p2.toInt16.toInt32) (own_ff ((p1 &&& (2147483647 : Int32)) % (21 : Int32))))), .val (.int (own_isf ((own_ff ((p1 &&& (2147483647 : Int32)) % (21 : Int32))).toInt16.toInt32) (own_ff ((p1 &&& (2147483647 : Int32)) % (21 : Int32))))), .val (.int (own_isf (((own_ff ((p1 &&& (2147483647 : Int32)) % (21 : Int32))) - (1 : Int32)).toInt16.toInt32) (own_ff ((p1 &&& (2147483647 : Int32)) % (21 : Int32))))), .val (.int (0 : Int32))] [(.int (1 : Int32))])) _
      exact retN X7 hx (t := .boolean) Bd.returns (by simp) (hb hby at_87) hr
    · show Q_rm0 Z p1 p2 w_PRODUCE w_FETCH w_LIST_OFFSETS w_METADATA w_OFFSET_COMMIT w_OFFSET_FETCH w_FIND_COORDINATOR w_JOIN_GROUP w_HEARTBEAT w_LEAVE_GROUP w_SYNC_GROUP w_API_VERSIONS w_CREATE_TOPICS w_INIT_PRODUCER_ID w_OFFSET_FOR_LEADER_EPOCH w_DESCRIBE_CONFIGS w_ELECT_LEADERS w_ALTER_PARTITION w_BROKER_REGISTRATION w_BROKER_HEARTBEAT w_ALLOCATE_PRODUCER_IDS h0 n0 _ T7.heap _
      rw [e7]
      exact ⟨rfl, N7⟩
  · obtain ⟨fs, hr, hrun, hended, hW, hsame⟩ := X7.leave (v := some (.int (1 : Int32))) (fun h => by rw [Bd.returns] at h; cases h)
    refine ⟨_, _, pre8 _ ?_, hrun, hended, _, _, rfl, ?_, ⟨_, rfl⟩, hW, hsame.mono (by decide) (by decide)⟩
    · show Steps p.tables e below (T7.setTop (mkF m 55 #[.val (.int p1), .val (.int p2), .val (.int ((p1 &&& (2147483647 : Int32)) % (21 : Int32))), .val (.ref r_1), .val (.int (own_ff ((p1 &&& (2147483647 : Int32)) % (21 : Int32)))), .val (.int (p2.toInt16.toInt32)), .val (.int (own_isf (p2.toInt16.toInt32) (own_ff ((p1 &&& (2147483647 : Int32)) % (21 : Int32))))), .val (.int (own_isf ((own_ff ((p1 &&& (2147483647 : Int32)) % (21 : Int32))).toInt16.toInt32) (own_ff ((p1 &&& (2147483647 : Int32)) % (21 : Int32))))), .val (.int (own_isf (((own_ff ((p1 &&& (2147483647 : Int32)) % (21 : Int32))) - (1 : Int32)).toInt16.toInt32) (own_ff ((p1 &&& (2147483647 : Int32)) % (21 : Int32))))), .unset] [(.int (own_ff ((p1 &&& (2147483647 : Int32)) % (21 : Int32)))), (.int (p2.toInt16.toInt32))])) _
      refine XS.icmpNo X7.here hx rfl (hb hby at_55) rfl (flt hE).1 ?_
      show Steps p.tables e below (T7.setTop (mkF m 58 #[.val (.int p1), .val (.int p2), .val (.int ((p1 &&& (2147483647 : Int32)) % (21 : Int32))), .val (.ref r_1), .val (.int (own_ff ((p1 &&& (2147483647 : Int32)) % (21 : Int32)))), .val (.int (p2.toInt16.toInt32)), .val (.int (own_isf (p2.toInt16.toInt32) (own_ff ((p1 &&& (2147483647 : Int32)) % (21 : Int32))))), .val (.int (own_isf ((own_ff ((p1 &&& (2147483647 : Int32)) % (21 : Int32))).toInt16.toInt32) (own_ff ((p1 &&& (2147483647 : Int32)) % (21 : Int32))))), .val (.int (own_isf (((own_ff ((p1 &&& (2147483647 : Int32)) % (21 : Int32))) - (1 : Int32)).toInt16.toInt32) (own_ff ((p1 &&& (2147483647 : Int32)) % (21 : Int32))))), .unset] [])) _
      refine XS.iconst X7.here hx rfl (hb hby at_58) ?_
      show Steps p.tables e below (T7.setTop (mkF m 59 #[.val (.int p1), .val (.int p2), .val (.int ((p1 &&& (2147483647 : Int32)) % (21 : Int32))), .val (.ref r_1), .val (.int (own_ff ((p1 &&& (2147483647 : Int32)) % (21 : Int32)))), .val (.int (p2.toInt16.toInt32)), .val (.int (own_isf (p2.toInt16.toInt32) (own_ff ((p1 &&& (2147483647 : Int32)) % (21 : Int32))))), .val (.int (own_isf ((own_ff ((p1 &&& (2147483647 : Int32)) % (21 : Int32))).toInt16.toInt32) (own_ff ((p1 &&& (2147483647 : Int32)) % (21 : Int32))))), .val (.int (own_isf (((own_ff ((p1 &&& (2147483647 : Int32)) % (21 : Int32))) - (1 : Int32)).toInt16.toInt32) (own_ff ((p1 &&& (2147483647 : Int32)) % (21 : Int32))))), .unset] [(.int (1 : Int32))])) _
      refine XS.goto X7.here hx rfl (pc0 := 59) (pc' := 63) rfl (hb hby at_59) (by decide) (by decide) ?_
      show Steps p.tables e below (T7.setTop (mkF m 63 #[.val (.int p1), .val (.int p2), .val (.int ((p1 &&& (2147483647 : Int32)) % (21 : Int32))), .val (.ref r_1), .val (.int (own_ff ((p1 &&& (2147483647 : Int32)) % (21 : Int32)))), .val (.int (p2.toInt16.toInt32)), .val (.int (own_isf (p2.toInt16.toInt32) (own_ff ((p1 &&& (2147483647 : Int32)) % (21 : Int32))))), .val (.int (own_isf ((own_ff ((p1 &&& (2147483647 : Int32)) % (21 : Int32))).toInt16.toInt32) (own_ff ((p1 &&& (2147483647 : Int32)) % (21 : Int32))))), .val (.int (own_isf (((own_ff ((p1 &&& (2147483647 : Int32)) % (21 : Int32))) - (1 : Int32)).toInt16.toInt32) (own_ff ((p1 &&& (2147483647 : Int32)) % (21 : Int32))))), .unset] [(.int (1 : Int32))])) _
      refine XS.istore X7.here hx rfl (hb hby at_63) rfl (l' := #[.val (.int p1), .val (.int p2), .val (.int ((p1 &&& (2147483647 : Int32)) % (21 : Int32))), .val (.ref r_1), .val (.int (own_ff ((p1 &&& (2147483647 : Int32)) % (21 : Int32)))), .val (.int (p2.toInt16.toInt32)), .val (.int (own_isf (p2.toInt16.toInt32) (own_ff ((p1 &&& (2147483647 : Int32)) % (21 : Int32))))), .val (.int (own_isf ((own_ff ((p1 &&& (2147483647 : Int32)) % (21 : Int32))).toInt16.toInt32) (own_ff ((p1 &&& (2147483647 : Int32)) % (21 : Int32))))), .val (.int (own_isf (((own_ff ((p1 &&& (2147483647 : Int32)) % (21 : Int32))) - (1 : Int32)).toInt16.toInt32) (own_ff ((p1 &&& (2147483647 : Int32)) % (21 : Int32))))), .val (.int (1 : Int32))]) rfl ?_
      show Steps p.tables e below (T7.setTop (mkF m 65 #[.val (.int p1), .val (.int p2), .val (.int ((p1 &&& (2147483647 : Int32)) % (21 : Int32))), .val (.ref r_1), .val (.int (own_ff ((p1 &&& (2147483647 : Int32)) % (21 : Int32)))), .val (.int (p2.toInt16.toInt32)), .val (.int (own_isf (p2.toInt16.toInt32) (own_ff ((p1 &&& (2147483647 : Int32)) % (21 : Int32))))), .val (.int (own_isf ((own_ff ((p1 &&& (2147483647 : Int32)) % (21 : Int32))).toInt16.toInt32) (own_ff ((p1 &&& (2147483647 : Int32)) % (21 : Int32))))), .val (.int (own_isf (((own_ff ((p1 &&& (2147483647 : Int32)) % (21 : Int32))) - (1 : Int32)).toInt16.toInt32) (own_ff ((p1 &&& (2147483647 : Int32)) % (21 : Int32))))), .val (.int (1 : Int32))] [])) _
      refine XS.iload X7.here hx rfl (hb hby at_65) rfl ?_
      show Steps p.tables e below (T7.setTop (mkF m 67 #[.val (.int p1), .val (.int p2), .val (.int ((p1 &&& (2147483647 : Int32)) % (21 : Int32))), .val (.ref r_1), .val (.int (own_ff ((p1 &&& (2147483647 : Int32)) % (21 : Int32)))), .val (.int (p2.toInt16.toInt32)), .val (.int (own_isf (p2.toInt16.toInt32) (own_ff ((p1 &&& (2147483647 : Int32)) % (21 : Int32))))), .val (.int (own_isf ((own_ff ((p1 &&& (2147483647 : Int32)) % (21 : Int32))).toInt16.toInt32) (own_ff ((p1 &&& (2147483647 : Int32)) % (21 : Int32))))), .val (.int (own_isf (((own_ff ((p1 &&& (2147483647 : Int32)) % (21 : Int32))) - (1 : Int32)).toInt16.toInt32) (own_ff ((p1 &&& (2147483647 : Int32)) % (21 : Int32))))), .val (.int (1 : Int32))] [(.int (own_isf (p2.toInt16.toInt32) (own_ff ((p1 &&& (2147483647 : Int32)) % (21 : Int32)))))])) _
      refine XS.iload X7.here hx rfl (hb hby at_67) rfl ?_
      show Steps p.tables e below (T7.setTop (mkF m 69 #[.val (.int p1), .val (.int p2), .val (.int ((p1 &&& (2147483647 : Int32)) % (21 : Int32))), .val (.ref r_1), .val (.int (own_ff ((p1 &&& (2147483647 : Int32)) % (21 : Int32)))), .val (.int (p2.toInt16.toInt32)), .val (.int (own_isf (p2.toInt16.toInt32) (own_ff ((p1 &&& (2147483647 : Int32)) % (21 : Int32))))), .val (.int (own_isf ((own_ff ((p1 &&& (2147483647 : Int32)) % (21 : Int32))).toInt16.toInt32) (own_ff ((p1 &&& (2147483647 : Int32)) % (21 : Int32))))), .val (.int (own_isf (((own_ff ((p1 &&& (2147483647 : Int32)) % (21 : Int32))) - (1 : Int32)).toInt16.toInt32) (own_ff ((p1 &&& (2147483647 : Int32)) % (21 : Int32))))), .val (.int (1 : Int32))] [(.int (1 : Int32)), (.int (own_isf (p2.toInt16.toInt32) (own_ff ((p1 &&& (2147483647 : Int32)) % (21 : Int32)))))])) _
      refine XS.icmpNo X7.here hx rfl (hb hby at_69) rfl (teq ((if_neg hE) : (own_isf (p2.toInt16.toInt32) (own_ff ((p1 &&& (2147483647 : Int32)) % (21 : Int32)))) = (1 : Int32))).2 ?_
      show Steps p.tables e below (T7.setTop (mkF m 72 #[.val (.int p1), .val (.int p2), .val (.int ((p1 &&& (2147483647 : Int32)) % (21 : Int32))), .val (.ref r_1), .val (.int (own_ff ((p1 &&& (2147483647 : Int32)) % (21 : Int32)))), .val (.int (p2.toInt16.toInt32)), .val (.int (own_isf (p2.toInt16.toInt32) (own_ff ((p1 &&& (2147483647 : Int32)) % (21 : Int32))))), .val (.int (own_isf ((own_ff ((p1 &&& (2147483647 : Int32)) % (21 : Int32))).toInt16.toInt32) (own_ff ((p1 &&& (2147483647 : Int32)) % (21 : Int32))))), .val (.int (own_isf (((own_ff ((p1 &&& (2147483647 : Int32)) % (21 : Int32))) - (1 : Int32)).toInt16.toInt32) (own_ff ((p1 &&& (2147483647 : Int32)) % (21 : Int32))))), .val (.int (1 : Int32))] [])) _
      refine XS.iload X7.here hx rfl (hb hby at_72) rfl ?_
      show Steps p.tables e below (T7.setTop (mkF m 74 #[.val (.int p1), .val (.int p2), .val (.int ((p1 &&& (2147483647 : Int32)) % (21 : Int32))), .val (.ref r_1), .val (.int (own_ff ((p1 &&& (2147483647 : Int32)) % (21 : Int32)))), .val (.int (p2.toInt16.toInt32)), .val (.int (own_isf (p2.toInt16.toInt32) (own_ff ((p1 &&& (2147483647 : Int32)) % (21 : Int32))))), .val (.int (own_isf ((own_ff ((p1 &&& (2147483647 : Int32)) % (21 : Int32))).toInt16.toInt32) (own_ff ((p1 &&& (2147483647 : Int32)) % (21 : Int32))))), .val (.int (own_isf (((own_ff ((p1 &&& (2147483647 : Int32)) % (21 : Int32))) - (1 : Int32)).toInt16.toInt32) (own_ff ((p1 &&& (2147483647 : Int32)) % (21 : Int32))))), .val (.int (1 : Int32))] [(.int (own_isf ((own_ff ((p1 &&& (2147483647 : Int32)) % (21 : Int32))).toInt16.toInt32) (own_ff ((p1 &&& (2147483647 : Int32)) % (21 : Int32)))))])) _
      refine XS.ifNo X7.here hx rfl (hb hby at_74) rfl ((if0 _ _).trans (feq (own_at (own_ffb (own_m p1).1 (own_m p1).2).1 (own_ffb (own_m p1).1 (own_m p1).2).2 : ¬ ((own_isf ((own_ff ((p1 &&& (2147483647 : Int32)) % (21 : Int32))).toInt16.toInt32) (own_ff ((p1 &&& (2147483647 : Int32)) % (21 : Int32)))) = (0 : Int32)))).1) ?_
      show Steps p.tables e below (T7.setTop (mkF m 77 #[.val (.int p1), .val (.int p2), .val (.int ((p1 &&& (2147483647 : Int32)) % (21 : Int32))), .val (.ref r_1), .val (.int (own_ff ((p1 &&& (2147483647 : Int32)) % (21 : Int32)))), .val (.int (p2.toInt16.toInt32)), .val (.int (own_isf (p2.toInt16.toInt32) (own_ff ((p1 &&& (2147483647 : Int32)) % (21 : Int32))))), .val (.int (own_isf ((own_ff ((p1 &&& (2147483647 : Int32)) % (21 : Int32))).toInt16.toInt32) (own_ff ((p1 &&& (2147483647 : Int32)) % (21 : Int32))))), .val (.int (own_isf (((own_ff ((p1 &&& (2147483647 : Int32)) % (21 : Int32))) - (1 : Int32)).toInt16.toInt32) (own_ff ((p1 &&& (2147483647 : Int32)) % (21 : Int32))))), .val (.int (1 : Int32))] [])) _
      refine XS.iload X7.here hx rfl (hb hby at_77) rfl ?_
      show Steps p.tables e below (T7.setTop (mkF m 79 #[.val (.int p1), .val (.int p2), .val (.int ((p1 &&& (2147483647 : Int32)) % (21 : Int32))), .val (.ref r_1), .val (.int (own_ff ((p1 &&& (2147483647 : Int32)) % (21 : Int32)))), .val (.int (p2.toInt16.toInt32)), .val (.int (own_isf (p2.toInt16.toInt32) (own_ff ((p1 &&& (2147483647 : Int32)) % (21 : Int32))))), .val (.int (own_isf ((own_ff ((p1 &&& (2147483647 : Int32)) % (21 : Int32))).toInt16.toInt32) (own_ff ((p1 &&& (2147483647 : Int32)) % (21 : Int32))))), .val (.int (own_isf (((own_ff ((p1 &&& (2147483647 : Int32)) % (21 : Int32))) - (1 : Int32)).toInt16.toInt32) (own_ff ((p1 &&& (2147483647 : Int32)) % (21 : Int32))))), .val (.int (1 : Int32))] [(.int (own_isf (((own_ff ((p1 &&& (2147483647 : Int32)) % (21 : Int32))) - (1 : Int32)).toInt16.toInt32) (own_ff ((p1 &&& (2147483647 : Int32)) % (21 : Int32)))))])) _
      refine XS.ifNo X7.here hx rfl (hb hby at_79) rfl ((if0 _ _).trans (teq (own_below (own_ffb (own_m p1).1 (own_m p1).2).1 (own_ffb (own_m p1).1 (own_m p1).2).2 : (own_isf (((own_ff ((p1 &&& (2147483647 : Int32)) % (21 : Int32))) - (1 : Int32)).toInt16.toInt32) (own_ff ((p1 &&& (2147483647 : Int32)) % (21 : Int32)))) = (0 : Int32))).2) ?_
      show Steps p.tables e below (T7.setTop (mkF m 82 #[.val (.int p1), .val (.int p2), .val (.int ((p1 &&& (2147483647 : Int32)) % (21 : Int32))), .val (.ref r_1), .val (.int (own_ff ((p1 &&& (2147483647 : Int32)) % (21 : Int32)))), .val (.int (p2.toInt16.toInt32)), .val (.int (own_isf (p2.toInt16.toInt32) (own_ff ((p1 &&& (2147483647 : Int32)) % (21 : Int32))))), .val (.int (own_isf ((own_ff ((p1 &&& (2147483647 : Int32)) % (21 : Int32))).toInt16.toInt32) (own_ff ((p1 &&& (2147483647 : Int32)) % (21 : Int32))))), .val (.int (own_isf (((own_ff ((p1 &&& (2147483647 : Int32)) % (21 : Int32))) - (1 : Int32)).toInt16.toInt32) (own_ff ((p1 &&& (2147483647 : Int32)) % (21 : Int32))))), .val (.int (1 : Int32))] [])) _
      refine XS.iconst X7.here hx rfl (hb hby at_82) ?_
      show Steps p.tables e below (T7.setTop (mkF m 83 #[.val (.int p1), .val (.int p2), .val (.int ((p1 &&& (2147483647 : Int32)) % (21 : Int32))), .val (.ref r_1), .val (.int (own_ff ((p1 &&& (2147483647 : Int32)) % (21 : Int32)))), .val (.int (p2.toInt16.toInt32)), .val (.int (own_isf (p2.toInt16.toInt32) (own_ff ((p1 &&& (2147483647 : Int32)) % (21 : Int32))))), .val (.int (own_isf ((own_ff ((p1 &&& (2147483647 : Int32)) % (21 : Int32))).toInt16.toInt32) (own_ff ((p1 &&& (2147483647 : Int32)) % (21 : Int32))))), .val (.int (own_isf (((own_ff ((p1 &&& (2147483647 : Int32)) % (21 : Int32))) - (1 : Int32)).toInt16.toInt32) (own_ff ((p1 &&& (2147483647 : Int32)) % (21 : Int32))))), .val (.int (1 : Int32))] [(.int (1 : Int32))])) _
      refine XS.goto X7.here hx rfl (pc0 := 83) (pc' := 87) rfl (hb hby at_83) (by decide) (by decide) ?_
      show Steps p.tables e below (T7.setTop (mkF m 87 #[.val (.int p1), .val (.int p2), .val (.int ((p1 &&& (2147483647 : Int32)) % (21 : Int32))), .val (.ref r_1), .val (.int (own_ff ((p1 &&& (2147483647 : Int32)) % (21 : Int32)))), .val (.int (p2.toInt16.toInt32)), .val (.int (own_isf (p2.toInt16.toInt32) (own_ff ((p1 &&& (2147483647 : Int32)) % (21 : Int32))))), .val (.int (own_isf ((own_ff ((p1 &&& (2147483647 : Int32)) % (21 : Int32))).toInt16.toInt32) (own_ff ((p1 &&& (2147483647 : Int32)) % (21 : Int32))))), .val (.int (own_isf (((own_ff ((p1 &&& (2147483647 : Int32)) % (21 : Int32))) - (1 : Int32)).toInt16.toInt32) (own_ff ((p1 &&& (2147483647 : Int32)) % (21 : Int32))))), .val (.int (1 : Int32))] [(.int (1 : Int32))])) _
      exact retN X7 hx (t := .boolean) Bd.returns (by simp) (hb hby at_87) hr
    · show Q_rm0 Z p1 p2 w_PRODUCE w_FETCH w_LIST_OFFSETS w_METADATA w_OFFSET_COMMIT w_OFFSET_FETCH w_FIND_COORDINATOR w_JOIN_GROUP w_HEARTBEAT w_LEAVE_GROUP w_SYNC_GROUP w_API_VERSIONS w_CREATE_TOPICS w_INIT_PRODUCER_ID w_OFFSET_FOR_LEADER_EPOCH w_DESCRIBE_CONFIGS w_ELECT_LEADERS w_ALTER_PARTITION w_BROKER_REGISTRATION w_BROKER_HEARTBEAT w_ALLOCATE_PRODUCER_IDS h0 n0 _ T7.heap _
      rw [e7]
      exact ⟨rfl, N7⟩
set_option maxRecDepth 65536 in
set_option maxHeartbeats 40000000 in
theorem comes_1 {Post : Tables → Env → Array Value → State → Outcome → State → Prop} (hpost : ∀ tb e args s v u, (limb_1_1.after args s (.returned v) u = true ∧ limb_1_2.after args s (.returned v) u = true ∧ True) → FrameEnd s (.returned v) u (Jvm.fieldLocs frame_1_writes args s ++ Jvm.arrayLocs frame_1_arrays args s ++ Jvm.staticLocs frame_1_statics s) 16 128 → Post tb e args s (.returned v) u) :
    ArmFor flags0 classFile x code maxLocals ret World_1 tables_1 room_1 Calls_1 rest_1 Pre_1 Post := by
  intro l hfl _ _ p e ha hc hk s m args below hf hA hF happ hP
  obtain ⟨hcalls, hrest, hpre⟩ := hP
  obtain ⟨-, -, -, hnamed, -, -, -, hat⟩ := (Spec.applies_iff hf).mp happ
  obtain ⟨hg, hn⟩ := and_e (Cond.before_iff.mp (show (Jvm.Cond.and given_1 narrow_1).before args s = true from hpre))
  obtain ⟨gc, gr0⟩ := and_e hg
  obtain ⟨ga0, gr1⟩ := and_e gr0
  obtain ⟨w0, w1, rfl⟩ : ∃ w0 w1 : Value, args = #[w0, w1] := by
    have hs : args.size = 2 := by simpa [Cond.value, given_1] using gc
    obtain ⟨L⟩ := args
    match L, hs with
    | [w0, w1], _ => exact ⟨w0, w1, rfl⟩
  have hw := fun d (hd : d ∈ tables_1) => atoms_spec (ws := Jvm.Cond.code x code maxLocals ret :: tables_1) hat d (List.mem_cons_of_mem _ hd)
  have hfit : Fit s := fun {y c} hc i hi => by
    obtain ⟨ha, rfl⟩ := Array.getElem?_eq_some_iff.mp hc
    have q := List.all_eq_true.mp ((Array.all_eq_true_iff_forall_mem.mp hF) _ (Array.getElem_mem ha)) i (List.mem_range.mpr hi)
    simpa [Array.getElem?_eq_getElem hi] using q
  obtain ⟨i0, ei0⟩ := is_v ga0
  obtain rfl : w0 = (.int i0) := Option.some.inj ei0
  obtain ⟨i1, ei1⟩ := is_v gr1
  obtain rfl : w1 = (.int i1) := Option.some.inj ei1
  obtain ⟨c0, hn0⟩ := and_e hn
  obtain ⟨c1, hn1⟩ := and_e hn0
  obtain ⟨c2, hn2⟩ := and_e hn1
  obtain ⟨c3, hn3⟩ := and_e hn2
  obtain ⟨c4, hn4⟩ := and_e hn3
  obtain ⟨c5, hn5⟩ := and_e hn4
  obtain ⟨c6, hn6⟩ := and_e hn5
  obtain ⟨c7, hn7⟩ := and_e hn6
  obtain ⟨c8, hn8⟩ := and_e hn7
  obtain ⟨c9, hn9⟩ := and_e hn8
  obtain ⟨c10, hn10⟩ := and_e hn9
  obtain ⟨c11, hn11⟩ := and_e hn10
  obtain ⟨c12, hn12⟩ := and_e hn11
  obtain ⟨c13, hn13⟩ := and_e hn12
  obtain ⟨c14, hn14⟩ := and_e hn13
  obtain ⟨c15, hn15⟩ := and_e hn14
  obtain ⟨c16, hn16⟩ := and_e hn15
  obtain ⟨c17, hn17⟩ := and_e hn16
  obtain ⟨c18, hn18⟩ := and_e hn17
  obtain ⟨c19, hn19⟩ := and_e hn18
  obtain ⟨c20, hn20⟩ := and_e hn19
  obtain ⟨c21, hn21⟩ := and_e hn20
  obtain ⟨c22, hn22⟩ := and_e hn21
  obtain ⟨c23, hn23⟩ := and_e hn22
  obtain ⟨c24, hn24⟩ := and_e hn23
  obtain ⟨c25, hn25⟩ := and_e hn24
  obtain ⟨c26, hn26⟩ := and_e hn25
  obtain ⟨c27, hn27⟩ := and_e hn26
  obtain ⟨c28, hn28⟩ := and_e hn27
  obtain ⟨c29, hn29⟩ := and_e hn28
  obtain ⟨c30, hn30⟩ := and_e hn29
  obtain ⟨c31, hn31⟩ := and_e hn30
  obtain ⟨c32, hn32⟩ := and_e hn31
  obtain ⟨c33, hn33⟩ := and_e hn32
  obtain ⟨c34, hn34⟩ := and_e hn33
  obtain ⟨c35, hn35⟩ := and_e hn34
  obtain ⟨c36, hn36⟩ := and_e hn35
  obtain ⟨c37, hn37⟩ := and_e hn36
  obtain ⟨c38, hn38⟩ := and_e hn37
  obtain ⟨c39, hn39⟩ := and_e hn38
  obtain ⟨c40, hn40⟩ := and_e hn39
  have c41 := hn40
  obtain ⟨w_PRODUCE, ev_PRODUCE⟩ := exa_v c0
  have S_PRODUCE : Sta s s.heap "com/example/alviso/alviso/protocol/ApiKey" "PRODUCE" "Lcom/example/alviso/alviso/protocol/ApiKey;" (.ref w_PRODUCE) := Sta.start ev_PRODUCE (Or.inr ⟨(hw _ (List.mem_of_getElem? (i := 6) rfl)), (hw _ (List.mem_of_getElem? (i := 7) rfl))⟩)
  have E_PRODUCE : Exa s s.heap w_PRODUCE "com/example/alviso/alviso/protocol/ApiKey" := Exa.start ev_PRODUCE c0
  obtain ⟨w_OFFSET_FOR_LEADER_EPOCH, ev_OFFSET_FOR_LEADER_EPOCH⟩ := exa_v c2
  have S_OFFSET_FOR_LEADER_EPOCH : Sta s s.heap "com/example/alviso/alviso/protocol/ApiKey" "OFFSET_FOR_LEADER_EPOCH" "Lcom/example/alviso/alviso/protocol/ApiKey;" (.ref w_OFFSET_FOR_LEADER_EPOCH) := Sta.start ev_OFFSET_FOR_LEADER_EPOCH (Or.inr ⟨(hw _ (List.mem_of_getElem? (i := 6) rfl)), (hw _ (List.mem_of_getElem? (i := 20) rfl))⟩)
  have E_OFFSET_FOR_LEADER_EPOCH : Exa s s.heap w_OFFSET_FOR_LEADER_EPOCH "com/example/alviso/alviso/protocol/ApiKey" := Exa.start ev_OFFSET_FOR_LEADER_EPOCH c2
  obtain ⟨w_METADATA, ev_METADATA⟩ := exa_v c4
  have S_METADATA : Sta s s.heap "com/example/alviso/alviso/protocol/ApiKey" "METADATA" "Lcom/example/alviso/alviso/protocol/ApiKey;" (.ref w_METADATA) := Sta.start ev_METADATA (Or.inr ⟨(hw _ (List.mem_of_getElem? (i := 6) rfl)), (hw _ (List.mem_of_getElem? (i := 22) rfl))⟩)
  have E_METADATA : Exa s s.heap w_METADATA "com/example/alviso/alviso/protocol/ApiKey" := Exa.start ev_METADATA c4
  obtain ⟨w_HEARTBEAT, ev_HEARTBEAT⟩ := exa_v c6
  have S_HEARTBEAT : Sta s s.heap "com/example/alviso/alviso/protocol/ApiKey" "HEARTBEAT" "Lcom/example/alviso/alviso/protocol/ApiKey;" (.ref w_HEARTBEAT) := Sta.start ev_HEARTBEAT (Or.inr ⟨(hw _ (List.mem_of_getElem? (i := 6) rfl)), (hw _ (List.mem_of_getElem? (i := 24) rfl))⟩)
  have E_HEARTBEAT : Exa s s.heap w_HEARTBEAT "com/example/alviso/alviso/protocol/ApiKey" := Exa.start ev_HEARTBEAT c6
  obtain ⟨w_OFFSET_COMMIT, ev_OFFSET_COMMIT⟩ := exa_v c8
  have S_OFFSET_COMMIT : Sta s s.heap "com/example/alviso/alviso/protocol/ApiKey" "OFFSET_COMMIT" "Lcom/example/alviso/alviso/protocol/ApiKey;" (.ref w_OFFSET_COMMIT) := Sta.start ev_OFFSET_COMMIT (Or.inr ⟨(hw _ (List.mem_of_getElem? (i := 6) rfl)), (hw _ (List.mem_of_getElem? (i := 26) rfl))⟩)
  have E_OFFSET_COMMIT : Exa s s.heap w_OFFSET_COMMIT "com/example/alviso/alviso/protocol/ApiKey" := Exa.start ev_OFFSET_COMMIT c8
  obtain ⟨w_FIND_COORDINATOR, ev_FIND_COORDINATOR⟩ := exa_v c10
  have S_FIND_COORDINATOR : Sta s s.heap "com/example/alviso/alviso/protocol/ApiKey" "FIND_COORDINATOR" "Lcom/example/alviso/alviso/protocol/ApiKey;" (.ref w_FIND_COORDINATOR) := Sta.start ev_FIND_COORDINATOR (Or.inr ⟨(hw _ (List.mem_of_getElem? (i := 6) rfl)), (hw _ (List.mem_of_getElem? (i := 28) rfl))⟩)
  have E_FIND_COORDINATOR : Exa s s.heap w_FIND_COORDINATOR "com/example/alviso/alviso/protocol/ApiKey" := Exa.start ev_FIND_COORDINATOR c10
  obtain ⟨w_CREATE_TOPICS, ev_CREATE_TOPICS⟩ := exa_v c12
  have S_CREATE_TOPICS : Sta s s.heap "com/example/alviso/alviso/protocol/ApiKey" "CREATE_TOPICS" "Lcom/example/alviso/alviso/protocol/ApiKey;" (.ref w_CREATE_TOPICS) := Sta.start ev_CREATE_TOPICS (Or.inr ⟨(hw _ (List.mem_of_getElem? (i := 6) rfl)), (hw _ (List.mem_of_getElem? (i := 30) rfl))⟩)
  have E_CREATE_TOPICS : Exa s s.heap w_CREATE_TOPICS "com/example/alviso/alviso/protocol/ApiKey" := Exa.start ev_CREATE_TOPICS c12
  obtain ⟨w_BROKER_REGISTRATION, ev_BROKER_REGISTRATION⟩ := exa_v c14
  have S_BROKER_REGISTRATION : Sta s s.heap "com/example/alviso/alviso/protocol/ApiKey" "BROKER_REGISTRATION" "Lcom/example/alviso/alviso/protocol/ApiKey;" (.ref w_BROKER_REGISTRATION) := Sta.start ev_BROKER_REGISTRATION (Or.inr ⟨(hw _ (List.mem_of_getElem? (i := 6) rfl)), (hw _ (List.mem_of_getElem? (i := 32) rfl))⟩)
  have E_BROKER_REGISTRATION : Exa s s.heap w_BROKER_REGISTRATION "com/example/alviso/alviso/protocol/ApiKey" := Exa.start ev_BROKER_REGISTRATION c14
  obtain ⟨w_FETCH, ev_FETCH⟩ := exa_v c16
  have S_FETCH : Sta s s.heap "com/example/alviso/alviso/protocol/ApiKey" "FETCH" "Lcom/example/alviso/alviso/protocol/ApiKey;" (.ref w_FETCH) := Sta.start ev_FETCH (Or.inr ⟨(hw _ (List.mem_of_getElem? (i := 6) rfl)), (hw _ (List.mem_of_getElem? (i := 34) rfl))⟩)
  have E_FETCH : Exa s s.heap w_FETCH "com/example/alviso/alviso/protocol/ApiKey" := Exa.start ev_FETCH c16
  obtain ⟨w_DESCRIBE_CONFIGS, ev_DESCRIBE_CONFIGS⟩ := exa_v c18
  have S_DESCRIBE_CONFIGS : Sta s s.heap "com/example/alviso/alviso/protocol/ApiKey" "DESCRIBE_CONFIGS" "Lcom/example/alviso/alviso/protocol/ApiKey;" (.ref w_DESCRIBE_CONFIGS) := Sta.start ev_DESCRIBE_CONFIGS (Or.inr ⟨(hw _ (List.mem_of_getElem? (i := 6) rfl)), (hw _ (List.mem_of_getElem? (i := 36) rfl))⟩)
  have E_DESCRIBE_CONFIGS : Exa s s.heap w_DESCRIBE_CONFIGS "com/example/alviso/alviso/protocol/ApiKey" := Exa.start ev_DESCRIBE_CONFIGS c18
  obtain ⟨w_LIST_OFFSETS, ev_LIST_OFFSETS⟩ := exa_v c20
  have S_LIST_OFFSETS : Sta s s.heap "com/example/alviso/alviso/protocol/ApiKey" "LIST_OFFSETS" "Lcom/example/alviso/alviso/protocol/ApiKey;" (.ref w_LIST_OFFSETS) := Sta.start ev_LIST_OFFSETS (Or.inr ⟨(hw _ (List.mem_of_getElem? (i := 6) rfl)), (hw _ (List.mem_of_getElem? (i := 38) rfl))⟩)
  have E_LIST_OFFSETS : Exa s s.heap w_LIST_OFFSETS "com/example/alviso/alviso/protocol/ApiKey" := Exa.start ev_LIST_OFFSETS c20
  obtain ⟨w_BROKER_HEARTBEAT, ev_BROKER_HEARTBEAT⟩ := exa_v c22
  have S_BROKER_HEARTBEAT : Sta s s.heap "com/example/alviso/alviso/protocol/ApiKey" "BROKER_HEARTBEAT" "Lcom/example/alviso/alviso/protocol/ApiKey;" (.ref w_BROKER_HEARTBEAT) := Sta.start ev_BROKER_HEARTBEAT (Or.inr ⟨(hw _ (List.mem_of_getElem? (i := 6) rfl)), (hw _ (List.mem_of_getElem? (i := 40) rfl))⟩)
  have E_BROKER_HEARTBEAT : Exa s s.heap w_BROKER_HEARTBEAT "com/example/alviso/alviso/protocol/ApiKey" := Exa.start ev_BROKER_HEARTBEAT c22
  obtain ⟨w_SYNC_GROUP, ev_SYNC_GROUP⟩ := exa_v c24
  have S_SYNC_GROUP : Sta s s.heap "com/example/alviso/alviso/protocol/ApiKey" "SYNC_GROUP" "Lcom/example/alviso/alviso/protocol/ApiKey;" (.ref w_SYNC_GROUP) := Sta.start ev_SYNC_GROUP (Or.inr ⟨(hw _ (List.mem_of_getElem? (i := 6) rfl)), (hw _ (List.mem_of_getElem? (i := 42) rfl))⟩)
  have E_SYNC_GROUP : Exa s s.heap w_SYNC_GROUP "com/example/alviso/alviso/protocol/ApiKey" := Exa.start ev_SYNC_GROUP c24
  obtain ⟨w_ALLOCATE_PRODUCER_IDS, ev_ALLOCATE_PRODUCER_IDS⟩ := exa_v c26
  have S_ALLOCATE_PRODUCER_IDS : Sta s s.heap "com/example/alviso/alviso/protocol/ApiKey" "ALLOCATE_PRODUCER_IDS" "Lcom/example/alviso/alviso/protocol/ApiKey;" (.ref w_ALLOCATE_PRODUCER_IDS) := Sta.start ev_ALLOCATE_PRODUCER_IDS (Or.inr ⟨(hw _ (List.mem_of_getElem? (i := 6) rfl)), (hw _ (List.mem_of_getElem? (i := 44) rfl))⟩)
  have E_ALLOCATE_PRODUCER_IDS : Exa s s.heap w_ALLOCATE_PRODUCER_IDS "com/example/alviso/alviso/protocol/ApiKey" := Exa.start ev_ALLOCATE_PRODUCER_IDS c26
  obtain ⟨w_API_VERSIONS, ev_API_VERSIONS⟩ := exa_v c28
  have S_API_VERSIONS : Sta s s.heap "com/example/alviso/alviso/protocol/ApiKey" "API_VERSIONS" "Lcom/example/alviso/alviso/protocol/ApiKey;" (.ref w_API_VERSIONS) := Sta.start ev_API_VERSIONS (Or.inr ⟨(hw _ (List.mem_of_getElem? (i := 6) rfl)), (hw _ (List.mem_of_getElem? (i := 46) rfl))⟩)
  have E_API_VERSIONS : Exa s s.heap w_API_VERSIONS "com/example/alviso/alviso/protocol/ApiKey" := Exa.start ev_API_VERSIONS c28
  obtain ⟨w_JOIN_GROUP, ev_JOIN_GROUP⟩ := exa_v c30
  have S_JOIN_GROUP : Sta s s.heap "com/example/alviso/alviso/protocol/ApiKey" "JOIN_GROUP" "Lcom/example/alviso/alviso/protocol/ApiKey;" (.ref w_JOIN_GROUP) := Sta.start ev_JOIN_GROUP (Or.inr ⟨(hw _ (List.mem_of_getElem? (i := 6) rfl)), (hw _ (List.mem_of_getElem? (i := 48) rfl))⟩)
  have E_JOIN_GROUP : Exa s s.heap w_JOIN_GROUP "com/example/alviso/alviso/protocol/ApiKey" := Exa.start ev_JOIN_GROUP c30
  obtain ⟨w_OFFSET_FETCH, ev_OFFSET_FETCH⟩ := exa_v c32
  have S_OFFSET_FETCH : Sta s s.heap "com/example/alviso/alviso/protocol/ApiKey" "OFFSET_FETCH" "Lcom/example/alviso/alviso/protocol/ApiKey;" (.ref w_OFFSET_FETCH) := Sta.start ev_OFFSET_FETCH (Or.inr ⟨(hw _ (List.mem_of_getElem? (i := 6) rfl)), (hw _ (List.mem_of_getElem? (i := 50) rfl))⟩)
  have E_OFFSET_FETCH : Exa s s.heap w_OFFSET_FETCH "com/example/alviso/alviso/protocol/ApiKey" := Exa.start ev_OFFSET_FETCH c32
  obtain ⟨w_LEAVE_GROUP, ev_LEAVE_GROUP⟩ := exa_v c34
  have S_LEAVE_GROUP : Sta s s.heap "com/example/alviso/alviso/protocol/ApiKey" "LEAVE_GROUP" "Lcom/example/alviso/alviso/protocol/ApiKey;" (.ref w_LEAVE_GROUP) := Sta.start ev_LEAVE_GROUP (Or.inr ⟨(hw _ (List.mem_of_getElem? (i := 6) rfl)), (hw _ (List.mem_of_getElem? (i := 52) rfl))⟩)
  have E_LEAVE_GROUP : Exa s s.heap w_LEAVE_GROUP "com/example/alviso/alviso/protocol/ApiKey" := Exa.start ev_LEAVE_GROUP c34
  obtain ⟨w_ELECT_LEADERS, ev_ELECT_LEADERS⟩ := exa_v c36
  have S_ELECT_LEADERS : Sta s s.heap "com/example/alviso/alviso/protocol/ApiKey" "ELECT_LEADERS" "Lcom/example/alviso/alviso/protocol/ApiKey;" (.ref w_ELECT_LEADERS) := Sta.start ev_ELECT_LEADERS (Or.inr ⟨(hw _ (List.mem_of_getElem? (i := 6) rfl)), (hw _ (List.mem_of_getElem? (i := 54) rfl))⟩)
  have E_ELECT_LEADERS : Exa s s.heap w_ELECT_LEADERS "com/example/alviso/alviso/protocol/ApiKey" := Exa.start ev_ELECT_LEADERS c36
  obtain ⟨w_ALTER_PARTITION, ev_ALTER_PARTITION⟩ := exa_v c38
  have S_ALTER_PARTITION : Sta s s.heap "com/example/alviso/alviso/protocol/ApiKey" "ALTER_PARTITION" "Lcom/example/alviso/alviso/protocol/ApiKey;" (.ref w_ALTER_PARTITION) := Sta.start ev_ALTER_PARTITION (Or.inr ⟨(hw _ (List.mem_of_getElem? (i := 6) rfl)), (hw _ (List.mem_of_getElem? (i := 56) rfl))⟩)
  have E_ALTER_PARTITION : Exa s s.heap w_ALTER_PARTITION "com/example/alviso/alviso/protocol/ApiKey" := Exa.start ev_ALTER_PARTITION c38
  obtain ⟨w_INIT_PRODUCER_ID, ev_INIT_PRODUCER_ID⟩ := exa_v c40
  have S_INIT_PRODUCER_ID : Sta s s.heap "com/example/alviso/alviso/protocol/ApiKey" "INIT_PRODUCER_ID" "Lcom/example/alviso/alviso/protocol/ApiKey;" (.ref w_INIT_PRODUCER_ID) := Sta.start ev_INIT_PRODUCER_ID (Or.inr ⟨(hw _ (List.mem_of_getElem? (i := 6) rfl)), (hw _ (List.mem_of_getElem? (i := 58) rfl))⟩)
  have E_INIT_PRODUCER_ID : Exa s s.heap w_INIT_PRODUCER_ID "com/example/alviso/alviso/protocol/ApiKey" := Exa.start ev_INIT_PRODUCER_ID c40
  have F_firstFlexibleVersion_PRODUCE : Fld s s.heap w_PRODUCE "com/example/alviso/alviso/protocol/ApiKey" "firstFlexibleVersion" "S" (.int (9 : Int32)) := own_fldI ev_PRODUCE c1
  have F_firstFlexibleVersion_OFFSET_FOR_LEADER_EPOCH : Fld s s.heap w_OFFSET_FOR_LEADER_EPOCH "com/example/alviso/alviso/protocol/ApiKey" "firstFlexibleVersion" "S" (.int (4 : Int32)) := own_fldI ev_OFFSET_FOR_LEADER_EPOCH c3
  have F_firstFlexibleVersion_METADATA : Fld s s.heap w_METADATA "com/example/alviso/alviso/protocol/ApiKey" "firstFlexibleVersion" "S" (.int (9 : Int32)) := own_fldI ev_METADATA c5
  have F_firstFlexibleVersion_HEARTBEAT : Fld s s.heap w_HEARTBEAT "com/example/alviso/alviso/protocol/ApiKey" "firstFlexibleVersion" "S" (.int (4 : Int32)) := own_fldI ev_HEARTBEAT c7
  have F_firstFlexibleVersion_OFFSET_COMMIT : Fld s s.heap w_OFFSET_COMMIT "com/example/alviso/alviso/protocol/ApiKey" "firstFlexibleVersion" "S" (.int (8 : Int32)) := own_fldI ev_OFFSET_COMMIT c9
  have F_firstFlexibleVersion_FIND_COORDINATOR : Fld s s.heap w_FIND_COORDINATOR "com/example/alviso/alviso/protocol/ApiKey" "firstFlexibleVersion" "S" (.int (3 : Int32)) := own_fldI ev_FIND_COORDINATOR c11
  have F_firstFlexibleVersion_CREATE_TOPICS : Fld s s.heap w_CREATE_TOPICS "com/example/alviso/alviso/protocol/ApiKey" "firstFlexibleVersion" "S" (.int (5 : Int32)) := own_fldI ev_CREATE_TOPICS c13
  have F_firstFlexibleVersion_BROKER_REGISTRATION : Fld s s.heap w_BROKER_REGISTRATION "com/example/alviso/alviso/protocol/ApiKey" "firstFlexibleVersion" "S" (.int (0 : Int32)) := own_fldI ev_BROKER_REGISTRATION c15
  have F_firstFlexibleVersion_FETCH : Fld s s.heap w_FETCH "com/example/alviso/alviso/protocol/ApiKey" "firstFlexibleVersion" "S" (.int (12 : Int32)) := own_fldI ev_FETCH c17
  have F_firstFlexibleVersion_DESCRIBE_CONFIGS : Fld s s.heap w_DESCRIBE_CONFIGS "com/example/alviso/alviso/protocol/ApiKey" "firstFlexibleVersion" "S" (.int (4 : Int32)) := own_fldI ev_DESCRIBE_CONFIGS c19
  have F_firstFlexibleVersion_LIST_OFFSETS : Fld s s.heap w_LIST_OFFSETS "com/example/alviso/alviso/protocol/ApiKey" "firstFlexibleVersion" "S" (.int (6 : Int32)) := own_fldI ev_LIST_OFFSETS c21
  have F_firstFlexibleVersion_BROKER_HEARTBEAT : Fld s s.heap w_BROKER_HEARTBEAT "com/example/alviso/alviso/protocol/ApiKey" "firstFlexibleVersion" "S" (.int (0 : Int32)) := own_fldI ev_BROKER_HEARTBEAT c23
  have F_firstFlexibleVersion_SYNC_GROUP : Fld s s.heap w_SYNC_GROUP "com/example/alviso/alviso/protocol/ApiKey" "firstFlexibleVersion" "S" (.int (4 : Int32)) := own_fldI ev_SYNC_GROUP c25
  have F_firstFlexibleVersion_ALLOCATE_PRODUCER_IDS : Fld s s.heap w_ALLOCATE_PRODUCER_IDS "com/example/alviso/alviso/protocol/ApiKey" "firstFlexibleVersion" "S" (.int (0 : Int32)) := own_fldI ev_ALLOCATE_PRODUCER_IDS c27
  have F_firstFlexibleVersion_API_VERSIONS : Fld s s.heap w_API_VERSIONS "com/example/alviso/alviso/protocol/ApiKey" "firstFlexibleVersion" "S" (.int (3 : Int32)) := own_fldI ev_API_VERSIONS c29
  have F_firstFlexibleVersion_JOIN_GROUP : Fld s s.heap w_JOIN_GROUP "com/example/alviso/alviso/protocol/ApiKey" "firstFlexibleVersion" "S" (.int (6 : Int32)) := own_fldI ev_JOIN_GROUP c31
  have F_firstFlexibleVersion_OFFSET_FETCH : Fld s s.heap w_OFFSET_FETCH "com/example/alviso/alviso/protocol/ApiKey" "firstFlexibleVersion" "S" (.int (6 : Int32)) := own_fldI ev_OFFSET_FETCH c33
  have F_firstFlexibleVersion_LEAVE_GROUP : Fld s s.heap w_LEAVE_GROUP "com/example/alviso/alviso/protocol/ApiKey" "firstFlexibleVersion" "S" (.int (4 : Int32)) := own_fldI ev_LEAVE_GROUP c35
  have F_firstFlexibleVersion_ELECT_LEADERS : Fld s s.heap w_ELECT_LEADERS "com/example/alviso/alviso/protocol/ApiKey" "firstFlexibleVersion" "S" (.int (2 : Int32)) := own_fldI ev_ELECT_LEADERS c37
  have F_firstFlexibleVersion_ALTER_PARTITION : Fld s s.heap w_ALTER_PARTITION "com/example/alviso/alviso/protocol/ApiKey" "firstFlexibleVersion" "S" (.int (0 : Int32)) := own_fldI ev_ALTER_PARTITION c39
  have F_firstFlexibleVersion_INIT_PRODUCER_ID : Fld s s.heap w_INIT_PRODUCER_ID "com/example/alviso/alviso/protocol/ApiKey" "firstFlexibleVersion" "S" (.int (2 : Int32)) := own_fldI ev_INIT_PRODUCER_ID c41
  obtain ⟨n, o, h1, h2, h3, _, L, rfl, ⟨rfl, N⟩, hq⟩ := rm0 l s _ hw tables_1 i0 i1 w_PRODUCE w_FETCH w_LIST_OFFSETS w_METADATA w_OFFSET_COMMIT w_OFFSET_FETCH w_FIND_COORDINATOR w_JOIN_GROUP w_HEARTBEAT w_LEAVE_GROUP w_SYNC_GROUP w_API_VERSIONS w_CREATE_TOPICS w_INIT_PRODUCER_ID w_OFFSET_FOR_LEADER_EPOCH w_DESCRIBE_CONFIGS w_ELECT_LEADERS w_ALTER_PARTITION w_BROKER_REGISTRATION w_BROKER_HEARTBEAT w_ALLOCATE_PRODUCER_IDS s.heap s.heap.size (Nat.le_refl _) S_PRODUCE S_FETCH S_LIST_OFFSETS S_METADATA S_OFFSET_COMMIT S_OFFSET_FETCH S_FIND_COORDINATOR S_JOIN_GROUP S_HEARTBEAT S_LEAVE_GROUP S_SYNC_GROUP S_API_VERSIONS S_CREATE_TOPICS S_INIT_PRODUCER_ID S_OFFSET_FOR_LEADER_EPOCH S_DESCRIBE_CONFIGS S_ELECT_LEADERS S_ALTER_PARTITION S_BROKER_REGISTRATION S_BROKER_HEARTBEAT S_ALLOCATE_PRODUCER_IDS E_PRODUCE E_FETCH E_LIST_OFFSETS E_METADATA E_OFFSET_COMMIT E_OFFSET_FETCH E_FIND_COORDINATOR E_JOIN_GROUP E_HEARTBEAT E_LEAVE_GROUP E_SYNC_GROUP E_API_VERSIONS E_CREATE_TOPICS E_INIT_PRODUCER_ID E_OFFSET_FOR_LEADER_EPOCH E_DESCRIBE_CONFIGS E_ELECT_LEADERS E_ALTER_PARTITION E_BROKER_REGISTRATION E_BROKER_HEARTBEAT E_ALLOCATE_PRODUCER_IDS F_firstFlexibleVersion_PRODUCE F_firstFlexibleVersion_FETCH F_firstFlexibleVersion_LIST_OFFSETS F_firstFlexibleVersion_METADATA F_firstFlexibleVersion_OFFSET_COMMIT F_firstFlexibleVersion_OFFSET_FETCH F_firstFlexibleVersion_FIND_COORDINATOR F_firstFlexibleVersion_JOIN_GROUP F_firstFlexibleVersion_HEARTBEAT F_firstFlexibleVersion_LEAVE_GROUP F_firstFlexibleVersion_SYNC_GROUP F_firstFlexibleVersion_API_VERSIONS F_firstFlexibleVersion_CREATE_TOPICS F_firstFlexibleVersion_INIT_PRODUCER_ID F_firstFlexibleVersion_OFFSET_FOR_LEADER_EPOCH F_firstFlexibleVersion_DESCRIBE_CONFIGS F_firstFlexibleVersion_ELECT_LEADERS F_firstFlexibleVersion_ALTER_PARTITION F_firstFlexibleVersion_BROKER_REGISTRATION F_firstFlexibleVersion_BROKER_HEARTBEAT F_firstFlexibleVersion_ALLOCATE_PRODUCER_IDS p e ha hc hk s m _ below hf ((Spec.applies_iff_loose hf).mp happ).1 ⟨rfl, State.Warmed39.refl s, rfl⟩ trivial
  refine ⟨n, _, h1, h2, h3, hpost _ _ _ _ _ _ ⟨Cond.after_iff.mpr rfl, Cond.after_iff.mpr (eq_i res_at (Term.int_eval (1)) rfl), trivial⟩ ⟨hq.1, hq.2.1, (hq.2.2.sift fun y hy => Or.inr (N y hy)).mono (by decide) (by decide)⟩⟩
theorem main_1_1 : Claimed_1_1 := comes_1 fun _ _ _ _ _ _ h hF => ⟨h.1, hF⟩
theorem main_1_2 : Claimed_1_2 := comes_1 fun _ _ _ _ _ _ h hF => ⟨h.2.1, hF⟩
end Jvm.Pilot.@@N@@
namespace Jvm.Pilot.@@N@@
open Jvm Jvm.ClassFile Sem Op Lib Jvm.Free Jvm.Stand Jvm.Pilot.@@N@@.Jvm.D
/-! MADE BY PROGRAM (witnessworld.py) out of the Statement's table words and the real class files: 12 classes; the members and pool entries that the words name. The judged class is class 1, her method 1. -/
namespace start1
open Jvm.ClassFile
def u (s : String) : CpInfo := .utf8 (stringToUtf16 s)
/-- a pool by its gaps: so many unusable entries, then the entry; so many at the end -/
def gap : Nat → List CpInfo → List CpInfo
  | 0, r => r
  | n + 1, r => .unusable :: gap n r
def poolList (es : List (Nat × CpInfo)) (last : Nat) : List CpInfo := es.foldr (fun e r => gap e.1 (e.2 :: r)) (gap last [])
def pool (es : List (Nat × CpInfo)) (last : Nat) : Array CpInfo := ⟨poolList es last⟩
def fileOf (pool : Array CpInfo) (this : Nat) (attrs : Array Attribute := #[]) (ms : Array MethodInfo := #[]) (fl : Nat := 33) (sup : Nat := 0) (ifs : Array Nat := #[]) (fds : Array FieldInfo := #[]) : ClassFile where
  minorVersion := 0
  majorVersion := 65
  constantPool := pool
  accessFlags := fl
  thisClass := this
  superClass := sup
  interfaces := ifs
  fields := fds
  methods := ms
  attributes := attrs
def plain (name : String) (sup : Option ClassId) : Class where
  name := name
  kind := .ordinary
  loader := none
  accessFlags := 33
  super := sup
  interfaces := #[]
  cf := none
  fields := #[]
  methods := #[]
  instanceTypes := #[]
  staticTypes := #[]
  resolved := #[]
  callSites := []
  init := .initialized
  statics := none
  mirror := none

def pool0 : Array CpInfo := pool [(5, u "<init>"), (0, u "()V"), (1, .class_ 10), (1, u "java/lang/Object")] 113

def k0m0 : Method := { name := "<init>", desc := "()V", sig := { parameters := [], returnType := none }, accessFlags := 1, code := none }
/-- java/lang/Object -/
def k0 : Class := { plain "java/lang/Object" none with
  accessFlags := 33
  interfaces := #[]
  cf := some (fileOf pool0 8 #[] #[{ accessFlags := 1, nameIndex := 5, descriptorIndex := 6, attributes := #[] }] 33 0 #[] #[])
  fields := #[]
  methods := #[k0m0]
  instanceTypes := #[]
  staticTypes := #[]
  resolved := Array.replicate 124 none
  statics := none }

def pool1 : Array CpInfo := pool [(2, .class_ 4), (1, u "java/lang/Object"), (0, u "<init>"), (0, u "()V"), (0, .integer 2147483647), (0, .methodref 9 10), (0, .class_ 11), (0, .nameAndType 12 13), (0, u "com/example/alviso/alviso/protocol/ApiKeyIsFlexiblePinLaw"), (0, u "pick"), (0, u "(I)Lcom/example/alviso/alviso/protocol/ApiKey;"), (0, .methodref 9 15), (0, .nameAndType 16 17), (0, u "firstFlexible"), (0, u "(I)I"), (0, .methodref 19 20), (0, .class_ 21), (0, .nameAndType 22 23), (0, u "com/example/alviso/alviso/protocol/ApiKey"), (0, u "isFlexible"), (0, u "(S)Z"), (0, .fieldref 19 25), (0, .nameAndType 26 27), (0, u "PRODUCE"), (0, u "Lcom/example/alviso/alviso/protocol/ApiKey;"), (0, .fieldref 19 29), (0, .nameAndType 30 27), (0, u "FETCH"), (0, .fieldref 19 32), (0, .nameAndType 33 27), (0, u "LIST_OFFSETS"), (0, .fieldref 19 35), (0, .nameAndType 36 27), (0, u "METADATA"), (0, .fieldref 19 38), (0, .nameAndType 39 27), (0, u "OFFSET_COMMIT"), (0, .fieldref 19 41), (0, .nameAndType 42 27), (0, u "OFFSET_FETCH"), (0, .fieldref 19 44), (0, .nameAndType 45 27), (0, u "FIND_COORDINATOR"), (0, .fieldref 19 47), (0, .nameAndType 48 27), (0, u "JOIN_GROUP"), (0, .fieldref 19 50), (0, .nameAndType 51 27), (0, u "HEARTBEAT"), (0, .fieldref 19 53), (0, .nameAndType 54 27), (0, u "LEAVE_GROUP"), (0, .fieldref 19 56), (0, .nameAndType 57 27), (0, u "SYNC_GROUP"), (0, .fieldref 19 59), (0, .nameAndType 60 27), (0, u "API_VERSIONS"), (0, .fieldref 19 62), (0, .nameAndType 63 27), (0, u "CREATE_TOPICS"), (0, .fieldref 19 65), (0, .nameAndType 66 27), (0, u "INIT_PRODUCER_ID"), (0, .fieldref 19 68), (0, .nameAndType 69 27), (0, u "OFFSET_FOR_LEADER_EPOCH"), (0, .fieldref 19 71), (0, .nameAndType 72 27), (0, u "DESCRIBE_CONFIGS"), (0, .fieldref 19 74), (0, .nameAndType 75 27), (0, u "ELECT_LEADERS"), (0, .fieldref 19 77), (0, .nameAndType 78 27), (0, u "ALTER_PARTITION"), (0, .fieldref 19 80), (0, .nameAndType 81 27), (0, u "BROKER_REGISTRATION"), (0, .fieldref 19 83), (0, .nameAndType 84 27), (0, u "BROKER_HEARTBEAT"), (0, .fieldref 19 86), (0, .nameAndType 87 27), (0, u "ALLOCATE_PRODUCER_IDS"), (2, u "law"), (0, u "(II)Z")] 3

def k1m0 : Method := { name := "<init>", desc := "()V", sig := { parameters := [], returnType := none }, accessFlags := 2, code := none }
def k1c1 : Code := { maxStack := 3, maxLocals := 10, code := code, exceptionTable := #[], attributes := #[] }
def k1m1 : Method := { name := "law", desc := "(II)Z", sig := { parameters := [.int, .int], returnType := some .boolean }, accessFlags := 9, code := some k1c1 }
def k1c2 : Code := { maxStack := 4, maxLocals := 2, code := method_3_code, exceptionTable := #[], attributes := #[] }
def k1m2 : Method := { name := "firstFlexible", desc := "(I)I", sig := { parameters := [.int], returnType := some .int }, accessFlags := 10, code := some k1c2 }
def k1c3 : Code := { maxStack := 2, maxLocals := 1, code := method_4_code, exceptionTable := #[], attributes := #[] }
def k1m3 : Method := { name := "pick", desc := "(I)Lcom/example/alviso/alviso/protocol/ApiKey;", sig := { parameters := [.int], returnType := some (.object "com/example/alviso/alviso/protocol/ApiKey") }, accessFlags := 10, code := some k1c3 }
/-- com/example/alviso/alviso/protocol/ApiKeyIsFlexiblePinLaw -/
def k1 : Class := { plain "com/example/alviso/alviso/protocol/ApiKeyIsFlexiblePinLaw" (some 0) with
  accessFlags := 49
  interfaces := #[]
  cf := some (fileOf pool1 9 #[] #[{ accessFlags := 2, nameIndex := 5, descriptorIndex := 6, attributes := #[] }, { accessFlags := 9, nameIndex := 90, descriptorIndex := 91, attributes := #[] }, { accessFlags := 10, nameIndex := 16, descriptorIndex := 17, attributes := #[] }, { accessFlags := 10, nameIndex := 12, descriptorIndex := 13, attributes := #[] }] 49 2 #[] #[])
  fields := #[]
  methods := #[k1m0, k1m1, k1m2, k1m3]
  instanceTypes := #[]
  staticTypes := #[]
  resolved := Array.replicate 95 none
  statics := none }

def pool2 : Array CpInfo := pool [(1, .class_ 2), (0, u "java/lang/constant/Constable"), (0, .class_ 4), (0, u "java/lang/Object")] 6

/-- java/lang/constant/Constable -/
def k2 : Class := { plain "java/lang/constant/Constable" (some 0) with
  accessFlags := 1537
  interfaces := #[]
  cf := some (fileOf pool2 1 #[] #[] 1537 3 #[] #[])
  fields := #[]
  methods := #[]
  instanceTypes := #[]
  staticTypes := #[]
  resolved := Array.replicate 11 none
  statics := none }

def pool3 : Array CpInfo := pool [(1, .class_ 2), (0, u "java/lang/Comparable"), (0, .class_ 4), (0, u "java/lang/Object")] 7

/-- java/lang/Comparable -/
def k3 : Class := { plain "java/lang/Comparable" (some 0) with
  accessFlags := 1537
  interfaces := #[]
  cf := some (fileOf pool3 1 #[] #[] 1537 3 #[] #[])
  fields := #[]
  methods := #[]
  instanceTypes := #[]
  staticTypes := #[]
  resolved := Array.replicate 12 none
  statics := none }

def pool4 : Array CpInfo := pool [(1, .class_ 2), (0, u "java/io/Serializable"), (0, .class_ 4), (0, u "java/lang/Object")] 2

/-- java/io/Serializable -/
def k4 : Class := { plain "java/io/Serializable" (some 0) with
  accessFlags := 1537
  interfaces := #[]
  cf := some (fileOf pool4 1 #[] #[] 1537 3 #[] #[])
  fields := #[]
  methods := #[]
  instanceTypes := #[]
  staticTypes := #[]
  resolved := Array.replicate 7 none
  statics := none }

def pool5 : Array CpInfo := pool [(2, .class_ 4), (1, u "java/lang/Enum"), (0, u "name"), (0, u "Ljava/lang/String;"), (2, u "ordinal"), (0, u "I"), (1, .class_ 14), (1, u "java/lang/Object"), (4, u "hash"), (86, .class_ 108), (1, u "java/lang/Enum$EnumDesc"), (2, .class_ 112), (0, u "java/lang/constant/Constable"), (0, .class_ 114), (0, u "java/lang/Comparable"), (0, .class_ 116), (0, u "java/io/Serializable")] 87

/-- java/lang/Enum -/
def k5 : Class := { plain "java/lang/Enum" (some 0) with
  accessFlags := 1057
  interfaces := #[2, 3, 4]
  cf := some (fileOf pool5 2 #[.nestMembers #[106]] #[] 1057 12 #[111, 113, 115] #[{ accessFlags := 18, nameIndex := 5, descriptorIndex := 6, attributes := #[] }, { accessFlags := 18, nameIndex := 9, descriptorIndex := 10, attributes := #[] }, { accessFlags := 2, nameIndex := 19, descriptorIndex := 10, attributes := #[] }])
  fields := #[{ name := "name", type := (.object "java/lang/String"), accessFlags := 18, slot := 0, constantValue := 0 }, { name := "ordinal", type := .int, accessFlags := 18, slot := 1, constantValue := 0 }, { name := "hash", type := .int, accessFlags := 2, slot := 2, constantValue := 0 }]
  methods := #[]
  instanceTypes := #[(.object "java/lang/String"), .int, .int]
  staticTypes := #[]
  resolved := Array.replicate 204 none
  statics := none }

def pool6 : Array CpInfo := pool [(1, .class_ 2), (0, u "com/example/alviso/alviso/protocol/ApiKey"), (2, u "PRODUCE"), (0, u "Lcom/example/alviso/alviso/protocol/ApiKey;"), (2, u "FETCH"), (2, u "LIST_OFFSETS"), (2, u "METADATA"), (2, u "OFFSET_COMMIT"), (2, u "OFFSET_FETCH"), (2, u "FIND_COORDINATOR"), (2, u "JOIN_GROUP"), (2, u "HEARTBEAT"), (2, u "LEAVE_GROUP"), (2, u "SYNC_GROUP"), (2, u "API_VERSIONS"), (2, u "CREATE_TOPICS"), (2, u "INIT_PRODUCER_ID"), (2, u "OFFSET_FOR_LEADER_EPOCH"), (2, u "DESCRIBE_CONFIGS"), (2, u "ELECT_LEADERS"), (2, u "ALTER_PARTITION"), (2, u "BROKER_REGISTRATION"), (2, u "BROKER_HEARTBEAT"), (2, u "ALLOCATE_PRODUCER_IDS"), (2, u "$VALUES"), (0, u "[Lcom/example/alviso/alviso/protocol/ApiKey;"), (6, .class_ 79), (1, u "java/lang/Enum"), (8, u "id"), (0, u "S"), (2, u "minVersion"), (2, u "maxVersion"), (0, .fieldref 1 97), (0, .nameAndType 98 89), (0, u "firstFlexibleVersion"), (50, u "(S)Z"), (1, u "isFlexible")] 26

def k6c0 : Code := { maxStack := 2, maxLocals := 2, code := prog_9_method_9_code, exceptionTable := #[], attributes := #[] }
def k6m0 : Method := { name := "isFlexible", desc := "(S)Z", sig := { parameters := [.short], returnType := some .boolean }, accessFlags := 1, code := some k6c0 }
/-- com/example/alviso/alviso/protocol/ApiKey -/
def k6 : Class := { plain "com/example/alviso/alviso/protocol/ApiKey" (some 5) with
  accessFlags := 16433
  interfaces := #[]
  cf := some (fileOf pool6 1 #[] #[{ accessFlags := 1, nameIndex := 151, descriptorIndex := 149, attributes := #[] }] 16433 77 #[] #[{ accessFlags := 16409, nameIndex := 5, descriptorIndex := 6, attributes := #[] }, { accessFlags := 16409, nameIndex := 9, descriptorIndex := 6, attributes := #[] }, { accessFlags := 16409, nameIndex := 12, descriptorIndex := 6, attributes := #[] }, { accessFlags := 16409, nameIndex := 15, descriptorIndex := 6, attributes := #[] }, { accessFlags := 16409, nameIndex := 18, descriptorIndex := 6, attributes := #[] }, { accessFlags := 16409, nameIndex := 21, descriptorIndex := 6, attributes := #[] }, { accessFlags := 16409, nameIndex := 24, descriptorIndex := 6, attributes := #[] }, { accessFlags := 16409, nameIndex := 27, descriptorIndex := 6, attributes := #[] }, { accessFlags := 16409, nameIndex := 30, descriptorIndex := 6, attributes := #[] }, { accessFlags := 16409, nameIndex := 33, descriptorIndex := 6, attributes := #[] }, { accessFlags := 16409, nameIndex := 36, descriptorIndex := 6, attributes := #[] }, { accessFlags := 16409, nameIndex := 39, descriptorIndex := 6, attributes := #[] }, { accessFlags := 16409, nameIndex := 42, descriptorIndex := 6, attributes := #[] }, { accessFlags := 16409, nameIndex := 45, descriptorIndex := 6, attributes := #[] }, { accessFlags := 16409, nameIndex := 48, descriptorIndex := 6, attributes := #[] }, { accessFlags := 16409, nameIndex := 51, descriptorIndex := 6, attributes := #[] }, { accessFlags := 16409, nameIndex := 54, descriptorIndex := 6, attributes := #[] }, { accessFlags := 16409, nameIndex := 57, descriptorIndex := 6, attributes := #[] }, { accessFlags := 16409, nameIndex := 60, descriptorIndex := 6, attributes := #[] }, { accessFlags := 16409, nameIndex := 63, descriptorIndex := 6, attributes := #[] }, { accessFlags := 16409, nameIndex := 66, descriptorIndex := 6, attributes := #[] }, { accessFlags := 18, nameIndex := 88, descriptorIndex := 89, attributes := #[] }, { accessFlags := 18, nameIndex := 92, descriptorIndex := 89, attributes := #[] }, { accessFlags := 18, nameIndex := 95, descriptorIndex := 89, attributes := #[] }, { accessFlags := 18, nameIndex := 98, descriptorIndex := 89, attributes := #[] }, { accessFlags := 4122, nameIndex := 69, descriptorIndex := 70, attributes := #[] }])
  fields := #[{ name := "PRODUCE", type := (.object "com/example/alviso/alviso/protocol/ApiKey"), accessFlags := 16409, slot := 0, constantValue := 0 }, { name := "FETCH", type := (.object "com/example/alviso/alviso/protocol/ApiKey"), accessFlags := 16409, slot := 1, constantValue := 0 }, { name := "LIST_OFFSETS", type := (.object "com/example/alviso/alviso/protocol/ApiKey"), accessFlags := 16409, slot := 2, constantValue := 0 }, { name := "METADATA", type := (.object "com/example/alviso/alviso/protocol/ApiKey"), accessFlags := 16409, slot := 3, constantValue := 0 }, { name := "OFFSET_COMMIT", type := (.object "com/example/alviso/alviso/protocol/ApiKey"), accessFlags := 16409, slot := 4, constantValue := 0 }, { name := "OFFSET_FETCH", type := (.object "com/example/alviso/alviso/protocol/ApiKey"), accessFlags := 16409, slot := 5, constantValue := 0 }, { name := "FIND_COORDINATOR", type := (.object "com/example/alviso/alviso/protocol/ApiKey"), accessFlags := 16409, slot := 6, constantValue := 0 }, { name := "JOIN_GROUP", type := (.object "com/example/alviso/alviso/protocol/ApiKey"), accessFlags := 16409, slot := 7, constantValue := 0 }, { name := "HEARTBEAT", type := (.object "com/example/alviso/alviso/protocol/ApiKey"), accessFlags := 16409, slot := 8, constantValue := 0 }, { name := "LEAVE_GROUP", type := (.object "com/example/alviso/alviso/protocol/ApiKey"), accessFlags := 16409, slot := 9, constantValue := 0 }, { name := "SYNC_GROUP", type := (.object "com/example/alviso/alviso/protocol/ApiKey"), accessFlags := 16409, slot := 10, constantValue := 0 }, { name := "API_VERSIONS", type := (.object "com/example/alviso/alviso/protocol/ApiKey"), accessFlags := 16409, slot := 11, constantValue := 0 }, { name := "CREATE_TOPICS", type := (.object "com/example/alviso/alviso/protocol/ApiKey"), accessFlags := 16409, slot := 12, constantValue := 0 }, { name := "INIT_PRODUCER_ID", type := (.object "com/example/alviso/alviso/protocol/ApiKey"), accessFlags := 16409, slot := 13, constantValue := 0 }, { name := "OFFSET_FOR_LEADER_EPOCH", type := (.object "com/example/alviso/alviso/protocol/ApiKey"), accessFlags := 16409, slot := 14, constantValue := 0 }, { name := "DESCRIBE_CONFIGS", type := (.object "com/example/alviso/alviso/protocol/ApiKey"), accessFlags := 16409, slot := 15, constantValue := 0 }, { name := "ELECT_LEADERS", type := (.object "com/example/alviso/alviso/protocol/ApiKey"), accessFlags := 16409, slot := 16, constantValue := 0 }, { name := "ALTER_PARTITION", type := (.object "com/example/alviso/alviso/protocol/ApiKey"), accessFlags := 16409, slot := 17, constantValue := 0 }, { name := "BROKER_REGISTRATION", type := (.object "com/example/alviso/alviso/protocol/ApiKey"), accessFlags := 16409, slot := 18, constantValue := 0 }, { name := "BROKER_HEARTBEAT", type := (.object "com/example/alviso/alviso/protocol/ApiKey"), accessFlags := 16409, slot := 19, constantValue := 0 }, { name := "ALLOCATE_PRODUCER_IDS", type := (.object "com/example/alviso/alviso/protocol/ApiKey"), accessFlags := 16409, slot := 20, constantValue := 0 }, { name := "id", type := .short, accessFlags := 18, slot := 3, constantValue := 0 }, { name := "minVersion", type := .short, accessFlags := 18, slot := 4, constantValue := 0 }, { name := "maxVersion", type := .short, accessFlags := 18, slot := 5, constantValue := 0 }, { name := "firstFlexibleVersion", type := .short, accessFlags := 18, slot := 6, constantValue := 0 }, { name := "$VALUES", type := (.array (.object "com/example/alviso/alviso/protocol/ApiKey")), accessFlags := 4122, slot := 21, constantValue := 0 }]
  methods := #[k6m0]
  instanceTypes := #[(.object "java/lang/String"), .int, .int, .short, .short, .short, .short]
  staticTypes := #[(.object "com/example/alviso/alviso/protocol/ApiKey"), (.object "com/example/alviso/alviso/protocol/ApiKey"), (.object "com/example/alviso/alviso/protocol/ApiKey"), (.object "com/example/alviso/alviso/protocol/ApiKey"), (.object "com/example/alviso/alviso/protocol/ApiKey"), (.object "com/example/alviso/alviso/protocol/ApiKey"), (.object "com/example/alviso/alviso/protocol/ApiKey"), (.object "com/example/alviso/alviso/protocol/ApiKey"), (.object "com/example/alviso/alviso/protocol/ApiKey"), (.object "com/example/alviso/alviso/protocol/ApiKey"), (.object "com/example/alviso/alviso/protocol/ApiKey"), (.object "com/example/alviso/alviso/protocol/ApiKey"), (.object "com/example/alviso/alviso/protocol/ApiKey"), (.object "com/example/alviso/alviso/protocol/ApiKey"), (.object "com/example/alviso/alviso/protocol/ApiKey"), (.object "com/example/alviso/alviso/protocol/ApiKey"), (.object "com/example/alviso/alviso/protocol/ApiKey"), (.object "com/example/alviso/alviso/protocol/ApiKey"), (.object "com/example/alviso/alviso/protocol/ApiKey"), (.object "com/example/alviso/alviso/protocol/ApiKey"), (.object "com/example/alviso/alviso/protocol/ApiKey"), (.array (.object "com/example/alviso/alviso/protocol/ApiKey"))]
  resolved := Array.replicate 178 none
  statics := some 0 }

def pool7 : Array CpInfo := pool [(1, u "java/lang/Cloneable"), (0, .class_ 1), (0, u "java/lang/Object"), (0, .class_ 3)] 3

/-- java/lang/Cloneable -/
def k7 : Class := { plain "java/lang/Cloneable" (some 0) with
  accessFlags := 1537
  interfaces := #[]
  cf := some (fileOf pool7 2 #[] #[] 1537 4 #[] #[])
  fields := #[]
  methods := #[]
  instanceTypes := #[]
  staticTypes := #[]
  resolved := Array.replicate 8 none
  statics := none }

/-- the primitive byte -/
def k8 : Class := { plain "byte" none with kind := .primitive 'B', accessFlags := 0x411 }
/-- [B -/
def k9 : Class := { plain "[B" (some 0) with kind := .array 8 .byte, interfaces := #[7, 4], accessFlags := 1041 }

/-- the primitive int -/
def k10 : Class := { plain "int" none with kind := .primitive 'I', accessFlags := 0x411 }
/-- [I -/
def k11 : Class := { plain "[I" (some 0) with kind := .array 10 .int, interfaces := #[7, 4], accessFlags := 1041 }

def heap : Heap := #[{ cls := 6, slots := #[.ref 1, .ref 9, .ref 11, .ref 3, .ref 5, .ref 17, .ref 6, .ref 16, .ref 4, .ref 18, .ref 13, .ref 15, .ref 7, .ref 21, .ref 2, .ref 10, .ref 19, .ref 20, .ref 8, .ref 12, .ref 14, .null], vm := .statics 6 },
  { cls := 6, slots := #[.null, .int 0, .int 0, .int 0, .int 0, .int 0, .int 9], vm := .none },
  { cls := 6, slots := #[.null, .int 0, .int 0, .int 0, .int 0, .int 0, .int 4], vm := .none },
  { cls := 6, slots := #[.null, .int 0, .int 0, .int 0, .int 0, .int 0, .int 9], vm := .none },
  { cls := 6, slots := #[.null, .int 0, .int 0, .int 0, .int 0, .int 0, .int 4], vm := .none },
  { cls := 6, slots := #[.null, .int 0, .int 0, .int 0, .int 0, .int 0, .int 8], vm := .none },
  { cls := 6, slots := #[.null, .int 0, .int 0, .int 0, .int 0, .int 0, .int 3], vm := .none },
  { cls := 6, slots := #[.null, .int 0, .int 0, .int 0, .int 0, .int 0, .int 5], vm := .none },
  { cls := 6, slots := #[.null, .int 0, .int 0, .int 0, .int 0, .int 0, .int 0], vm := .none },
  { cls := 6, slots := #[.null, .int 0, .int 0, .int 0, .int 0, .int 0, .int 12], vm := .none },
  { cls := 6, slots := #[.null, .int 0, .int 0, .int 0, .int 0, .int 0, .int 4], vm := .none },
  { cls := 6, slots := #[.null, .int 0, .int 0, .int 0, .int 0, .int 0, .int 6], vm := .none },
  { cls := 6, slots := #[.null, .int 0, .int 0, .int 0, .int 0, .int 0, .int 0], vm := .none },
  { cls := 6, slots := #[.null, .int 0, .int 0, .int 0, .int 0, .int 0, .int 4], vm := .none },
  { cls := 6, slots := #[.null, .int 0, .int 0, .int 0, .int 0, .int 0, .int 0], vm := .none },
  { cls := 6, slots := #[.null, .int 0, .int 0, .int 0, .int 0, .int 0, .int 3], vm := .none },
  { cls := 6, slots := #[.null, .int 0, .int 0, .int 0, .int 0, .int 0, .int 6], vm := .none },
  { cls := 6, slots := #[.null, .int 0, .int 0, .int 0, .int 0, .int 0, .int 6], vm := .none },
  { cls := 6, slots := #[.null, .int 0, .int 0, .int 0, .int 0, .int 0, .int 4], vm := .none },
  { cls := 6, slots := #[.null, .int 0, .int 0, .int 0, .int 0, .int 0, .int 2], vm := .none },
  { cls := 6, slots := #[.null, .int 0, .int 0, .int 0, .int 0, .int 0, .int 0], vm := .none },
  { cls := 6, slots := #[.null, .int 0, .int 0, .int 0, .int 0, .int 0, .int 2], vm := .none }]
def classes : Array Class := #[k0, k1, k2, k3, k4, k5, k6, k7, k8, k9, k10, k11]
def interned : List (Array UInt16 × Addr) := []
def slotsUsed : Nat := 169
def theMethod : MethodId := ⟨1, 1⟩
def args0 : Array Value := #[.int 5, .int 9]
def aboutOver (below : List Frame) : State where
  vm := { classes := classes, interned := interned.toArray }
  heap := heap
  slotsUsed := slotsUsed
  threads := #[{ frames := .invoking theMethod args0 :: below }]
def below0 : List Frame := [.native { method := ⟨0, 0⟩, args := #[] }]
def about1 : State := aboutOver below0
def p0 : Program := .bare "" "" ""
def e0 : Env := launch0.env 0 0 0
theorem w_frames : about1.frames = Frame.invoking theMethod args0 :: below0 := rfl
set_option maxRecDepth 65536 in
theorem w_args : argsFit about1.vm theMethod args0 = true := by decide +kernel
set_option maxRecDepth 65536 in
theorem w_heap : heapFits about1 = true := by decide +kernel
set_option maxRecDepth 65536 in
theorem w_runnable : about1.curStatus? = some .runnable := by decide +kernel
set_option maxRecDepth 65536 in
theorem w_alone : about1.alone = true := by decide +kernel
set_option maxRecDepth 65536 in
theorem w_named : about1.methodNamed? x = some theMethod := by decide +kernel
set_option maxRecDepth 65536 in
theorem w_hears : about1.hears theMethod below0 = true := by decide +kernel
set_option maxRecDepth 65536 in
theorem w_ripe : about1.ripe theMethod args0 below0 = true := by decide +kernel
theorem w_running : about1.status = .running := rfl
set_option maxRecDepth 65536 in
theorem w_room : about1.hasRoom e0.platform room_1 = true :=
  launch0.hasRoom_least _ room_1 (by decide +kernel) (by decide +kernel) (by decide +kernel) (by decide +kernel) (by decide +kernel) (by decide +kernel)
theorem allAtoms_all (ts : List Jvm.Cond) (a : Array Jvm.Value) (st : Jvm.State) : (allAtoms ts).before a st = ts.all (fun c => c.before a st) := by
  induction ts with
  | nil => rfl
  | cons c t ih =>
    show (Jvm.Cond.and c (allAtoms t)).before a st = _
    rw [Jvm.Cond.before_and, ih, List.all_cons]
def words1 : List Jvm.Cond := Jvm.Cond.code x code maxLocals ret :: tables_1
/-- a 'code' word, met by the world's own term for the bytes: nothing is compared byte by byte -/
theorem code_word {y : MethodName} {bytes : ByteArray} {mx : Nat} {rt : Option FieldType} {a : Array Value} {s : State} {m : MethodId} {meth : Method} {c : Code} (h1 : s.methodNamed? y = some m) (h2 : s.vm.method? m = some meth) (h3 : meth.code = some c) (h4 : c.code = bytes)
    (h5 : (c.maxLocals == mx && c.exceptionTable.isEmpty && decide (c.maxStack ≤ mostOperands) && decide (meth.sig.returnType = rt) && !meth.locks && decide (parseMethodDescriptor y.desc = some meth.sig)) = true) : (Jvm.Cond.code y bytes mx rt).before a s = true := by
  simp only [Bool.and_eq_true, beq_iff_eq, Bool.not_eq_true', decide_eq_true_eq] at h5
  obtain ⟨⟨⟨⟨⟨g1, g2⟩, g3⟩, g4⟩, g5⟩, g6⟩ := h5
  simp [Cond.before, Cond.holds, Cond.value, h1, h2, h3, h4, g1, g2, g3, g4, g5, g6]
def isCode : Jvm.Cond → Bool
  | .code _ _ _ _ => true
  | _ => false
theorem all_split {L : List Jvm.Cond} {P : Jvm.Cond → Bool} (h1 : L.all (fun c => isCode c || P c) = true) (h2 : ∀ c ∈ L.filter isCode, P c = true) : L.all P = true := by
  refine List.all_eq_true.mpr fun c hc => ?_
  have h := List.all_eq_true.mp h1 c hc
  rcases Bool.eq_false_or_eq_true (isCode c) with hi | hi
  · exact h2 c (List.mem_filter.mpr ⟨hc, hi⟩)
  · simpa [hi] using h
set_option maxRecDepth 65536 in
theorem w_c0 : (Jvm.Cond.code x code maxLocals ret).before args0 about1 = true := code_word (m := ⟨1, 1⟩) (meth := k1m1) (c := k1c1) (by decide +kernel) rfl rfl rfl (by decide +kernel)
set_option maxRecDepth 65536 in
theorem w_c1 : (Jvm.Cond.code ({ cls := "com/example/alviso/alviso/protocol/ApiKeyIsFlexiblePinLaw", name := "pick", desc := "(I)Lcom/example/alviso/alviso/protocol/ApiKey;" } : Jvm.MethodName) method_4_code (1 : Nat) (Option.some (Jvm.ClassFile.FieldType.object "com/example/alviso/alviso/protocol/ApiKey"))).before args0 about1 = true := code_word (m := ⟨1, 3⟩) (meth := k1m3) (c := k1c3) (by decide +kernel) rfl rfl rfl (by decide +kernel)
set_option maxRecDepth 65536 in
theorem w_c2 : (Jvm.Cond.code ({ cls := "com/example/alviso/alviso/protocol/ApiKeyIsFlexiblePinLaw", name := "firstFlexible", desc := "(I)I" } : Jvm.MethodName) method_3_code (2 : Nat) (Option.some Jvm.ClassFile.FieldType.int)).before args0 about1 = true := code_word (m := ⟨1, 2⟩) (meth := k1m2) (c := k1c2) (by decide +kernel) rfl rfl rfl (by decide +kernel)
set_option maxRecDepth 65536 in
theorem w_c3 : (Jvm.Cond.code ({ cls := "com/example/alviso/alviso/protocol/ApiKey", name := "isFlexible", desc := "(S)Z" } : Jvm.MethodName) prog_9_method_9_code (2 : Nat) (Option.some Jvm.ClassFile.FieldType.boolean)).before args0 about1 = true := code_word (m := ⟨6, 0⟩) (meth := k6m0) (c := k6c0) (by decide +kernel) rfl rfl rfl (by decide +kernel)
def codes1 : List Jvm.Cond := [Jvm.Cond.code x code maxLocals ret, Jvm.Cond.code ({ cls := "com/example/alviso/alviso/protocol/ApiKeyIsFlexiblePinLaw", name := "pick", desc := "(I)Lcom/example/alviso/alviso/protocol/ApiKey;" } : Jvm.MethodName) method_4_code (1 : Nat) (Option.some (Jvm.ClassFile.FieldType.object "com/example/alviso/alviso/protocol/ApiKey")), Jvm.Cond.code ({ cls := "com/example/alviso/alviso/protocol/ApiKeyIsFlexiblePinLaw", name := "firstFlexible", desc := "(I)I" } : Jvm.MethodName) method_3_code (2 : Nat) (Option.some Jvm.ClassFile.FieldType.int), Jvm.Cond.code ({ cls := "com/example/alviso/alviso/protocol/ApiKey", name := "isFlexible", desc := "(S)Z" } : Jvm.MethodName) prog_9_method_9_code (2 : Nat) (Option.some Jvm.ClassFile.FieldType.boolean)]
set_option maxRecDepth 65536 in
theorem codes_eq : words1.filter isCode = codes1 := rfl
theorem w_codes : ∀ c ∈ words1.filter isCode, c.before args0 about1 = true := by
  rw [codes_eq]
  intro c hc
  simp only [codes1, List.mem_cons, List.not_mem_nil, or_false] at hc
  rcases hc with rfl | rfl | rfl | rfl
  · exact w_c0
  · exact w_c1
  · exact w_c2
  · exact w_c3
set_option maxRecDepth 65536 in
theorem w_t1 : (words1.take 24).all (fun c => isCode c || c.before args0 about1) = true := by decide +kernel
set_option maxRecDepth 65536 in
theorem w_t2 : ((words1.drop 24).take 24).all (fun c => isCode c || c.before args0 about1) = true := by decide +kernel
set_option maxRecDepth 65536 in
theorem w_t3 : ((words1.drop 24).drop 24).all (fun c => isCode c || c.before args0 about1) = true := by decide +kernel
theorem w_tables : (allAtoms (Jvm.Cond.code x code maxLocals ret :: tables_1)).before args0 about1 = true := by
  rw [allAtoms_all]
  show words1.all (fun c => c.before args0 about1) = true
  refine all_split ?_ w_codes
  rw [← List.take_append_drop 24 words1, List.all_append, w_t1, ← List.take_append_drop 24 (words1.drop 24), List.all_append, w_t2, w_t3]
  rfl
set_option maxRecDepth 65536 in
theorem w_case : (Jvm.Cond.and given_1 narrow_1).before args0 about1 = true := by decide +kernel
theorem w_applies : (headSpec (Jvm.Cond.code x code maxLocals ret :: tables_1) room_1).applies x e0.platform about1 = true :=
  (Spec.applies_iff w_frames).mpr ⟨w_running, w_runnable, w_alone, w_named, w_hears, w_ripe, w_room, w_tables⟩
theorem atStart : AtStart classFile x code maxLocals ret World_1 tables_1 room_1 Calls_1 rest_1 Pre_1 launch0 p0 e0 about1 theMethod args0 below0 :=
  ⟨lists_1, trivial, launch0.admits_env _ _ _, launch0.least_env, fairChoices_fair.cas, fairChoices_fair.clock, w_frames, w_args, w_heap, w_applies, trivial, trivial, w_case⟩
end start1
theorem witness_1 : WitnessClaimed_1 := ⟨start1.p0, start1.e0, start1.about1, start1.theMethod, start1.args0, start1.below0, start1.atStart⟩
end Jvm.Pilot.@@N@@
